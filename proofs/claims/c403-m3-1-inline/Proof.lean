import JvmDerived
import JvmDerived.Pilot.@@N@@Statement
import JvmDerived.Pilot.@@N@@Code
set_option linter.unusedVariables false
set_option linter.unusedSimpArgs false
namespace Jvm.RoadKit
open Sem ClassFile Op Lib Jvm.Stand Jvm.Free Jvm.LawKit
section New
variable {p : Program} {l : Launch} {e : Env} {R : Room} {s : State} {m : MethodId} {args : Array Value} {below : List Frame} {meth : Method} {c : Code} {T : State} {locs : List Loc} {cells slots : Nat}
theorem retI (X : Stand p l e R s m args below meth c T locs cells slots) (hx : p.tables.exec = Jvm.exec) {pc : Nat} {Ls : Array Slot} {z : Int32} {rest : List Value} (hret : meth.sig.returnType = some .int) (hd : decode c.code pc = .ok (.ireturn, 1)) {fs : List Frame}
    (hl : ∀ (f : JFrame) (acts : List Action), f.method = m → f.locked = none → f.entered = [] → (doReturn e (T.setTop f) acts (some (.int z))).1 = T.setFrames fs) : Steps p.tables e below (T.setTop (mkF m pc Ls (.int z :: rest))) (T.setFrames fs) := by
  have hm' : T.vm.method? m = some meth := X.method'
  have hn : narrow .int (.int z) = .int z := rfl
  show Steps p.tables e below (T.setTop { method := m, pc := pc, locals := Ls, stack := _ :: rest, locked := none }) _
  jvm_step X.here [X.here.top, hx, hd, hm', hret, hn]
  first | (intro acts; rw [hl _ acts rfl rfl rfl]) | rw [hl _ _ rfl rfl rfl]
  exact Steps.refl _
end New
end Jvm.RoadKit
/- laws to paste: Road.backV, Road.eqW, Road.codOf (cut by pick.py; bodies as the Statement names them) -/
namespace Jvm.Pilot.@@N@@
namespace StrChars
open Jvm Sem ClassFile Op Lib Jvm.Stand Jvm.Free.XT Jvm.Free.ALB Jvm.Free.JM Jvm.Free
open Jvm.Lib.Cold (StaticIs)
/-- a char array whose places are chars -/
def Ch (a : Addr) (A : Cell) (U : State) : Prop := Arr .char a A U ∧ Typed .char A
theorem Ch.mv {a : Addr} {A : Cell} {U U' : State} (h : Ch a A U) (hal : U.vm.Alike U'.vm) (hh : U'.heap = U.heap) : Ch a A U' := ⟨h.1.mv hal hh, h.2⟩
theorem Ch.keep {a : Addr} {A : Cell} {U U' : State} (h : Ch a A U) (hal : U.vm.Alike U'.vm) (hk : U'.heap[a]? = some A) : Ch a A U' := ⟨h.1.keep hal hk, h.2⟩
/-- what place i of a char[]'s cell holds -/
def cv (A : Cell) (i : Nat) : Int32 := match A.slots[i]? with | some (.int x) => x | _ => 0
theorem Ch.get {a : Addr} {A : Cell} {U : State} (h : Ch a A U) {i : Nat} (hi : i < A.slots.size) : A.slots[i]? = some (.int (cv A i)) := by
  have e := Array.getElem?_eq_getElem hi
  have f := h.2 i _ e
  unfold cv; rw [e]
  generalize A.slots[i] = v at f
  cases v <;> simp [fits] at f ⊢
/-- the byte that i2b leaves of a char -/
def lo8 (x : Int32) : Int32 := x.toInt8.toInt32
theorem fits_lo8 (y : Int32) : fits .byte (.int (lo8 y)) = true := by
  have h1 := y.toInt8.le_toInt
  have h2 := y.toInt8.toInt_lt
  simp only [lo8, fits, Bool.and_eq_true, decide_eq_true_eq, Int32.le_iff_toInt_le, Int8.toInt_toInt32, show (-128 : Int32).toInt = -128 from by decide, show (127 : Int32).toInt = 127 from by decide]
  omega
/-- A' is A but that each place j of lo .. hi - 1 holds f j -/
def Laid (A A' : Cell) (lo hi : Nat) (f : Nat → Value) : Prop := A'.cls = A.cls ∧ A'.vm = A.vm ∧ A'.slots.size = A.slots.size ∧ ∀ i, A'.slots[i]? = if lo ≤ i ∧ i < hi then some (f i) else A.slots[i]?
theorem Laid.zero (A : Cell) (lo : Nat) (f : Nat → Value) : Laid A A lo (lo + 0) f := ⟨rfl, rfl, rfl, fun i => by rw [if_neg (by omega)]⟩
theorem Laid.step {A Ak : Cell} {lo k : Nat} {f : Nat → Value} {v : Value} (h : Laid A Ak lo k f) (hlo : lo ≤ k) (hk : k < Ak.slots.size) (hv : v = f k) : Laid A (Ak.setSlot k v) lo (k + 1) f := by
  refine ⟨h.1, h.2.1, by simpa [Cell.setSlot] using h.2.2.1, fun i => ?_⟩
  by_cases e : k = i
  · subst e; rw [Cell.slots_setSlot_self v hk, if_pos (by omega), hv]
  · rw [Cell.slots_setSlot_ne v e, h.2.2.2 i]
    by_cases q : lo ≤ i ∧ i < k
    · rw [if_pos q, if_pos (by omega)]
    · rw [if_neg q, if_neg (by omega)]
def U16 : String := "java/lang/StringUTF16"
namespace Cmp5
def yN : MethodName := ⟨"java/lang/StringUTF16", "compress", "([CI[BII)I"⟩
abbrev yB : ByteArray := jdk_52_method_21_code
theorem d0 : decode yB 0 = .ok (.iconst 0, 1) := by decide +kernel
theorem d1 : decode yB 1 = .ok (.istore 5, 2) := by decide +kernel
theorem d3 : decode yB 3 = .ok (.iload 5, 2) := by decide +kernel
theorem d5 : decode yB 5 = .ok (.iload 4, 2) := by decide +kernel
theorem d7 : decode yB 7 = .ok (.if_icmp (.ge) 37, 3) := by decide +kernel
theorem d10 : decode yB 10 = .ok (.aload_n 0, 1) := by decide +kernel
theorem d11 : decode yB 11 = .ok (.iload_n 1, 1) := by decide +kernel
theorem d12 : decode yB 12 = .ok (.caload, 1) := by decide +kernel
theorem d13 : decode yB 13 = .ok (.istore 6, 2) := by decide +kernel
theorem d15 : decode yB 15 = .ok (.iload 6, 2) := by decide +kernel
theorem d17 : decode yB 17 = .ok (.sipush 255, 3) := by decide +kernel
theorem d20 : decode yB 20 = .ok (.if_icmp (.le) 6, 3) := by decide +kernel
theorem d26 : decode yB 26 = .ok (.aload_n 2, 1) := by decide +kernel
theorem d27 : decode yB 27 = .ok (.iload_n 3, 1) := by decide +kernel
theorem d28 : decode yB 28 = .ok (.iload 6, 2) := by decide +kernel
theorem d30 : decode yB 30 = .ok (.i2b, 1) := by decide +kernel
theorem d31 : decode yB 31 = .ok (.bastore, 1) := by decide +kernel
theorem d32 : decode yB 32 = .ok (.iinc 1 1, 3) := by decide +kernel
theorem d35 : decode yB 35 = .ok (.iinc 3 1, 3) := by decide +kernel
theorem d38 : decode yB 38 = .ok (.iinc 5 1, 3) := by decide +kernel
theorem d41 : decode yB 41 = .ok (.goto (-38), 3) := by decide +kernel
theorem d44 : decode yB 44 = .ok (.iload 4, 2) := by decide +kernel
theorem d46 : decode yB 46 = .ok (.ireturn, 1) := by decide +kernel
def site : List Cond := []
def tab : Cond := tabOf yN yB 7 (some .int) site
def P (b : Addr) (A : Cell) (d : Addr) (B : Cell) (o q len : Nat) (args : Array Value) (s : State) : Prop := args = #[.ref b, .int (Int32.ofNat o), .ref d, .int (Int32.ofNat q), .int (Int32.ofNat len)] ∧ Ch b A s ∧ Arr .byte d B s ∧ b ≠ d ∧ o + len ≤ A.slots.size ∧ q + len ≤ B.slots.size ∧ ∀ i, i < len → ¬ 255 < cv A (o + i)
def E (b : Addr) (A : Cell) (d : Addr) (B : Cell) (o q len : Nat) (r : Option Value) (s u : State) : Prop := r = some (.int (Int32.ofNat len)) ∧ ∃ B', Put d B' s u ∧ Laid B B' q (q + len) (fun j => Value.int (lo8 (cv A (o + (j - q)))))
/-- no char of the range above 255: len; the places written hold each char's low byte -/
theorem law (l : Launch) (b : Addr) (A : Cell) (d : Addr) (B : Cell) (o q len : Nat) : Law l yN 5 5 0 0 yB 7 (some .int) site (P b A d B o q len) (E b A d B o q len) (copyLocs d q len) 0 0 := by
  refine Law.of_walk (plainFor_of_name (by decide +kernel)) (by decide +kernel) (by decide +kernel) (by decide) (fun _ _ h => by rw [h.1]; rfl) (fun _ U U' hal hh h => ⟨h.1, h.2.1.mv hal hh, h.2.2.1.mv hal hh, h.2.2.2⟩) (fun r U U' V V' h1 hal h2 h => ⟨h.1, h.2.elim fun B' q => ⟨B', q.1.mv h1 h2, q.2⟩⟩) ?_
  intro p e s m args below meth c s₁ X0 hexec hbytes hml hret hlk hnm hown hh0 W hP
  obtain ⟨rfl, hA, hB, hne, l1, l2, hp⟩ := hP
  have c1 : Steps p.tables e below (s₁.setTop (entryFrame m #[.ref b, .int (Int32.ofNat o), .ref d, .int (Int32.ofNat q), .int (Int32.ofNat len)] 7)) (s₁.setTop (mkF m 0 #[.val (.ref b), .val (.int (Int32.ofNat o)), .val (.ref d), .val (.int (Int32.ofNat q)), .val (.int (Int32.ofNat len)), .unset, .unset] [])) := entry rfl
  have hA0 := hA.1.mv X0.warmed.alike hh0
  have hB0 := hB.mv X0.warmed.alike hh0
  have a31 := hA.1.2.2.2
  have c2 : Steps p.tables e below (s₁.setTop (entryFrame m #[.ref b, .int (Int32.ofNat o), .ref d, .int (Int32.ofNat q), .int (Int32.ofNat len)] 7)) (s₁.setTop (mkF m 3 #[.val (.ref b), .val (.int (Int32.ofNat o)), .val (.ref d), .val (.int (Int32.ofNat q)), .val (.int (Int32.ofNat len)), .val (.int 0), .unset] [])) := c1.trans (by
    refine iconstV X0.here hexec rfl 0 (hb hbytes d0) (by decide) ?_
    refine XS.istore X0.here hexec rfl (hb hbytes d1) rfl rfl ?_
    exact Steps.refl _)
  have loop : ∀ (r i : Nat), i + r = len → ∀ (z : Slot), (z = .unset ∨ ∃ w, z = .val w ∧ w.category = 1) → ∀ (Tl : State) (Bk : Cell), Stand p l e { frames := 0, locals := 0, cells := 0, slots := 0 } s m #[.ref b, .int (Int32.ofNat o), .ref d, .int (Int32.ofNat q), .int (Int32.ofNat len)] below meth c Tl ([] ++ copyLocs d q i) 0 0 → Put d Bk s₁ Tl → Laid B Bk q (q + i) (fun j => Value.int (lo8 (cv A (o + (j - q))))) →
      Steps p.tables e below (s₁.setTop (entryFrame m #[.ref b, .int (Int32.ofNat o), .ref d, .int (Int32.ofNat q), .int (Int32.ofNat len)] 7)) (Tl.setTop (mkF m 3 #[.val (.ref b), .val (.int (Int32.ofNat (o + i))), .val (.ref d), .val (.int (Int32.ofNat (q + i))), .val (.int (Int32.ofNat len)), .val (.int (Int32.ofNat i)), z] [])) → ∃ (T' : State) (B' : Cell) (z' : Slot), Stand p l e { frames := 0, locals := 0, cells := 0, slots := 0 } s m #[.ref b, .int (Int32.ofNat o), .ref d, .int (Int32.ofNat q), .int (Int32.ofNat len)] below meth c T' ([] ++ copyLocs d q len) 0 0 ∧ Put d B' s₁ T' ∧ Laid B B' q (q + len) (fun j => Value.int (lo8 (cv A (o + (j - q))))) ∧
      Steps p.tables e below (s₁.setTop (entryFrame m #[.ref b, .int (Int32.ofNat o), .ref d, .int (Int32.ofNat q), .int (Int32.ofNat len)] 7)) (T'.setTop (mkF m 3 #[.val (.ref b), .val (.int (Int32.ofNat (o + len))), .val (.ref d), .val (.int (Int32.ofNat (q + len))), .val (.int (Int32.ofNat len)), .val (.int (Int32.ofNat len)), z'] [])) := by
    intro r
    induction r with
    | zero =>
      intro i hi z hz Tl Bk Xl pl fl cl
      have hil : i = len := by omega
      rw [hil] at Xl fl cl
      exact ⟨Tl, Bk, z, Xl, pl, fl, cl⟩
    | succ r ih =>
      intro i hi z hz Tl Bk Xl pl fl cl
      have all := X0.warmed.alike.symm.trans Xl.warmed.alike
      have hAl := hA0.keep all (pl.other hne hA0.1)
      have hBk := hB0.like all pl.1 fl.1 fl.2.1 fl.2.2.1
      have hlt : q + i < Bk.slots.size := by rw [fl.2.2.1]; omega
      have c3 : Steps p.tables e below (s₁.setTop (entryFrame m #[.ref b, .int (Int32.ofNat o), .ref d, .int (Int32.ofNat q), .int (Int32.ofNat len)] 7)) (Tl.setTop (mkF m 12 #[.val (.ref b), .val (.int (Int32.ofNat (o + i))), .val (.ref d), .val (.int (Int32.ofNat (q + i))), .val (.int (Int32.ofNat len)), .val (.int (Int32.ofNat i)), z] [.int (Int32.ofNat (o + i)), .ref b])) := cl.trans (by
        refine XS.iload Xl.here hexec rfl (hb hbytes d3) rfl ?_
        refine XS.iload Xl.here hexec rfl (hb hbytes d5) rfl ?_
        refine XS.icmpNo Xl.here hexec rfl (hb hbytes d7) rfl (ii_ge_f (lt32 (by omega) (by omega))) ?_
        refine XS.aloadN Xl.here hexec rfl (hb hbytes d10) rfl rfl ?_
        refine XS.iloadN Xl.here hexec rfl (hb hbytes d11) rfl ?_
        exact Steps.refl _)
      have c4 : Steps p.tables e below (s₁.setTop (entryFrame m #[.ref b, .int (Int32.ofNat o), .ref d, .int (Int32.ofNat q), .int (Int32.ofNat len)] 7)) (Tl.setTop (mkF m 13 #[.val (.ref b), .val (.int (Int32.ofNat (o + i))), .val (.ref d), .val (.int (Int32.ofNat (q + i))), .val (.int (Int32.ofNat len)), .val (.int (Int32.ofNat i)), z] [.int (cv A (o + i))])) := c3.trans (by
        refine Xl.aget hexec hAl rfl (hA.get (i := o + i) (by omega)) rfl rfl (hb hbytes d12) ?_
        exact Steps.refl _)
      have c5 : Steps p.tables e below (s₁.setTop (entryFrame m #[.ref b, .int (Int32.ofNat o), .ref d, .int (Int32.ofNat q), .int (Int32.ofNat len)] 7)) (Tl.setTop (mkF m 15 #[.val (.ref b), .val (.int (Int32.ofNat (o + i))), .val (.ref d), .val (.int (Int32.ofNat (q + i))), .val (.int (Int32.ofNat len)), .val (.int (Int32.ofNat i)), .val (.int (cv A (o + i)))] [])) := c4.trans (by
        refine XS.istoreS Xl.here hexec rfl (hb hbytes d13) rfl rfl hz ?_
        exact Steps.refl _)
      have c6 : Steps p.tables e below (s₁.setTop (entryFrame m #[.ref b, .int (Int32.ofNat o), .ref d, .int (Int32.ofNat q), .int (Int32.ofNat len)] 7)) (Tl.setTop (mkF m 31 #[.val (.ref b), .val (.int (Int32.ofNat (o + i))), .val (.ref d), .val (.int (Int32.ofNat (q + i))), .val (.int (Int32.ofNat len)), .val (.int (Int32.ofNat i)), .val (.int (cv A (o + i)))] [.int (lo8 (cv A (o + i))), .int (Int32.ofNat (q + i)), .ref d])) := c5.trans (by
        refine XS.iload Xl.here hexec rfl (hb hbytes d15) rfl ?_
        refine sipushV Xl.here hexec rfl 255 (hb hbytes d17) (by decide) ?_
        refine XS.icmpYes Xl.here hexec rfl (pc0 := 20) rfl (hb hbytes d20) rfl (ii_le_t (hp i (by omega))) (by decide) rfl ?_
        refine XS.aloadN Xl.here hexec rfl (hb hbytes d26) rfl rfl ?_
        refine XS.iloadN Xl.here hexec rfl (hb hbytes d27) rfl ?_
        refine XS.iload Xl.here hexec rfl (hb hbytes d28) rfl ?_
        refine i2b Xl.here hexec rfl (hb hbytes d30) rfl ?_
        exact Steps.refl _)
      obtain ⟨T7, X7, p7, st7⟩ := Xl.aput hexec hBk rfl hlt rfl (fits_lo8 (cv A (o + i))) (g := (mkF m 31 #[.val (.ref b), .val (.int (Int32.ofNat (o + i))), .val (.ref d), .val (.int (Int32.ofNat (q + i))), .val (.int (Int32.ofNat len)), .val (.int (Int32.ofNat i)), .val (.int (cv A (o + i)))] [.int (lo8 (cv A (o + i))), .int (Int32.ofNat (q + i)), .ref d])) rfl (rest := []) rfl (hb hbytes d31)
      have c8 : Steps p.tables e below (s₁.setTop (entryFrame m #[.ref b, .int (Int32.ofNat o), .ref d, .int (Int32.ofNat q), .int (Int32.ofNat len)] 7)) (T7.setTop (mkF m 32 #[.val (.ref b), .val (.int (Int32.ofNat (o + i))), .val (.ref d), .val (.int (Int32.ofNat (q + i))), .val (.int (Int32.ofNat len)), .val (.int (Int32.ofNat i)), .val (.int (cv A (o + i)))] [])) := c6.trans (st7 _ (Steps.refl _))
      have c9 : Steps p.tables e below (s₁.setTop (entryFrame m #[.ref b, .int (Int32.ofNat o), .ref d, .int (Int32.ofNat q), .int (Int32.ofNat len)] 7)) (T7.setTop (mkF m 3 #[.val (.ref b), .val (.int (Int32.ofNat (o + i) + 1)), .val (.ref d), .val (.int (Int32.ofNat (q + i) + 1)), .val (.int (Int32.ofNat len)), .val (.int (Int32.ofNat i + 1)), .val (.int (cv A (o + i)))] [])) := c8.trans (by
        refine iincV X7.here hexec rfl 1 (hb hbytes d32) (by decide) rfl rfl ?_
        refine iincV X7.here hexec rfl 1 (hb hbytes d35) (by decide) rfl rfl ?_
        refine iincV X7.here hexec rfl 1 (hb hbytes d38) (by decide) rfl rfl ?_
        refine XS.goto X7.here hexec rfl (pc0 := 41) rfl (hb hbytes d41) (by decide) rfl ?_
        exact Steps.refl _)
      have c10 : Steps p.tables e below (s₁.setTop (entryFrame m #[.ref b, .int (Int32.ofNat o), .ref d, .int (Int32.ofNat q), .int (Int32.ofNat len)] 7)) (T7.setTop (mkF m 3 #[.val (.ref b), .val (.int (Int32.ofNat (o + (i + 1)))), .val (.ref d), .val (.int (Int32.ofNat (q + (i + 1)))), .val (.int (Int32.ofNat len)), .val (.int (Int32.ofNat (i + 1))), .val (.int (cv A (o + i)))] [])) := by
        have := c9
        rw [succ32, succ32, succ32] at this
        exact this
      exact ih (i + 1) (by omega) _ (Or.inr ⟨_, rfl, rfl⟩) T7 _ (by rw [copyLocs_step, ← List.append_assoc]; exact X7) (pl.trans p7) (fl.step (by omega) hlt (by simp)) c10
  obtain ⟨T9, B9, z9, X9, p9, f9, g9⟩ := loop len 0 (by omega) .unset (Or.inl rfl) s₁ B (by simpa [copyLocs] using X0) ⟨hB0.1, fun _ _ => rfl, rfl⟩ (Laid.zero _ _ _) c2
  have c11 : Steps p.tables e below (s₁.setTop (entryFrame m #[.ref b, .int (Int32.ofNat o), .ref d, .int (Int32.ofNat q), .int (Int32.ofNat len)] 7)) (T9.setTop (mkF m 46 #[.val (.ref b), .val (.int (Int32.ofNat (o + len))), .val (.ref d), .val (.int (Int32.ofNat (q + len))), .val (.int (Int32.ofNat len)), .val (.int (Int32.ofNat len)), z9] [.int (Int32.ofNat len)])) := g9.trans (by
    refine XS.iload X9.here hexec rfl (hb hbytes d3) rfl ?_
    refine XS.iload X9.here hexec rfl (hb hbytes d5) rfl ?_
    refine XS.icmpYes X9.here hexec rfl (pc0 := 7) rfl (hb hbytes d7) rfl (ii_ge_t (nlt32 (by omega) (Nat.le_refl _))) (by decide) rfl ?_
    refine XS.iload X9.here hexec rfl (hb hbytes d44) rfl ?_
    exact Steps.refl _)
  exact ⟨T9, some (.int (Int32.ofNat len)), _, _, _, X9, by simp, rfl, rfl, (fun h => by cases h), ⟨rfl, B9, p9.from hh0, f9⟩, fun fs hl => c11.trans (X9.ireturnOut hexec hret rfl (Or.inl rfl) (hb hbytes d46) hl)⟩
end Cmp5
namespace Cmp3
def yN : MethodName := ⟨"java/lang/StringUTF16", "compress", "([CII)[B"⟩
abbrev yB : ByteArray := jdk_52_method_16_code
theorem d0 : decode yB 0 = .ok (.iload_n 2, 1) := by decide +kernel
theorem d1 : decode yB 1 = .ok (.newarray .byte, 2) := by decide +kernel
theorem d3 : decode yB 3 = .ok (.astore_n 3, 1) := by decide +kernel
theorem d4 : decode yB 4 = .ok (.aload_n 0, 1) := by decide +kernel
theorem d5 : decode yB 5 = .ok (.iload_n 1, 1) := by decide +kernel
theorem d6 : decode yB 6 = .ok (.aload_n 3, 1) := by decide +kernel
theorem d7 : decode yB 7 = .ok (.iconst 0, 1) := by decide +kernel
theorem d8 : decode yB 8 = .ok (.iload_n 2, 1) := by decide +kernel
theorem d9 : decode yB 9 = .ok (.invokestatic 115, 3) := by decide +kernel
theorem d12 : decode yB 12 = .ok (.istore 4, 2) := by decide +kernel
theorem d14 : decode yB 14 = .ok (.iload 4, 2) := by decide +kernel
theorem d16 : decode yB 16 = .ok (.iload_n 2, 1) := by decide +kernel
theorem d17 : decode yB 17 = .ok (.if_icmp (.eq) 40, 3) := by decide +kernel
theorem d57 : decode yB 57 = .ok (.aload_n 3, 1) := by decide +kernel
theorem d58 : decode yB 58 = .ok (.areturn, 1) := by decide +kernel
def site : List Cond := [.arrayClass .byte, Cmp5.tab] ++ staticW U16 115 Cmp5.yN
def tab : Cond := tabOf yN yB 6 (some (.array .byte)) site
def P (b : Addr) (A : Cell) (o len : Nat) (args : Array Value) (s : State) : Prop := args = #[.ref b, .int (Int32.ofNat o), .int (Int32.ofNat len)] ∧ Ch b A s ∧ o + len ≤ A.slots.size ∧ len ≤ 536870912 ∧ ∀ i, i < len → ¬ 255 < cv A (o + i)
def E (b : Addr) (A : Cell) (o len : Nat) (r : Option Value) (s u : State) : Prop := NewArr .byte "[B" len (fun j => .int (lo8 (cv A (o + j)))) r s u ∧ u.heap.size = s.heap.size + 1
/-- no char of the range above 255: a new byte[] of their low bytes -/
theorem law (l : Launch) (b : Addr) (A : Cell) (o len : Nat) : Law l yN 3 3 1 18 yB 6 (some (.array .byte)) site (P b A o len) (E b A o len) [] 1 len := by
  refine Law.of_walk (plainFor_of_name (by decide +kernel)) (by decide +kernel) (by decide +kernel) (by decide) (fun _ _ h => by rw [h.1]; rfl) (fun _ U U' hal hh h => ⟨h.1, h.2.1.mv hal hh, h.2.2⟩) (fun r U U' V V' h1 hal h2 h => ⟨NewArr.mv r U U' V V' h1 hal h2 h.1, by rw [h1, h2]; exact h.2⟩) ?_
  intro p e s m args below meth c s₁ X0 hexec hbytes hml hret hlk hnm hown hh0 W hP
  obtain ⟨rfl, hA, l1, l2, hp⟩ := hP
  have a31 := hA.1.2.2.2
  have c1 : Steps p.tables e below (s₁.setTop (entryFrame m #[.ref b, .int (Int32.ofNat o), .int (Int32.ofNat len)] 6)) (s₁.setTop (mkF m 0 #[.val (.ref b), .val (.int (Int32.ofNat o)), .val (.int (Int32.ofNat len)), .unset, .unset, .unset] [])) := entry rfl
  have c2 : Steps p.tables e below (s₁.setTop (entryFrame m #[.ref b, .int (Int32.ofNat o), .int (Int32.ofNat len)] 6)) (s₁.setTop (mkF m 1 #[.val (.ref b), .val (.int (Int32.ofNat o)), .val (.int (Int32.ofNat len)), .unset, .unset, .unset] [.int (Int32.ofNat len)])) := c1.trans (by
    refine XS.iloadN X0.here hexec rfl (hb hbytes d0) rfl ?_
    exact Steps.refl _)
  obtain ⟨T3, B3, X3, ba3, bs3, bv3, bh3, bf3, st3⟩ := X0.anew hexec (atype := .byte) (wk W (.arrayClass .byte)) rfl (by show len * 1 ≤ _; omega) (by omega) (g := (mkF m 1 #[.val (.ref b), .val (.int (Int32.ofNat o)), .val (.int (Int32.ofNat len)), .unset, .unset, .unset] [.int (Int32.ofNat len)])) rfl (hb hbytes d1) (rest := []) rfl (Nat.le_refl _) (by show 0 + len ≤ len; omega)
  rw [hh0] at ba3 st3
  have kp3 : XT.Kept s T3 := (XT.Kept.of_eq hh0).push bh3
  have hA3 := hA.keep X3.warmed.alike (kp3 _ _ hA.1.1)
  have hne : b ≠ s.heap.size := hA.1.ne
  have c4 : Steps p.tables e below (s₁.setTop (entryFrame m #[.ref b, .int (Int32.ofNat o), .int (Int32.ofNat len)] 6)) (T3.setTop (mkF m 3 #[.val (.ref b), .val (.int (Int32.ofNat o)), .val (.int (Int32.ofNat len)), .unset, .unset, .unset] [.ref s.heap.size])) := c2.trans (st3 _ (Steps.refl _))
  have c5 : Steps p.tables e below (s₁.setTop (entryFrame m #[.ref b, .int (Int32.ofNat o), .int (Int32.ofNat len)] 6)) (T3.setTop (mkF m 9 #[.val (.ref b), .val (.int (Int32.ofNat o)), .val (.int (Int32.ofNat len)), .val (.ref s.heap.size), .unset, .unset] [.int (Int32.ofNat len), .int 0, .ref s.heap.size, .int (Int32.ofNat o), .ref b])) := c4.trans (by
    refine XS.astoreN X3.here hexec rfl (hb hbytes d3) rfl rfl rfl ?_
    refine XS.aloadN X3.here hexec rfl (hb hbytes d4) rfl rfl ?_
    refine XS.iloadN X3.here hexec rfl (hb hbytes d5) rfl ?_
    refine XS.aloadN X3.here hexec rfl (hb hbytes d6) rfl rfl ?_
    refine iconstV X3.here hexec rfl 0 (hb hbytes d7) (by decide) ?_
    refine XS.iloadN X3.here hexec rfl (hb hbytes d8) rfl ?_
    exact Steps.refl _)
  obtain ⟨v6, T6, X6, E6, g6⟩ := X3.callS hexec (Cmp5.law l b A s.heap.size B3 o 0 len) hown (wks W (staticW U16 115 Cmp5.yN)) (wk W Cmp5.tab) (W := 0) (Nat.le_of_ble_eq_true rfl) (Nat.le_of_ble_eq_true rfl) (Nat.le_refl _) (by show 0 + len + 0 ≤ len; omega) (g := (mkF m 9 #[.val (.ref b), .val (.int (Int32.ofNat o)), .val (.int (Int32.ofNat len)), .val (.ref s.heap.size), .unset, .unset] [.int (Int32.ofNat len), .int (Int32.ofNat 0), .ref s.heap.size, .int (Int32.ofNat o), .ref b])) rfl (by rw [hml]; rfl) c5 (argsL := [.ref b, .int (Int32.ofNat o), .ref s.heap.size, .int (Int32.ofNat 0), .int (Int32.ofNat len)]) (rest := []) rfl rfl (by show 2 * 0 + 0 ≤ _; decide) (hb hbytes d9) (⟨rfl, hA3, ba3, hne, l1, by rw [bs3]; simp, hp⟩)
  obtain ⟨rfl, B6, p6, f6⟩ := E6
  have c7 : Steps p.tables e below (s₁.setTop (entryFrame m #[.ref b, .int (Int32.ofNat o), .int (Int32.ofNat len)] 6)) (T6.setTop (mkF m 12 #[.val (.ref b), .val (.int (Int32.ofNat o)), .val (.int (Int32.ofNat len)), .val (.ref s.heap.size), .unset, .unset] [.int (Int32.ofNat len)])) := g6
  have c8 : Steps p.tables e below (s₁.setTop (entryFrame m #[.ref b, .int (Int32.ofNat o), .int (Int32.ofNat len)] 6)) (T6.setTop (mkF m 58 #[.val (.ref b), .val (.int (Int32.ofNat o)), .val (.int (Int32.ofNat len)), .val (.ref s.heap.size), .val (.int (Int32.ofNat len)), .unset] [.ref s.heap.size])) := c7.trans (by
    refine XS.istore X6.here hexec rfl (hb hbytes d12) rfl rfl ?_
    refine XS.iload X6.here hexec rfl (hb hbytes d14) rfl ?_
    refine XS.iloadN X6.here hexec rfl (hb hbytes d16) rfl ?_
    refine XS.icmpYes X6.here hexec rfl (pc0 := 17) rfl (hb hbytes d17) rfl (ii_eq_t rfl) (by decide) rfl ?_
    refine XS.aloadN X6.here hexec rfl (hb hbytes d57) rfl rfl ?_
    exact Steps.refl _)
  have X8 := X6.wide (L' := []) (cells' := 1) (slots' := len) (fun x hx hlt => by
    simp only [List.nil_append, copyLocs, List.mem_map, List.mem_range] at hx
    obtain ⟨i, -, rfl⟩ := hx
    exact absurd hlt (Nat.lt_irrefl _)) (Nat.le_refl _) (by omega)
  exact ⟨T6, some (.ref s.heap.size), _, _, _, X8, rfl, rfl, rfl, (fun h => by cases h), ⟨⟨rfl, B6, ba3.like (X3.warmed.alike.symm.trans X6.warmed.alike) p6.1 f6.1 f6.2.1 f6.2.2.1, f6.2.1.trans bv3, by rw [X6.warmed.alike.findClass, f6.1]; exact bf3, by rw [f6.2.2.1, bs3]; simp, fun j hj => by rw [f6.2.2.2 j, if_pos (by omega)]; rfl, kp3.put p6 (Nat.le_refl _)⟩, by rw [p6.2.2, bh3, hh0]; simp⟩, fun fs hl => c8.trans (X8.areturnOut hexec rfl hret rfl (hb hbytes d58) hl)⟩
end Cmp3
namespace CodL
def yN : MethodName := ⟨"java/lang/StringUTF16", "coderFromArrayLen", "([BI)B"⟩
abbrev yB : ByteArray := jdk_52_method_15_code
theorem d0 : decode yB 0 = .ok (.iload_n 1, 1) := by decide +kernel
theorem d1 : decode yB 1 = .ok (.aload_n 0, 1) := by decide +kernel
theorem d2 : decode yB 2 = .ok (.arraylength, 1) := by decide +kernel
theorem d3 : decode yB 3 = .ok (.isub, 1) := by decide +kernel
theorem d4 : decode yB 4 = .ok (.bipush 31, 2) := by decide +kernel
theorem d6 : decode yB 6 = .ok (.iushr, 1) := by decide +kernel
theorem d7 : decode yB 7 = .ok (.i2b, 1) := by decide +kernel
theorem d8 : decode yB 8 = .ok (.ireturn, 1) := by decide +kernel
def site : List Cond := []
def tab : Cond := tabOf yN yB 2 (some .byte) site
def P (d : Addr) (B : Cell) (args : Array Value) (s : State) : Prop := args = #[.ref d, .int (Int32.ofNat B.slots.size)] ∧ Arr .byte d B s
def E (r : Option Value) (s u : State) : Prop := XT.PureE (some (.int 0)) r s u
/-- an array as long as the number of chars: LATIN1 -/
theorem law (l : Launch) (d : Addr) (B : Cell) : Law l yN 2 2 0 0 yB 2 (some .byte) site (P d B) E [] 0 0 := by
  refine Law.of_walk (plainFor_of_name (by decide +kernel)) (by decide +kernel) (by decide +kernel) (by decide) (fun _ _ h => by rw [h.1]; rfl) (fun _ U U' hal hh h => ⟨h.1, h.2.mv hal hh⟩) (fun r U U' V V' h1 hal h2 h => XT.PureE.mv r U U' V V' h1 hal h2 h) ?_
  intro p e s m args below meth c s₁ X0 hexec hbytes hml hret hlk hnm hown hh0 W hP
  obtain ⟨rfl, hB⟩ := hP
  have hB0 := hB.mv X0.warmed.alike hh0
  have c1 : Steps p.tables e below (s₁.setTop (entryFrame m #[.ref d, .int (Int32.ofNat B.slots.size)] 2)) (s₁.setTop (mkF m 0 #[.val (.ref d), .val (.int (Int32.ofNat B.slots.size))] [])) := entry rfl
  have c2 : Steps p.tables e below (s₁.setTop (entryFrame m #[.ref d, .int (Int32.ofNat B.slots.size)] 2)) (s₁.setTop (mkF m 2 #[.val (.ref d), .val (.int (Int32.ofNat B.slots.size))] [.ref d, .int (Int32.ofNat B.slots.size)])) := c1.trans (by
    refine XS.iloadN X0.here hexec rfl (hb hbytes d0) rfl ?_
    refine XS.aloadN X0.here hexec rfl (hb hbytes d1) rfl rfl ?_
    exact Steps.refl _)
  have c3 : Steps p.tables e below (s₁.setTop (entryFrame m #[.ref d, .int (Int32.ofNat B.slots.size)] 2)) (s₁.setTop (mkF m 8 #[.val (.ref d), .val (.int (Int32.ofNat B.slots.size))] [.int (lo8 (ushr (Int32.ofNat B.slots.size - Int32.ofNat B.slots.size) 31))])) := c2.trans (by
    refine X0.alen hexec hB0 rfl rfl (hb hbytes d2) ?_
    refine XS.isub X0.here hexec rfl (hb hbytes d3) rfl ?_
    refine bipushV X0.here hexec rfl 31 (hb hbytes d4) (by decide) ?_
    refine iushr X0.here hexec rfl (hb hbytes d6) rfl ?_
    refine i2b X0.here hexec rfl (hb hbytes d7) rfl ?_
    exact Steps.refl _)
  have e0 : lo8 (ushr (Int32.ofNat B.slots.size - Int32.ofNat B.slots.size) 31) = 0 := by rw [Int32.sub_self]; decide
  rw [e0] at c3
  exact ⟨s₁, some (.int 0), _, _, _, X0, rfl, rfl, rfl, (fun h => by cases h), ⟨rfl, hh0⟩, fun fs hl => c3.trans (X0.ireturnOut hexec hret rfl (Or.inr (Or.inr (Or.inl rfl))) (hb hbytes d8) hl)⟩
end CodL
/-- the String at a is Latin-1 over a new byte[] (the heap's one new cell): the low bytes of the len chars of A from o on; every cell but a is kept -/
def Got (a : Addr) (D : Cell) (fV fC : Field) (A : Cell) (o len : Nat) (r : Option Value) (s u : State) : Prop := r = none ∧ ∃ D' V : Cell, Blank "java/lang/String" a D' u ∧ Same D D' [fV.slot, fC.slot] ∧ D'.slots[fV.slot]? = some (.ref s.heap.size) ∧ D'.slots[fC.slot]? = some (.int 0) ∧ Arr .byte s.heap.size V u ∧ V.vm = .none ∧ u.vm.findClass "[B" = some V.cls ∧ V.slots.size = len ∧ (∀ j, j < len → V.slots[j]? = some (.int (lo8 (cv A (o + j))))) ∧ (∀ (y : Addr) (c : Cell), y ≠ a → s.heap[y]? = some c → u.heap[y]? = some c) ∧ u.heap.size = s.heap.size + 1
theorem Got.mv {a : Addr} {D A : Cell} {fV fC : Field} {o len : Nat} : ∀ r (U U' V V' : State), U'.heap = U.heap → V.vm.Alike V'.vm → V'.heap = V.heap → Got a D fV fC A o len r U V → Got a D fV fC A o len r U' V' :=
  fun r U U' V V' h1 hal h2 ⟨e0, D', X, a1, a2, a3, a4, a5, a6, a7, a8, a9, a10, a11⟩ => ⟨e0, D', X, a1.mv hal h2, a2, by rw [h1]; exact a3, a4, by rw [h1]; exact a5.mv hal h2, a6, by rw [hal.findClass]; exact a7, a8, a9, by rw [h1, h2]; exact a10, by rw [h1, h2]; exact a11⟩
namespace New4
def yN : MethodName := ⟨"java/lang/String", "<init>", "([CIILjava/lang/Void;)V"⟩
abbrev yB : ByteArray := jdk_42_method_149_code
theorem d0 : decode yB 0 = .ok (.aload_n 0, 1) := by decide +kernel
theorem d1 : decode yB 1 = .ok (.invokespecial 1, 3) := by decide +kernel
theorem d4 : decode yB 4 = .ok (.iload_n 3, 1) := by decide +kernel
theorem d5 : decode yB 5 = .ok (.ifCond (.ne) 22, 3) := by decide +kernel
theorem d27 : decode yB 27 = .ok (.getstatic 38, 3) := by decide +kernel
theorem d30 : decode yB 30 = .ok (.ifCond (.eq) 28, 3) := by decide +kernel
theorem d33 : decode yB 33 = .ok (.aload_n 1, 1) := by decide +kernel
theorem d34 : decode yB 34 = .ok (.iload_n 2, 1) := by decide +kernel
theorem d35 : decode yB 35 = .ok (.iload_n 3, 1) := by decide +kernel
theorem d36 : decode yB 36 = .ok (.invokestatic 177, 3) := by decide +kernel
theorem d39 : decode yB 39 = .ok (.astore 5, 2) := by decide +kernel
theorem d41 : decode yB 41 = .ok (.aload_n 0, 1) := by decide +kernel
theorem d42 : decode yB 42 = .ok (.aload 5, 2) := by decide +kernel
theorem d44 : decode yB 44 = .ok (.iload_n 3, 1) := by decide +kernel
theorem d45 : decode yB 45 = .ok (.invokestatic 47, 3) := by decide +kernel
theorem d48 : decode yB 48 = .ok (.putfield 15, 3) := by decide +kernel
theorem d51 : decode yB 51 = .ok (.aload_n 0, 1) := by decide +kernel
theorem d52 : decode yB 52 = .ok (.aload 5, 2) := by decide +kernel
theorem d54 : decode yB 54 = .ok (.putfield 9, 3) := by decide +kernel
theorem d57 : decode yB 57 = .ok (.return_, 1) := by decide +kernel
def site : List Cond := [.fieldLink "java/lang/String" 38 "java/lang/String" "COMPACT_STRINGS" "Z", Cmp3.tab, CodL.tab, .laysFinal "java/lang/String" "java/lang/String" "value" "[B", .fieldLink "java/lang/String" 9 "java/lang/String" "value" "[B", .laysFinal "java/lang/String" "java/lang/String" "coder" "B", .fieldLink "java/lang/String" 15 "java/lang/String" "coder" "B"] ++ objW "java/lang/String" 1 ++ staticW "java/lang/String" 177 Cmp3.yN ++ staticW "java/lang/String" 47 CodL.yN
def tab : Cond := tabOf yN yB 6 none site
def P (a : Addr) (D : Cell) (fV fC : Field) (b : Addr) (A : Cell) (z : Int32) (o len : Nat) (args : Array Value) (s : State) : Prop := args = #[.ref a, .ref b, .int (Int32.ofNat o), .int (Int32.ofNat len), .null] ∧ Blank "java/lang/String" a D s ∧ Found "java/lang/String" "value" "[B" fV s ∧ Found "java/lang/String" "coder" "B" fC s ∧ Ch b A s ∧ StaticIs s "java/lang/String" "COMPACT_STRINGS" "Z" (.int z) ∧ ¬ z = 0 ∧ 0 < len ∧ o + len ≤ A.slots.size ∧ len ≤ 536870912 ∧ ∀ i, i < len → ¬ 255 < cv A (o + i)
def E (a : Addr) (D : Cell) (fV fC : Field) (A : Cell) (o len : Nat) (r : Option Value) (s u : State) : Prop := Got a D fV fC A o len r s u
/-- len > 0, no char of the range above 255: a Latin-1 String of their low bytes -/
theorem law (l : Launch) (a : Addr) (D : Cell) (fV fC : Field) (b : Addr) (A : Cell) (z : Int32) (o len : Nat) : Law l yN 5 4 2 35 yB 6 none site (P a D fV fC b A z o len) (E a D fV fC A o len) [⟨a, fC.slot⟩, ⟨a, fV.slot⟩] 1 len := by
  refine Law.of_walk (plainFor_of_name (by decide +kernel)) (by decide +kernel) (by decide +kernel) (by decide) (fun _ _ h => by rw [h.1]; rfl) (fun _ U U' hal hh h => ⟨h.1, h.2.1.mv hal hh, h.2.2.1.al hal, h.2.2.2.1.al hal, h.2.2.2.2.1.mv hal hh, h.2.2.2.2.2.1.there hal hh, h.2.2.2.2.2.2⟩) (fun r U U' V V' h1 hal h2 h => Got.mv r U U' V V' h1 hal h2 h) ?_
  intro p e s m args below meth c s₁ X0 hexec hbytes hml hret hlk hnm hown hh0 W hP
  obtain ⟨rfl, hB, f1, f2, hA, s1, hz, l0, l1, l2, hp⟩ := hP
  have a31 := hA.1.2.2.2
  have c1 : Steps p.tables e below (s₁.setTop (entryFrame m #[.ref a, .ref b, .int (Int32.ofNat o), .int (Int32.ofNat len), .null] 6)) (s₁.setTop (mkF m 0 #[.val (.ref a), .val (.ref b), .val (.int (Int32.ofNat o)), .val (.int (Int32.ofNat len)), .val .null, .unset] [])) := entry rfl
  have c2 : Steps p.tables e below (s₁.setTop (entryFrame m #[.ref a, .ref b, .int (Int32.ofNat o), .int (Int32.ofNat len), .null] 6)) (s₁.setTop (mkF m 1 #[.val (.ref a), .val (.ref b), .val (.int (Int32.ofNat o)), .val (.int (Int32.ofNat len)), .val .null, .unset] [.ref a])) := c1.trans (by
    refine XS.aloadN X0.here hexec rfl (hb hbytes d0) rfl rfl ?_
    exact Steps.refl _)
  obtain ⟨T3, X3, q3, st3⟩ := X0.oinit hexec hown (wks W (objW "java/lang/String" 1)) (g := (mkF m 1 #[.val (.ref a), .val (.ref b), .val (.int (Int32.ofNat o)), .val (.int (Int32.ofNat len)), .val .null, .unset] [.ref a])) rfl (by rw [hml]; rfl) (rest := []) rfl (hb hbytes d1) (W := 0) (by show 2 * 0 + 0 ≤ _; decide) (Nat.le_of_ble_eq_true rfl) (Nat.le_of_ble_eq_true rfl)
  have hh3 := q3.trans hh0
  have c4 : Steps p.tables e below (s₁.setTop (entryFrame m #[.ref a, .ref b, .int (Int32.ofNat o), .int (Int32.ofNat len), .null] 6)) (T3.setTop (mkF m 27 #[.val (.ref a), .val (.ref b), .val (.int (Int32.ofNat o)), .val (.int (Int32.ofNat len)), .val .null, .unset] [])) := (c2.trans (st3 _ (Steps.refl _))).trans (by
    refine XS.iloadN X3.here hexec rfl (hb hbytes d4) rfl ?_
    refine XS.ifYes X3.here hexec rfl (pc0 := 5) rfl (hb hbytes d5) rfl (i0_ne_t (nz32 (by omega) l0)) (by decide) rfl ?_
    exact Steps.refl _)
  obtain ⟨T5, X5, q5, st5⟩ := X3.sget hexec hown (wk W (.fieldLink "java/lang/String" 38 "java/lang/String" "COMPACT_STRINGS" "Z")) s1 (fun _ _ h => by rw [hh3]; exact h) (g := (mkF m 27 #[.val (.ref a), .val (.ref b), .val (.int (Int32.ofNat o)), .val (.int (Int32.ofNat len)), .val .null, .unset] [])) rfl (hb hbytes d27)
  have hh5 := q5.trans hh3
  have c6 : Steps p.tables e below (s₁.setTop (entryFrame m #[.ref a, .ref b, .int (Int32.ofNat o), .int (Int32.ofNat len), .null] 6)) (T5.setTop (mkF m 30 #[.val (.ref a), .val (.ref b), .val (.int (Int32.ofNat o)), .val (.int (Int32.ofNat len)), .val .null, .unset] [.int z])) := c4.trans (st5 _ (Steps.refl _))
  have c7 : Steps p.tables e below (s₁.setTop (entryFrame m #[.ref a, .ref b, .int (Int32.ofNat o), .int (Int32.ofNat len), .null] 6)) (T5.setTop (mkF m 36 #[.val (.ref a), .val (.ref b), .val (.int (Int32.ofNat o)), .val (.int (Int32.ofNat len)), .val .null, .unset] [.int (Int32.ofNat len), .int (Int32.ofNat o), .ref b])) := c6.trans (by
    refine XS.ifNo X5.here hexec rfl (hb hbytes d30) rfl (i0_eq_f hz) ?_
    refine XS.aloadN X5.here hexec rfl (hb hbytes d33) rfl rfl ?_
    refine XS.iloadN X5.here hexec rfl (hb hbytes d34) rfl ?_
    refine XS.iloadN X5.here hexec rfl (hb hbytes d35) rfl ?_
    exact Steps.refl _)
  obtain ⟨v8, T8, X8, E8, g8⟩ := X5.callS hexec (Cmp3.law l b A o len) hown (wks W (staticW "java/lang/String" 177 Cmp3.yN)) (wk W Cmp3.tab) (W := 0) (Nat.le_of_ble_eq_true rfl) (Nat.le_of_ble_eq_true rfl) (Nat.le_refl _) (by show 0 + len ≤ len; omega) (g := (mkF m 36 #[.val (.ref a), .val (.ref b), .val (.int (Int32.ofNat o)), .val (.int (Int32.ofNat len)), .val .null, .unset] [.int (Int32.ofNat len), .int (Int32.ofNat o), .ref b])) rfl (by rw [hml]; rfl) c7 (argsL := [.ref b, .int (Int32.ofNat o), .int (Int32.ofNat len)]) (rest := []) rfl rfl (by show 2 * 0 + 0 ≤ _; decide) (hb hbytes d36) (⟨rfl, hA.mv X5.warmed.alike hh5, l1, l2, hp⟩)
  obtain ⟨e8, z8⟩ := E8
  obtain ⟨rfl, N, n1, n2, n3, n4, n5, n6⟩ := NewArr.mv _ T5 s _ _ hh5.symm (Vm.Alike.refl _) rfl e8
  rw [hh5] at z8
  have hB1 := hB.keep X8.warmed.alike (n6 _ _ hB.1)
  have hne : s.heap.size ≠ a := (Nat.ne_of_lt (Array.getElem?_eq_some_iff.mp hB.1).1).symm
  have c9 : Steps p.tables e below (s₁.setTop (entryFrame m #[.ref a, .ref b, .int (Int32.ofNat o), .int (Int32.ofNat len), .null] 6)) (T8.setTop (mkF m 39 #[.val (.ref a), .val (.ref b), .val (.int (Int32.ofNat o)), .val (.int (Int32.ofNat len)), .val .null, .unset] [.ref s.heap.size])) := g8
  have c10 : Steps p.tables e below (s₁.setTop (entryFrame m #[.ref a, .ref b, .int (Int32.ofNat o), .int (Int32.ofNat len), .null] 6)) (T8.setTop (mkF m 45 #[.val (.ref a), .val (.ref b), .val (.int (Int32.ofNat o)), .val (.int (Int32.ofNat len)), .val .null, .val (.ref s.heap.size)] [.int (Int32.ofNat N.slots.size), .ref s.heap.size, .ref a])) := by
    have hc : Steps p.tables e below (s₁.setTop (entryFrame m #[.ref a, .ref b, .int (Int32.ofNat o), .int (Int32.ofNat len), .null] 6)) (T8.setTop (mkF m 45 #[.val (.ref a), .val (.ref b), .val (.int (Int32.ofNat o)), .val (.int (Int32.ofNat len)), .val .null, .val (.ref s.heap.size)] [.int (Int32.ofNat len), .ref s.heap.size, .ref a])) := c9.trans (by
      refine XS.astore X8.here hexec rfl (hb hbytes d39) rfl rfl rfl ?_
      refine XS.aloadN X8.here hexec rfl (hb hbytes d41) rfl rfl ?_
      refine XS.aload X8.here hexec rfl (hb hbytes d42) rfl rfl ?_
      refine XS.iloadN X8.here hexec rfl (hb hbytes d44) rfl ?_
      exact Steps.refl _)
    rw [n4]; exact hc
  obtain ⟨v11, T11, X11, E11, g11⟩ := X8.callS hexec (CodL.law l s.heap.size N) hown (wks W (staticW "java/lang/String" 47 CodL.yN)) (wk W CodL.tab) (W := 1) (Nat.le_of_ble_eq_true rfl) (Nat.le_of_ble_eq_true rfl) (Nat.le_refl _) (by show 0 + len + 0 ≤ len; omega) (g := (mkF m 45 #[.val (.ref a), .val (.ref b), .val (.int (Int32.ofNat o)), .val (.int (Int32.ofNat len)), .val .null, .val (.ref s.heap.size)] [.int (Int32.ofNat N.slots.size), .ref s.heap.size, .ref a])) rfl (by rw [hml]; rfl) c10 (argsL := [.ref s.heap.size, .int (Int32.ofNat N.slots.size)]) (rest := [.ref a]) rfl rfl (by show 2 * 0 + (1 + 0) ≤ _; decide) (hb hbytes d45) (⟨rfl, n1⟩)
  obtain ⟨rfl, q11⟩ := E11
  have hB11 := hB1.mv (X8.warmed.alike.symm.trans X11.warmed.alike) q11
  have c12 : Steps p.tables e below (s₁.setTop (entryFrame m #[.ref a, .ref b, .int (Int32.ofNat o), .int (Int32.ofNat len), .null] 6)) (T11.setTop (mkF m 48 #[.val (.ref a), .val (.ref b), .val (.int (Int32.ofNat o)), .val (.int (Int32.ofNat len)), .val .null, .val (.ref s.heap.size)] [.int 0, .ref a])) := g11
  obtain ⟨T13, X13, p13, bl13, sl13, st13⟩ := X11.finit hexec hown (wk W (.fieldLink "java/lang/String" 15 "java/lang/String" "coder" "B")) (Or.inr ⟨_, (wk W (.laysFinal "java/lang/String" "java/lang/String" "coder" "B"))⟩) (Or.inl ⟨rfl, hnm⟩) f2 (Or.inl rfl) hB11 (t := .byte) (by decide +kernel) rfl (g := (mkF m 48 #[.val (.ref a), .val (.ref b), .val (.int (Int32.ofNat o)), .val (.int (Int32.ofNat len)), .val .null, .val (.ref s.heap.size)] [.int 0, .ref a])) rfl (rest := []) rfl (hb hbytes d48)
  have c14 : Steps p.tables e below (s₁.setTop (entryFrame m #[.ref a, .ref b, .int (Int32.ofNat o), .int (Int32.ofNat len), .null] 6)) (T13.setTop (mkF m 54 #[.val (.ref a), .val (.ref b), .val (.int (Int32.ofNat o)), .val (.int (Int32.ofNat len)), .val .null, .val (.ref s.heap.size)] [.ref s.heap.size, .ref a])) := (c12.trans (st13 _ (Steps.refl _))).trans (by
    refine XS.aloadN X13.here hexec rfl (hb hbytes d51) rfl rfl ?_
    refine XS.aload X13.here hexec rfl (hb hbytes d52) rfl rfl ?_
    exact Steps.refl _)
  obtain ⟨T15, X15, p15, bl15, sl15, st15⟩ := X13.finit hexec hown (wk W (.fieldLink "java/lang/String" 9 "java/lang/String" "value" "[B")) (Or.inr ⟨_, (wk W (.laysFinal "java/lang/String" "java/lang/String" "value" "[B"))⟩) (Or.inl ⟨rfl, hnm⟩) f1 (Or.inl rfl) bl13 (t := (.array .byte)) (by decide +kernel) rfl (g := (mkF m 54 #[.val (.ref a), .val (.ref b), .val (.int (Int32.ofNat o)), .val (.int (Int32.ofNat len)), .val .null, .val (.ref s.heap.size)] [.ref s.heap.size, .ref a])) rfl (rest := []) rfl (hb hbytes d54)
  have c16 : Steps p.tables e below (s₁.setTop (entryFrame m #[.ref a, .ref b, .int (Int32.ofNat o), .int (Int32.ofNat len), .null] 6)) (T15.setTop (mkF m 57 #[.val (.ref a), .val (.ref b), .val (.int (Int32.ofNat o)), .val (.int (Int32.ofNat len)), .val .null, .val (.ref s.heap.size)] [])) := c14.trans (st15 _ (Steps.refl _))
  have ap := apart (Or.inr ⟨_, (wk W (.laysFinal "java/lang/String" "java/lang/String" "value" "[B"))⟩) (Or.inr ⟨_, (wk W (.laysFinal "java/lang/String" "java/lang/String" "coder" "B"))⟩) f1 f2 (t₁ := .array .byte) (t₂ := .byte) (by decide +kernel) (by decide +kernel) (by decide)
  have al := X8.warmed.alike.symm.trans X15.warmed.alike
  have n7 : T11.heap[s.heap.size]? = some N := by rw [q11]; exact n1.1
  exact ⟨T15, none, _, _, _, X15, by simp, rfl, by omega, (fun _ => rfl), ⟨rfl, _, N, bl15, ((Same.refl D _).set _ (by simp)).set _ (by simp), sl15, (Cell.slots_setSlot_ne _ ap).trans sl13, n1.keep al (p15.other hne (p13.other hne n7)), n2, by rw [al.findClass]; exact n3, n4, n5, fun y c h1 h2 => p15.other h1 (p13.other h1 (by rw [q11]; exact n6 y c h2)), by rw [p15.2.2, p13.2.2, q11]; exact z8⟩, fun fs hl => c16.trans (X15.returnOut hexec hret (hb hbytes d57) hl)⟩
end New4
namespace New1
def yN : MethodName := ⟨"java/lang/String", "<init>", "([C)V"⟩
abbrev yB : ByteArray := jdk_42_method_3_code
theorem d0 : decode yB 0 = .ok (.aload_n 0, 1) := by decide +kernel
theorem d1 : decode yB 1 = .ok (.aload_n 1, 1) := by decide +kernel
theorem d2 : decode yB 2 = .ok (.iconst 0, 1) := by decide +kernel
theorem d3 : decode yB 3 = .ok (.aload_n 1, 1) := by decide +kernel
theorem d4 : decode yB 4 = .ok (.arraylength, 1) := by decide +kernel
theorem d5 : decode yB 5 = .ok (.aconst_null, 1) := by decide +kernel
theorem d6 : decode yB 6 = .ok (.invokespecial 27, 3) := by decide +kernel
theorem d9 : decode yB 9 = .ok (.return_, 1) := by decide +kernel
def site : List Cond := [New4.tab] ++ initW "java/lang/String" 27 New4.yN
def tab : Cond := tabOf yN yB 2 none site
def P (a : Addr) (D : Cell) (fV fC : Field) (b : Addr) (A : Cell) (z : Int32) (args : Array Value) (s : State) : Prop := args = #[.ref a, .ref b] ∧ Blank "java/lang/String" a D s ∧ Found "java/lang/String" "value" "[B" fV s ∧ Found "java/lang/String" "coder" "B" fC s ∧ Ch b A s ∧ StaticIs s "java/lang/String" "COMPACT_STRINGS" "Z" (.int z) ∧ ¬ z = 0 ∧ 0 < A.slots.size ∧ A.slots.size ≤ 536870912 ∧ ∀ i, i < A.slots.size → ¬ 255 < cv A i
def E (a : Addr) (D : Cell) (fV fC : Field) (A : Cell) (r : Option Value) (s u : State) : Prop := Got a D fV fC A 0 A.slots.size r s u
/-- new String(chars), not empty, no char above 255: a Latin-1 String of their low bytes -/
theorem law (l : Launch) (a : Addr) (D : Cell) (fV fC : Field) (b : Addr) (A : Cell) (z : Int32) : Law l yN 2 1 3 52 yB 2 none site (P a D fV fC b A z) (E a D fV fC A) [⟨a, fC.slot⟩, ⟨a, fV.slot⟩] 1 A.slots.size := by
  refine Law.of_walk (plainFor_of_name (by decide +kernel)) (by decide +kernel) (by decide +kernel) (by decide) (fun _ _ h => by rw [h.1]; rfl) (fun _ U U' hal hh h => ⟨h.1, h.2.1.mv hal hh, h.2.2.1.al hal, h.2.2.2.1.al hal, h.2.2.2.2.1.mv hal hh, h.2.2.2.2.2.1.there hal hh, h.2.2.2.2.2.2⟩) (fun r U U' V V' h1 hal h2 h => Got.mv r U U' V V' h1 hal h2 h) ?_
  intro p e s m args below meth c s₁ X0 hexec hbytes hml hret hlk hnm hown hh0 W hP
  obtain ⟨rfl, hB, f1, f2, hA, s1, hz, l0, l2, hp⟩ := hP
  have c1 : Steps p.tables e below (s₁.setTop (entryFrame m #[.ref a, .ref b] 2)) (s₁.setTop (mkF m 0 #[.val (.ref a), .val (.ref b)] [])) := entry rfl
  have c2 : Steps p.tables e below (s₁.setTop (entryFrame m #[.ref a, .ref b] 2)) (s₁.setTop (mkF m 6 #[.val (.ref a), .val (.ref b)] [.null, .int (Int32.ofNat A.slots.size), .int 0, .ref b, .ref a])) := c1.trans (by
    refine XS.aloadN X0.here hexec rfl (hb hbytes d0) rfl rfl ?_
    refine XS.aloadN X0.here hexec rfl (hb hbytes d1) rfl rfl ?_
    refine iconstV X0.here hexec rfl 0 (hb hbytes d2) (by decide) ?_
    refine XS.aloadN X0.here hexec rfl (hb hbytes d3) rfl rfl ?_
    refine X0.alen hexec (hA.1.mv X0.warmed.alike hh0) rfl rfl (hb hbytes d4) ?_
    refine XS.aconstNull X0.here hexec rfl (hb hbytes d5) ?_
    exact Steps.refl _)
  obtain ⟨v3, T3, X3, E3, g3⟩ := X0.callN hexec (New4.law l a D fV fC b A z 0 A.slots.size) rfl hown (wks W (initW "java/lang/String" 27 New4.yN)) (W New4.tab (by simp only [site, List.mem_cons, List.mem_append, true_or, or_true])) (W := 0) (Nat.le_of_ble_eq_true rfl) (Nat.le_of_ble_eq_true rfl) (Nat.le_refl _) (by show 0 + A.slots.size ≤ A.slots.size; omega) (g := (mkF m 6 #[.val (.ref a), .val (.ref b)] [.null, .int (Int32.ofNat A.slots.size), .int (Int32.ofNat 0), .ref b, .ref a])) rfl (by rw [hml]; rfl) c2 (argsL := [.ref b, .int (Int32.ofNat 0), .int (Int32.ofNat A.slots.size), .null]) (rest := []) rfl rfl (by show 2 * 0 + 0 ≤ _; decide) (hb hbytes d6) (⟨rfl, hB.mv X0.warmed.alike hh0, f1.al X0.warmed.alike, f2.al X0.warmed.alike, hA.mv X0.warmed.alike hh0, s1.there X0.warmed.alike hh0, hz, l0, by omega, l2, fun i hi => by rw [Nat.zero_add]; exact hp i hi⟩)
  have e0 := Got.mv _ s₁ s _ _ hh0.symm (Vm.Alike.refl _) rfl E3
  obtain rfl := e0.1
  have c4 : Steps p.tables e below (s₁.setTop (entryFrame m #[.ref a, .ref b] 2)) (T3.setTop (mkF m 9 #[.val (.ref a), .val (.ref b)] [])) := g3
  exact ⟨T3, none, _, _, _, X3, by simp, rfl, by omega, (fun _ => rfl), e0, fun fs hl => c4.trans (X3.returnOut hexec hret (hb hbytes d9) hl)⟩
theorem pays {l : Launch} {R : Room} {p : Program} {e : Env} {below : List Frame} {s : State} {sargs : Array Value} {len W : Nat} (a : Addr) (D : Cell) (fV fC : Field) (b : Addr) (A : Cell) (z : Int32) (htab : tab.before sargs s = true) (hfr : 4 ≤ R.frames) (hlo : W + 65 ≤ R.locals) :
    Back l R p e below s sargs yN len W (fun A₁ a₁ => A₁.cells + 1 ≤ R.cells ∧ A₁.slots + A.slots.size ≤ R.slots ∧ P a D fV fC b A z a₁ A₁.U) (fun A₁ _ v₁ B₁ => E a D fV fC A v₁ A₁.U B₁.U ∧ B₁.locs = A₁.locs ++ [⟨a, fC.slot⟩, ⟨a, fV.slot⟩] ∧ B₁.cells = A₁.cells + 1 ∧ B₁.slots = A₁.slots + A.slots.size) :=
  (law l a D fV fC b A z).pays htab hfr (by omega)
end New1
/-- the byte, read back as charAt reads it, is the char -/
theorem lo8_mask {x : Int32} (h0 : ¬ x < 0) (h1 : ¬ 255 < x) : lo8 x &&& 255 = x := by
  have t : ∀ k : Fin 256, lo8 (Int32.ofNat k.val) &&& 255 = Int32.ofNat k.val := by decide +kernel
  rw [Int32.lt_iff_toInt_lt] at h0 h1
  have e0 : (0 : Int32).toInt = 0 := rfl
  have e1 : (255 : Int32).toInt = 255 := rfl
  obtain ⟨k, hk⟩ : ∃ k : Nat, x.toInt = k := ⟨x.toInt.toNat, by omega⟩
  have hx : x = Int32.ofNat k := Int32.toInt_inj.mp (by rw [hk, Int32.toInt_ofNat_small (by omega)])
  rw [hx]
  exact t ⟨k, by omega⟩
end StrChars
namespace StrChars.Road
open Jvm Sem ClassFile Op Lib Jvm.Stand Jvm.Free Jvm.Free.XT
open Jvm.Lib.Cold (StaticIs)
abbrev ST : String := "java/lang/String"
/-- every table word that New1's law asks, flat -/
abbrev words : List Jvm.Cond := [.code New1.yN New1.yB 2 none, .initialized ST, .methodLink ST 27 New4.yN, .instanceMethod New4.yN,
  .code New4.yN New4.yB 6 none, .fieldLink ST 38 ST "COMPACT_STRINGS" "Z", .laysFinal ST ST "value" "[B", .fieldLink ST 9 ST "value" "[B", .laysFinal ST ST "coder" "B", .fieldLink ST 15 ST "coder" "B",
  .methodLink ST 1 Lib.objectInit, .instanceMethod Lib.objectInit, .code Lib.objectInit ⟨#[0xb1]⟩ 1 none, .methodLink ST 177 Cmp3.yN, .static Cmp3.yN, .methodLink ST 47 CodL.yN, .static CodL.yN,
  .code Cmp3.yN Cmp3.yB 6 (some (.array .byte)), .initialized U16, .arrayClass .byte, .methodLink U16 115 Cmp5.yN, .static Cmp5.yN, .code Cmp5.yN Cmp5.yB 7 (some .int), .code CodL.yN CodL.yB 2 (some .byte)]
theorem tab_of {a : Array Value} {s : State} (h : ∀ w ∈ words, w.before a s = true) : New1.tab.before a s = true := by
  have h5 : Cmp5.tab.before a s = true := unparts (wk h (.code Cmp5.yN Cmp5.yB 7 (some .int))) (wks h (.initialized Cmp5.yN.cls :: Cmp5.site))
  have hc : CodL.tab.before a s = true := unparts (wk h (.code CodL.yN CodL.yB 2 (some .byte))) (wks h (.initialized CodL.yN.cls :: CodL.site))
  have q5 : ∀ w ∈ Cmp5.tab :: words, w.before a s = true := fun w hw => (List.mem_cons.mp hw).elim (fun e => e ▸ h5) (h w)
  have h3 : Cmp3.tab.before a s = true := unparts (wk q5 (.code Cmp3.yN Cmp3.yB 6 (some (.array .byte)))) (wks q5 (.initialized Cmp3.yN.cls :: Cmp3.site))
  have q3 : ∀ w ∈ Cmp3.tab :: CodL.tab :: words, w.before a s = true := fun w hw => (List.mem_cons.mp hw).elim (fun e => e ▸ h3) fun hw => (List.mem_cons.mp hw).elim (fun e => e ▸ hc) (h w)
  have h4 : New4.tab.before a s = true := unparts (wk q3 (.code New4.yN New4.yB 6 none)) (wks q3 (.initialized New4.yN.cls :: New4.site))
  have q4 : ∀ w ∈ New4.tab :: words, w.before a s = true := fun w hw => (List.mem_cons.mp hw).elim (fun e => e ▸ h4) (h w)
  exact unparts (wk q4 (.code New1.yN New1.yB 2 none)) (wks q4 (.initialized New1.yN.cls :: New1.site))
/-- the words ride from the start Z to the walk's own state -/
theorem moved {Z s : State} {a0 args : Array Value} (hZ : Z.Warmed39 s.vm) (hw : ∀ d ∈ words, d.before a0 Z = true) : ∀ d ∈ words, d.before args s = true := fun d hd => by
  have q := hw d hd
  have t : ∀ d ∈ words, d = .arrayClass .byte ∨ (d.onTables && d.keepsFace) = true := by decide +kernel
  rcases t d hd with rfl | t
  · exact RoadKit.mvA hZ q
  · exact RoadKit.mv hZ q t
/-- WHAT COMES BACK, over the tables of the start Z: h the heap at the call, h' behind it -/
def Q (Z : State) (x : Addr) (A : Cell) (h : Heap) (v : Option Value) (h' : Heap) (L : List Loc) : Prop := v = none ∧ (∀ y ∈ L, y.base = x) ∧ RoadKit.Keep h h' [x] ∧ h'.size = h.size + 1 ∧ RoadKit.Exa Z h' x ST ∧ RoadKit.Fld Z h' x ST "value" "[B" (.ref h.size) ∧ RoadKit.Fld Z h' x ST "coder" "B" (.int 0) ∧
  (∃ V : Cell, RoadKit.Arr Z h' h.size V .byte ∧ V.vm = .none ∧ Z.vm.findClass "[B" = some V.cls ∧ V.slots.size = A.slots.size ∧ ∀ j, j < A.slots.size → V.slots[j]? = some (.int (lo8 (cv A j)))) ∧
  ∀ (O n d : String) (w : Value), RoadKit.Fld Z h x O n d w → RoadKit.slotOf Z O n d ≠ RoadKit.slotOf Z ST "value" "[B" → RoadKit.slotOf Z O n d ≠ RoadKit.slotOf Z ST "coder" "B" → RoadKit.Fld Z h' x O n d w
/-- **new String(chars) AT A CALL, IN THE ROAD'S FORM**: for specialBack behind newO: x the fresh String, b the char[] with the cell A -/
theorem back {p : Program} {l : Launch} {e : Env} {R : Room} {s : State} {args : Array Value} {below : List Frame} {len W : Nat} {Z : State} {a0 : Array Value} {h : Heap} (hZ : Z.Warmed39 s.vm) (hw : ∀ d ∈ words, d.before a0 Z = true) {kI : Nat} (wi : (Jvm.Cond.instantiable ST kI).before a0 Z = true)
    {x b : Addr} {A : Cell} {z : Int32} {v0 c0 : Value} (E : RoadKit.Exa Z h x ST) (V : RoadKit.Fld Z h x ST "value" "[B" v0) (C : RoadKit.Fld Z h x ST "coder" "B" c0) (K : RoadKit.Arr Z h b A .char) (hty : Typed .char A) (S : RoadKit.Sta Z h ST "COMPACT_STRINGS" "Z" (.int z)) (hz : ¬ z = 0)
    (l0 : 0 < A.slots.size) (l2 : A.slots.size ≤ 536870912) (hp : ∀ i, i < A.slots.size → ¬ 255 < cv A i) (hfr : 4 ≤ R.frames) (hlo : W + 65 ≤ R.locals) :
    Back l R p e below s args New1.yN len W (fun P a => a = #[.ref x, .ref b] ∧ P.U.heap = h ∧ P.cells + 1 ≤ R.cells ∧ P.slots + A.slots.size ≤ R.slots)
      (fun P _ v B => ∃ L, Q Z x A h v B.U.heap L ∧ B.locs = P.locs ++ L ∧ B.cells = P.cells + 1 ∧ B.slots = P.slots + A.slots.size) := by
  intro m meth c P g ig mk a X hg hsize hdg hW hn hp'
  obtain ⟨rfl, rfl, r1, r2⟩ := hp'
  have al : Z.vm.Alike P.U.vm := hZ.alike.trans X.warmed.alike
  obtain ⟨D, cfV, kV, iV, fV, hD, gV, stV, knV, obV, asV, slV⟩ := id V
  obtain ⟨D', cfC, kC, iC, fC, hD', gC, stC, -, -, asC, slC⟩ := id C
  cases hD.symm.trans hD'
  obtain ⟨D2, kD, e1, e2, e3, e4, e5⟩ := id E
  cases hD.symm.trans e1
  obtain ⟨c2, k2, i1, i2, i3, -⟩ := Cond.instantiable_spec wi
  cases e2.symm.trans i1
  cases e3.symm.trans i2
  obtain ⟨kU, u1, u2⟩ := al.2.2 _ _ e3
  have hB : Blank ST x D P.U := ⟨hD, ⟨knV, fun q hq => by rw [hq] at obV; cases obV⟩, by rw [al.findClass]; exact e2, kU, u1, by rw [u2]; exact i3, by rw [u2]; exact e5 i3⟩
  have F1 : Found ST "value" "[B" fV P.U := ⟨SBG.found_only al ⟨cfV, kV, iV, gV⟩, stV⟩
  have F2 : Found ST "coder" "B" fC P.U := ⟨SBG.found_only al ⟨cfC, kC, iC, gC⟩, stC⟩
  have hA : Ch b A P.U := ⟨⟨K.1, State.isArrayOf_alike al K.2.1, K.2.2, by omega⟩, hty⟩
  have hS : StaticIs P.U ST "COMPACT_STRINGS" "Z" (.int z) := by
    obtain ⟨cfS, iS, kS, fS, st, cS, t1, t2, t3, t4, t5, t6, t7⟩ := S
    exact StaticIs.there (s := { Z with heap := P.U.heap }) ⟨cfS, iS, kS, fS, st, cS, t1, t2, t3, t4, t5, (fun q => by rw [q] at t6; cases t6), t7⟩ al rfl
  obtain ⟨v, B, X', ⟨⟨hv, E', V', q1, q2, q3, q4, q5, q6, q7, q8, q9, q10, q11⟩, hl, hc, hs⟩, st⟩ := New1.pays x D fV fC b A z (tab_of (moved hZ hw)) hfr hlo m meth c P g ig mk _ X hg hsize hdg hW hn ⟨r1, r2, rfl, hB, F1, F2, hA, hS, hz, l0, l2, hp⟩
  have al' : Z.vm.Alike B.U.vm := hZ.alike.trans X'.warmed.alike
  have hsz : E'.slots.size = D.slots.size := by
    obtain ⟨-, -, -, kB, w1, w2, w3⟩ := q1
    obtain ⟨kB', y1, y2⟩ := al'.2.2 _ _ e3
    rw [q2.2.1] at w1
    cases w1.symm.trans y1
    rw [w3, e5 i3, y2]
  refine ⟨v, B, X', ⟨_, ⟨hv, ?_, ⟨by omega, fun y cy hy hn' => q10 y cy (by simpa using hn') hy, fun y cy hy => ?_⟩, q11, ⟨E', _, q1.1, by rw [q2.2.1]; exact e2, by rw [q2.2.1]; exact e3, by rw [q2.1]; exact obV, fun _ => by rw [hsz]; exact e5 i3⟩,
    ⟨E', cfV, kV, iV, fV, q1.1, gV, stV, by rw [q2.1]; exact knV, by rw [q2.1]; exact obV, by rw [q2.2.1]; exact asV, q3⟩, ⟨E', cfC, kC, iC, fC, q1.1, gC, stC, by rw [q2.1]; exact knV, by rw [q2.1]; exact obV, by rw [q2.2.1]; exact asC, q4⟩,
    ⟨V', ⟨q5.1, State.isArrayOf_alike al'.symm q5.2.1, q5.2.2.1⟩, q6, by rw [← al'.findClass]; exact q7, q8, fun j hj => by have := q9 j hj; rwa [Nat.zero_add] at this⟩, fun O n d w F n1 n2 => ?_⟩, hl, hc, hs⟩, st⟩
  · intro y hy
    simp only [List.mem_cons, List.not_mem_nil, or_false] at hy
    rcases hy with rfl | rfl <;> rfl
  · by_cases q : y = x
    · subst q
      cases hD.symm.trans hy
      exact ⟨E', q1.1, q2.2.1, q2.1, hsz⟩
    · exact ⟨cy, q10 y cy q hy, rfl, rfl, rfl⟩
  · obtain ⟨D3, cf, k, i, f, g1, g2, g3, g4, g5, g6, g7⟩ := F
    cases hD.symm.trans g1
    simp only [RoadKit.slotOf, g2, gV, gC, Option.map_some, Option.getD_some] at n1 n2
    exact ⟨E', cf, k, i, f, q1.1, g2, g3, by rw [q2.1]; exact g4, by rw [q2.1]; exact g5, by rw [q2.2.1]; exact g6, by rw [q2.2.2 f.slot (by simp [n1, n2])]; exact g7⟩
end StrChars.Road
namespace StrChars.Road
open Jvm Sem ClassFile Op Lib Jvm.Stand Jvm.Free Jvm.Free.XT
/-- WHAT COMES BACK, the byte[] as a list of values -/
def QA (Z : State) (x : Addr) (zn : Int32) (cs : List Int32) (h : Heap) (v : Option Value) (h' : Heap) (L : List Loc) : Prop := v = none ∧ (∀ y ∈ L, y.base = x) ∧ RoadKit.Keep h h' [x] ∧ h'.size = h.size + 1 ∧ RoadKit.Exa Z h' x ST ∧ RoadKit.Fld Z h' x ST "value" "[B" (.ref h.size) ∧ RoadKit.Fld Z h' x ST "coder" "B" (.int 0) ∧
  (∃ kb, Z.vm.findClass "[B" = some kb ∧ RoadKit.Arv Z h' h.size kb .byte zn (cs.map fun c => .int (lo8 c)) (.int 0)) ∧
  ∀ (O n d : String) (w : Value), RoadKit.Fld Z h x O n d w → RoadKit.slotOf Z O n d ≠ RoadKit.slotOf Z ST "value" "[B" → RoadKit.slotOf Z O n d ≠ RoadKit.slotOf Z ST "coder" "B" → RoadKit.Fld Z h' x O n d w
/-- **new String(chars) AT A CALL, THE ARRAYS AS LISTS**: the char[] at b holds cs, not empty, no char above 255 -/
theorem backArv {p : Program} {l : Launch} {e : Env} {R : Room} {s : State} {args : Array Value} {below : List Frame} {len W : Nat} {Z : State} {a0 : Array Value} {h : Heap} (hZ : Z.Warmed39 s.vm) (hw : ∀ d ∈ words, d.before a0 Z = true) {kI : Nat} (wi : (Jvm.Cond.instantiable ST kI).before a0 Z = true)
    {x b : Addr} {k : ClassId} {zn z : Int32} {cs : List Int32} {dv v0 c0 : Value} (E : RoadKit.Exa Z h x ST) (V : RoadKit.Fld Z h x ST "value" "[B" v0) (C : RoadKit.Fld Z h x ST "coder" "B" c0) (K : RoadKit.Arv Z h b k .char zn (cs.map Value.int) dv) (S : RoadKit.Sta Z h ST "COMPACT_STRINGS" "Z" (.int z)) (hz : ¬ z = 0)
    (hlen : zn.toNatClampNeg = cs.length) (h0 : 0 < cs.length) (hbig : cs.length ≤ 536870912) (hall : ∀ c ∈ cs, ¬ 255 < c) (hfr : 4 ≤ R.frames) (hlo : W + 65 ≤ R.locals) :
    Back l R p e below s args New1.yN len W (fun P a => a = #[.ref x, .ref b] ∧ P.U.heap = h ∧ P.cells + 1 ≤ R.cells ∧ P.slots + cs.length ≤ R.slots)
      (fun P _ v B => ∃ L, QA Z x zn cs h v B.U.heap L ∧ B.locs = P.locs ++ L ∧ B.cells = P.cells + 1 ∧ B.slots = P.slots + cs.length) := by
  obtain ⟨A, K1, K2, K3, K4, K5, K6⟩ := K
  have e : A.slots.size = cs.length := K3.trans hlen
  have hat : ∀ (i : Nat) (hi : i < cs.length), A.slots[i]? = some (.int cs[i]) := fun i hi => by rw [K5 i (by omega)]; simp [List.getD_eq_getElem?_getD, hi]
  have hcv : ∀ (i : Nat) (hi : i < cs.length), cv A i = cs[i] := fun i hi => by unfold cv; rw [hat i hi]
  have hty : Typed .char A := fun i v hv => by
    have hi : i < A.slots.size := (Array.getElem?_eq_some_iff.mp hv).1
    have q := K5 i hi
    rw [hv] at q
    rw [Option.some.inj q]
    exact K6 i hi
  refine Back.mono (back hZ hw wi E V C K1 hty S hz (by omega) (by omega) (fun i hi => by rw [hcv i (by omega)]; exact hall _ (List.getElem_mem _)) hfr hlo) (fun P a hp => ⟨hp.1, hp.2.1, hp.2.2.1, by rw [e]; exact hp.2.2.2⟩) (fun P a v B hp hq => ?_)
  obtain ⟨L, ⟨q1, q2, q3, q4, q5, q6, q7, ⟨V', v1, v2, v3, v4, v5⟩, q9⟩, hl, hc, hs⟩ := hq
  refine ⟨L, ⟨q1, q2, q3, q4, q5, q6, q7, ⟨V'.cls, v3, V', v1, rfl, by rw [v4, e, hlen], K4, fun i hi => ?_, fun i hi => ?_⟩, q9⟩, hl, hc, by rw [hs, e]⟩
  · have hi' : i < cs.length := by omega
    rw [v5 i (by omega), hcv i hi']; simp [List.getD_eq_getElem?_getD, hi']
  · have hi' : i < cs.length := by omega
    simp only [List.getD_eq_getElem?_getD, List.getElem?_map, List.getElem?_eq_getElem hi', Option.map_some, Option.getD_some]
    exact fits_lo8 _
end StrChars.Road
namespace StrChars.Road
open Jvm Sem ClassFile Op Lib Jvm.Stand Jvm.Free Jvm.Free.XT
/-- WHAT COMES BACK, in the writer's own shape -/
def QV (Z : State) (x : Addr) (N : Int32) (bs : List Int32) (h : Heap) (n0 : Nat) (v : Option Value) (h' : Heap) (L : List Loc) : Prop := v = none ∧ RoadKit.Fr n0 L ∧ RoadKit.Keep h h' [x] ∧ RoadKit.Exa Z h' x ST ∧ RoadKit.Fld Z h' x ST "coder" "B" (.int 0) ∧
  ∃ (t : Addr) (kb : ClassId), n0 ≤ t ∧ h.size ≤ t ∧ ¬ t = x ∧ RoadKit.Fld Z h' x ST "value" "[B" (.ref t) ∧ RoadKit.Arv Z h' t kb .byte N (bs.map Value.int) (.int 0)
/-- **new String(chars) AT A CALL, FOR THE WRITER**: a char[] of n known ints, each 0 to 255 -/
theorem backV {p : Program} {l : Launch} {e : Env} {R : Room} {s : State} {args : Array Value} {below : List Frame} {len W : Nat} {Z : State} {a0 : Array Value} {h : Heap} (hZ : Z.Warmed39 s.vm) (hw : ∀ d ∈ words, d.before a0 Z = true) {kI : Nat} (wi : (Jvm.Cond.instantiable ST kI).before a0 Z = true)
    {x b : Addr} {kC : ClassId} {cs bs : List Int32} {d v0 c0 : Value} {z N : Int32} {n n0 : Nat} (hx0 : n0 ≤ x) (hh0 : n0 ≤ h.size) (E : RoadKit.Exa Z h x ST) (V : RoadKit.Fld Z h x ST "value" "[B" v0) (C : RoadKit.Fld Z h x ST "coder" "B" c0) (K : RoadKit.Arv Z h b kC .char N (cs.map Value.int) d) (S : RoadKit.Sta Z h ST "COMPACT_STRINGS" "Z" (.int z)) (hz : ¬ z = 0)
    (hn : cs.length = n) (hN : N = Int32.ofNat n) (l0 : 0 < n) (l2 : n ≤ 4000) (hp : ∀ c ∈ cs, ¬ c < 0 ∧ ¬ (255 : Int32) < c) (hb : bs = cs.map (fun c => c.toInt8.toInt32)) (hfr : 4 ≤ R.frames) (hlo : W + 65 ≤ R.locals) :
    Back l R p e below s args (⟨"java/lang/String", "<init>", "([C)V"⟩ : MethodName) len W (fun P a => a = #[.ref x, .ref b] ∧ P.U.heap = h ∧ P.cells + 1 ≤ R.cells ∧ P.slots + n ≤ R.slots)
      (fun P _ v B => ∃ L, QV Z x N bs h n0 v B.U.heap L ∧ B.locs = P.locs ++ L ∧ B.cells = P.cells + 1 ∧ B.slots = P.slots + n) := by
  subst hn hN hb
  refine Back.mono (backArv hZ hw wi E V C K S hz (n32 (by omega)) l0 (by omega) (fun c hc => (hp c hc).2) hfr hlo) (fun P a hp => hp) (fun P a v B hp hq => ?_)
  obtain ⟨L, ⟨q1, q2, q3, q4, q5, q6, q7, ⟨kb, v1, v2⟩, q9⟩, hl, hc, hs⟩ := hq
  exact ⟨L, ⟨q1, fun y hy => by rw [q2 y hy]; exact hx0, q3, q5, q7, h.size, kb, hh0, Nat.le_refl _, Nat.ne_of_gt E.lt, q6, by rw [List.map_map]; exact v2⟩, hl, hc, hs⟩
end StrChars.Road
namespace StrChars
open Jvm Sem ClassFile Op Lib Jvm.Stand Jvm.Free.XT Jvm.Free.ALB Jvm.Free.JM Jvm.Free
open Jvm.Lib.Cold (StaticIs)
def hi8 (x : Int32) : Int32 := lo8 (x >>> ((8 : Int32) &&& 31))
/-- what StringUTF16.getChar makes of two bytes -/
def pairCh (u v : Int32) : Int32 := (((u &&& 255) <<< ((0 : Int32) &&& 31)) ||| ((v &&& 255) <<< ((8 : Int32) &&& 31))).toUInt32.toUInt16.toUInt32.toInt32
theorem lo8_and (x : Int32) : (lo8 x &&& 255).toBitVec.toNat = x.toBitVec.toNat % 256 := by
  have h : (lo8 x).toBitVec = (x.toBitVec.signExtend 8).signExtend 32 := by rw [lo8, Int8.toBitVec_toInt32, Int32.toBitVec_toInt8]
  rw [Int32.toBitVec_and, BitVec.toNat_and, h]
  have e : ((x.toBitVec.signExtend 8).signExtend 32).toNat % 256 = x.toBitVec.toNat % 256 := by
    rw [BitVec.toNat_signExtend]
    have hlt := x.toBitVec.isLt
    simp only [BitVec.toNat_setWidth, BitVec.toNat_signExtend]
    split <;> split <;> omega
  rw [← e]
  exact Nat.and_two_pow_sub_one_eq_mod _ 8
theorem pair_says {c : Int32} (h0 : ¬ c < 0) (h1 : ¬ 65535 < c) : pairCh (lo8 c) (hi8 c) = c := by
  rw [Int32.lt_iff_toInt_lt] at h0 h1
  have e0 : (0 : Int32).toInt = 0 := rfl
  have e1 : (65535 : Int32).toInt = 65535 := rfl
  have hc : c.toInt = c.toBitVec.toNat := by
    have := c.toBitVec.isLt
    have e : c.toInt = c.toBitVec.toInt := rfl
    rw [e] at h0 h1
    rw [e]
    rw [BitVec.toInt_eq_toNat_cond] at h0 h1 ⊢
    split at h0 <;> split <;> omega
  have hn : c.toBitVec.toNat < 65536 := by omega
  have a1 := lo8_and c
  have a2 : (hi8 c &&& 255).toBitVec.toNat = c.toBitVec.toNat / 256 := by
    rw [hi8, lo8_and]
    have e : ((8 : Int32) &&& 31) = 8 := by decide
    rw [e, Int32.toBitVec_shiftRight]
    have e2 : ((8 : Int32).toBitVec.smod 32) = 8#32 := by decide
    rw [e2, BitVec.sshiftRight_eq', BitVec.toNat_sshiftRight_of_msb_false (by rw [BitVec.msb_eq_false_iff_two_mul_lt]; omega)]
    show c.toBitVec.toNat >>> 8 % 256 = _
    rw [Nat.shiftRight_eq_div_pow]
    omega
  unfold pairCh
  apply Int32.toBitVec_inj.mp
  apply BitVec.eq_of_toNat_eq
  have f0 : ((0 : Int32) &&& 31) = 0 := by decide
  have f8 : ((8 : Int32) &&& 31) = 8 := by decide
  rw [f0, f8]
  have g : (((lo8 c &&& 255) <<< (0 : Int32)) ||| ((hi8 c &&& 255) <<< (8 : Int32))).toBitVec.toNat = c.toBitVec.toNat := by
    rw [Int32.toBitVec_or, Int32.toBitVec_shiftLeft, Int32.toBitVec_shiftLeft]
    have s0 : ((0 : Int32).toBitVec.smod 32) = 0#32 := by decide
    have s8 : ((8 : Int32).toBitVec.smod 32) = 8#32 := by decide
    rw [s0, s8, BitVec.toNat_or]
    simp only [BitVec.shiftLeft_eq', BitVec.toNat_shiftLeft, a1, a2]
    show (c.toBitVec.toNat % 256) <<< 0 % 2 ^ 32 ||| (c.toBitVec.toNat / 256) <<< 8 % 2 ^ 32 = _
    rw [Nat.shiftLeft_zero, Nat.mod_eq_of_lt (show c.toBitVec.toNat % 256 < 2 ^ 32 by omega), Nat.mod_eq_of_lt (show (c.toBitVec.toNat / 256) <<< 8 < 2 ^ 32 by rw [Nat.shiftLeft_eq]; omega), Nat.or_comm, ← Nat.shiftLeft_add_eq_or_of_lt (by omega), Nat.shiftLeft_eq]
    omega
  show BitVec.toNat (((((lo8 c &&& 255) <<< (0 : Int32)) ||| ((hi8 c &&& 255) <<< (8 : Int32))).toBitVec.setWidth 16).setWidth 32) = _
  rw [BitVec.toNat_setWidth, BitVec.toNat_setWidth, g]
  omega
end StrChars
namespace StrChars
open Jvm Sem ClassFile Op Lib Jvm.Stand Jvm.Free.XT Jvm.Free.ALB Jvm.Free.JM Jvm.Free
open Jvm.Lib.Cold (StaticIs)
/-- the array's cell V codes the n chars f 0 .. f (n - 1) by the coder cd, as the JDK does: coder 1 just where some char is above 255 -/
def Cod (cd : Int32) (n : Nat) (f : Nat → Int32) (V : Cell) : Prop := (cd = 0 ∧ V.slots.size = n ∧ ∀ j, j < n → V.slots[j]? = some (.int (lo8 (f j))) ∧ ¬ 255 < f j) ∨ (cd = 1 ∧ V.slots.size = 2 * n ∧ (∀ j, j < n → V.slots[2 * j]? = some (.int (lo8 (f j))) ∧ V.slots[2 * j + 1]? = some (.int (hi8 (f j)))) ∧ ∃ j, j < n ∧ 255 < f j)
/-- **x is a String of the n chars f 0 .. f (n - 1)**, Latin-1 or UTF-16; its array at t has the cell V -/
def Txt (x t : Addr) (V : Cell) (cd : Int32) (n : Nat) (f : Nat → Int32) (U : State) : Prop := Exact "java/lang/String" x U ∧ Has x "java/lang/String" "value" "[B" (.ref t) U ∧ Has x "java/lang/String" "coder" "B" (.int cd) U ∧ XT.Arr .byte t V U ∧ Cod cd n f V ∧ ∀ j, j < n → ¬ f j < 0 ∧ ¬ 65535 < f j
theorem Txt.mv {x t : Addr} {V : Cell} {cd : Int32} {n : Nat} {f : Nat → Int32} {U U' : State} (h : Txt x t V cd n f U) (hal : U.vm.Alike U'.vm) (hh : U'.heap = U.heap) : Txt x t V cd n f U' := ⟨h.1.mv hal hh, h.2.1.mv hal hh, h.2.2.1.mv hal hh, h.2.2.2.1.mv hal hh, h.2.2.2.2⟩
end StrChars
namespace StrChars.Road
open Jvm Sem ClassFile Op Lib Jvm.Stand Jvm.Free Jvm.Free.XT
open Jvm.Lib.Cold (StaticIs)
theorem consq {a : Array Value} {s : State} {c : Jvm.Cond} {L : List Jvm.Cond} (h0 : c.before a s = true) (h : ∀ w ∈ L, w.before a s = true) : ∀ w ∈ c :: L, w.before a s = true := fun w hw => (List.mem_cons.mp hw).elim (fun e => e ▸ h0) (h w)
/-- the bytes of the chars cs, low before high -/
def wideBytes : List Int32 → List Value
  | [] => []
  | c :: cs => .int (lo8 c) :: .int (hi8 c) :: wideBytes cs
theorem wide_lo (d : Value) : ∀ (cs : List Int32) (j : Nat), j < cs.length → (wideBytes cs).getD (2 * j) d = .int (lo8 (cs.getD j 0))
  | [], j, h => absurd h (Nat.not_lt_zero j)
  | c :: cs, 0, _ => rfl
  | c :: cs, j + 1, h => by
    have q := wide_lo d cs j (by simpa using h)
    rw [show 2 * (j + 1) = 2 * j + 1 + 1 from by omega]
    simpa [wideBytes] using q
theorem wide_hi (d : Value) : ∀ (cs : List Int32) (j : Nat), j < cs.length → (wideBytes cs).getD (2 * j + 1) d = .int (hi8 (cs.getD j 0))
  | [], j, h => absurd h (Nat.not_lt_zero j)
  | c :: cs, 0, _ => rfl
  | c :: cs, j + 1, h => by
    have q := wide_hi d cs j (by simpa using h)
    rw [show 2 * (j + 1) + 1 = 2 * j + 1 + 1 + 1 from by omega]
    simpa [wideBytes] using q
theorem low_at (d : Value) (cs : List Int32) (j : Nat) (h : j < cs.length) : (cs.map fun c => Value.int (lo8 c)).getD j d = .int (lo8 (cs.getD j 0)) := by
  simp [List.getD_eq_getElem?_getD, h]
/-- an array of N2 bytes vs codes the chars cs by the coder cd -/
def CodA (cs : List Int32) (cd N2 : Int32) (vs : List Value) : Prop := (cd = 0 ∧ N2 = Int32.ofNat cs.length ∧ vs = (cs.map fun c => Value.int (lo8 c)) ∧ ∀ c ∈ cs, ¬ 255 < c) ∨ (cd = 1 ∧ N2 = Int32.ofNat (2 * cs.length) ∧ vs = wideBytes cs ∧ ∃ c ∈ cs, 255 < c)
theorem CodA.cod {cs : List Int32} {cd N2 : Int32} {vs : List Value} {V : Cell} (h : CodA cs cd N2 vs) (hn : 2 * cs.length < 2 ^ 31) (hs : V.slots.size = N2.toNatClampNeg) (hv : RoadKit.Has V vs (.int 0)) : Cod cd cs.length (fun j => cs.getD j 0) V := by
  rcases h with ⟨rfl, rfl, rfl, h⟩ | ⟨rfl, rfl, rfl, c, hc, hw⟩
  · rw [n32 (by omega)] at hs
    exact Or.inl ⟨rfl, hs, fun j hj => ⟨by rw [hv j (by omega), low_at _ _ _ hj], by
      have e : cs.getD j 0 = cs[j] := by simp [List.getD_eq_getElem?_getD, hj]
      show ¬ 255 < cs.getD j 0
      rw [e]; exact h _ (List.getElem_mem _)⟩⟩
  · rw [n32 (by omega)] at hs
    obtain ⟨j, hj, rfl⟩ := List.getElem_of_mem hc
    exact Or.inr ⟨rfl, hs, fun j hj => ⟨by rw [hv _ (by omega), wide_lo _ _ _ hj], by rw [hv _ (by omega), wide_hi _ _ _ hj]⟩, j, hj, by
      have e : cs.getD j 0 = cs[j] := by simp [List.getD_eq_getElem?_getD, hj]
      show 255 < cs.getD j 0
      rw [e]; exact hw⟩
/-- an object of exactly java/lang/String, its two fields found: as the laws ask it -/
theorem strObj {Z U : State} {a0 : Array Value} {kI : Nat} (wi : (Jvm.Cond.instantiable ST kI).before a0 Z = true) (al : Z.vm.Alike U.vm) {x : Addr} {v0 c0 : Value} (E : RoadKit.Exa Z U.heap x ST) (V : RoadKit.Fld Z U.heap x ST "value" "[B" v0) (C : RoadKit.Fld Z U.heap x ST "coder" "B" c0) :
    ∃ (D : Cell) (fV fC : Field), Blank ST x D U ∧ Found ST "value" "[B" fV U ∧ Found ST "coder" "B" fC U ∧ D.slots[fV.slot]? = some v0 ∧ D.slots[fC.slot]? = some c0 ∧ RoadKit.slotOf Z ST "value" "[B" = fV.slot ∧ RoadKit.slotOf Z ST "coder" "B" = fC.slot := by
  obtain ⟨D, cfV, kV, iV, fV, hD, gV, stV, knV, obV, asV, slV⟩ := V
  obtain ⟨D', cfC, kC, iC, fC, hD', gC, stC, -, -, asC, slC⟩ := C
  cases hD.symm.trans hD'
  obtain ⟨D2, kD, e1, e2, e3, e4, e5⟩ := E
  cases hD.symm.trans e1
  obtain ⟨c2, k2, i1, i2, i3, -⟩ := Cond.instantiable_spec wi
  cases e2.symm.trans i1
  cases e3.symm.trans i2
  obtain ⟨kU, u1, u2⟩ := al.2.2 _ _ e3
  exact ⟨D, fV, fC, ⟨hD, ⟨knV, fun q hq => by rw [hq] at obV; cases obV⟩, by rw [al.findClass]; exact e2, kU, u1, by rw [u2]; exact i3, by rw [u2]; exact e5 i3⟩, ⟨SBG.found_only al ⟨cfV, kV, iV, gV⟩, stV⟩, ⟨SBG.found_only al ⟨cfC, kC, iC, gC⟩, stC⟩, slV, slC, by simp [RoadKit.slotOf, gV], by simp [RoadKit.slotOf, gC]⟩
theorem sta_is {Z U : State} (al : Z.vm.Alike U.vm) {C n d : String} {v : Value} (S : RoadKit.Sta Z U.heap C n d v) : StaticIs U C n d v := by
  obtain ⟨cfS, iS, kS, fS, st, cS, t1, t2, t3, t4, t5, t6, t7⟩ := S
  exact StaticIs.there (s := { Z with heap := U.heap }) ⟨cfS, iS, kS, fS, st, cS, t1, t2, t3, t4, t5, (fun q => by rw [q] at t6; cases t6), t7⟩ al rfl
end StrChars.Road
namespace StrChars
open Jvm Sem ClassFile Op Lib Jvm.Stand Jvm.Free.XT Jvm.Free.ALB Jvm.Free.JM Jvm.Free
open Jvm.Lib.Cold (StaticIs)
/-- what place i of a byte[]'s cell holds -/
def yv (A : Cell) (i : Nat) : Int32 := match A.slots[i]? with | some (.int x) => x | _ => 0
theorem yv_get {a : Addr} {A : Cell} {U : State} (h : XT.Arr .byte a A U) (ht : Typed .byte A) {i : Nat} (hi : i < A.slots.size) : A.slots[i]? = some (.int (yv A i)) := by
  have e := Array.getElem?_eq_getElem hi
  have f := ht i _ e
  unfold yv; rw [e]
  generalize A.slots[i] = v at f
  cases v <;> simp [fits] at f ⊢
/-- the two arrays are equal, place for place -/
def EqC (A B : Cell) : Prop := A.slots.size = B.slots.size ∧ ∀ i, i < A.slots.size → yv A i = yv B i
/-- a boolean that says whether p -/
def Says01 (q : Prop) (r : Option Value) (s u : State) : Prop := ∃ v : Int32, r = some (.int v) ∧ u.heap = s.heap ∧ ((v = 1 ∧ q) ∨ (v = 0 ∧ ¬ q))
theorem Says01.mv {q : Prop} : ∀ r (U U' V V' : State), U'.heap = U.heap → V.vm.Alike V'.vm → V'.heap = V.heap → Says01 q r U V → Says01 q r U' V' :=
  fun r U U' V V' h1 _ h2 ⟨v, a, b, c⟩ => ⟨v, a, by rw [h1, h2]; exact b, c⟩
namespace LEq
def yN : MethodName := ⟨"java/lang/StringLatin1", "equals", "([B[B)Z"⟩
abbrev yB : ByteArray := jdk_43_method_13_code
theorem d0 : decode yB 0 = .ok (.aload_n 0, 1) := by decide +kernel
theorem d1 : decode yB 1 = .ok (.arraylength, 1) := by decide +kernel
theorem d2 : decode yB 2 = .ok (.aload_n 1, 1) := by decide +kernel
theorem d3 : decode yB 3 = .ok (.arraylength, 1) := by decide +kernel
theorem d4 : decode yB 4 = .ok (.if_icmp (.ne) 30, 3) := by decide +kernel
theorem d7 : decode yB 7 = .ok (.iconst 0, 1) := by decide +kernel
theorem d8 : decode yB 8 = .ok (.istore_n 2, 1) := by decide +kernel
theorem d9 : decode yB 9 = .ok (.iload_n 2, 1) := by decide +kernel
theorem d10 : decode yB 10 = .ok (.aload_n 0, 1) := by decide +kernel
theorem d11 : decode yB 11 = .ok (.arraylength, 1) := by decide +kernel
theorem d12 : decode yB 12 = .ok (.if_icmp (.ge) 20, 3) := by decide +kernel
theorem d15 : decode yB 15 = .ok (.aload_n 0, 1) := by decide +kernel
theorem d16 : decode yB 16 = .ok (.iload_n 2, 1) := by decide +kernel
theorem d17 : decode yB 17 = .ok (.baload, 1) := by decide +kernel
theorem d18 : decode yB 18 = .ok (.aload_n 1, 1) := by decide +kernel
theorem d19 : decode yB 19 = .ok (.iload_n 2, 1) := by decide +kernel
theorem d20 : decode yB 20 = .ok (.baload, 1) := by decide +kernel
theorem d21 : decode yB 21 = .ok (.if_icmp (.eq) 5, 3) := by decide +kernel
theorem d24 : decode yB 24 = .ok (.iconst 0, 1) := by decide +kernel
theorem d25 : decode yB 25 = .ok (.ireturn, 1) := by decide +kernel
theorem d26 : decode yB 26 = .ok (.iinc 2 1, 3) := by decide +kernel
theorem d29 : decode yB 29 = .ok (.goto (-20), 3) := by decide +kernel
theorem d32 : decode yB 32 = .ok (.iconst 1, 1) := by decide +kernel
theorem d33 : decode yB 33 = .ok (.ireturn, 1) := by decide +kernel
theorem d34 : decode yB 34 = .ok (.iconst 0, 1) := by decide +kernel
theorem d35 : decode yB 35 = .ok (.ireturn, 1) := by decide +kernel
def site : List Cond := []
def tab : Cond := tabOf yN yB 3 (some .boolean) site
def P (a : Addr) (A : Cell) (b : Addr) (B : Cell) (args : Array Value) (s : State) : Prop := args = #[.ref a, .ref b] ∧ XT.Arr .byte a A s ∧ Typed .byte A ∧ XT.Arr .byte b B s ∧ Typed .byte B
/-- whether two byte[] are equal, place for place -/
theorem law (l : Launch) (a : Addr) (A : Cell) (b : Addr) (B : Cell) : Law l yN 2 2 0 0 yB 3 (some .boolean) site (P a A b B) (Says01 (EqC A B)) [] 0 0 := by
  refine Law.of_walk (plainFor_of_name (by decide +kernel)) (by decide +kernel) (by decide +kernel) (by decide) (fun _ _ h => by rw [h.1]; rfl) (fun _ U U' hal hh h => ⟨h.1, h.2.1.mv hal hh, h.2.2.1, h.2.2.2.1.mv hal hh, h.2.2.2.2⟩) (fun r U U' V V' h1 hal h2 h => Says01.mv r U U' V V' h1 hal h2 h) ?_
  intro p e s m args below meth c s₁ X0 hexec hbytes hml hret hlk hnm hown hh0 W hP
  obtain ⟨rfl, hA, tA, hB, tB⟩ := hP
  have a31 := hA.2.2.2
  have b31 := hB.2.2.2
  have hA0 := hA.mv X0.warmed.alike hh0
  have hB0 := hB.mv X0.warmed.alike hh0
  have c1 : Steps p.tables e below (s₁.setTop (entryFrame m #[.ref a, .ref b] 3)) (s₁.setTop (mkF m 0 #[.val (.ref a), .val (.ref b), .unset] [])) := entry rfl
  have c2 : Steps p.tables e below (s₁.setTop (entryFrame m #[.ref a, .ref b] 3)) (s₁.setTop (mkF m 4 #[.val (.ref a), .val (.ref b), .unset] [.int (Int32.ofNat B.slots.size), .int (Int32.ofNat A.slots.size)])) := c1.trans (by
    refine XS.aloadN X0.here hexec rfl (hb hbytes d0) rfl rfl ?_
    refine X0.alen hexec hA0 rfl rfl (hb hbytes d1) ?_
    refine XS.aloadN X0.here hexec rfl (hb hbytes d2) rfl rfl ?_
    refine X0.alen hexec hB0 rfl rfl (hb hbytes d3) ?_
    exact Steps.refl _)
  by_cases hs : A.slots.size = B.slots.size
  · have c3 : Steps p.tables e below (s₁.setTop (entryFrame m #[.ref a, .ref b] 3)) (s₁.setTop (mkF m 9 #[.val (.ref a), .val (.ref b), .val (.int 0)] [])) := c2.trans (by
      refine XS.icmpNo X0.here hexec rfl (hb hbytes d4) rfl (ii_ne_f (by rw [hs])) ?_
      refine iconstV X0.here hexec rfl 0 (hb hbytes d7) (by decide) ?_
      refine XS.istoreN X0.here hexec rfl (hb hbytes d8) rfl rfl ?_
      exact Steps.refl _)
    have loop : ∀ (r i : Nat), i + r = A.slots.size → (∀ j, j < i → yv A j = yv B j) → Steps p.tables e below (s₁.setTop (entryFrame m #[.ref a, .ref b] 3)) (s₁.setTop (mkF m 9 #[.val (.ref a), .val (.ref b), .val (.int (Int32.ofNat i))] [])) → ∃ (pc : Nat) (Ls : Array Slot) (v : Int32), (pc = 25 ∨ pc = 33) ∧ ((v = 1 ∧ EqC A B) ∨ (v = 0 ∧ ¬ EqC A B)) ∧ Steps p.tables e below (s₁.setTop (entryFrame m #[.ref a, .ref b] 3)) (s₁.setTop (mkF m pc Ls [.int v])) := by
      intro r
      induction r with
      | zero =>
        intro i hi he cl
        exact ⟨33, _, 1, Or.inr rfl, Or.inl ⟨rfl, hs, fun j hj => he j (by omega)⟩, cl.trans (by
          refine XS.iloadN X0.here hexec rfl (hb hbytes d9) rfl ?_
          refine XS.aloadN X0.here hexec rfl (hb hbytes d10) rfl rfl ?_
          refine X0.alen hexec hA0 rfl rfl (hb hbytes d11) ?_
          refine XS.icmpYes X0.here hexec rfl (pc0 := 12) rfl (hb hbytes d12) rfl (ii_ge_t (nlt32 (by omega) (by omega))) (by decide) rfl ?_
          refine iconstV X0.here hexec rfl 1 (hb hbytes d32) (by decide) ?_
          exact Steps.refl _)⟩
      | succ r ih =>
        intro i hi he cl
        have c4 : Steps p.tables e below (s₁.setTop (entryFrame m #[.ref a, .ref b] 3)) (s₁.setTop (mkF m 21 #[.val (.ref a), .val (.ref b), .val (.int (Int32.ofNat i))] [.int (yv B i), .int (yv A i)])) := cl.trans (by
          refine XS.iloadN X0.here hexec rfl (hb hbytes d9) rfl ?_
          refine XS.aloadN X0.here hexec rfl (hb hbytes d10) rfl rfl ?_
          refine X0.alen hexec hA0 rfl rfl (hb hbytes d11) ?_
          refine XS.icmpNo X0.here hexec rfl (hb hbytes d12) rfl (ii_ge_f (lt32 (by omega) (by omega))) ?_
          refine XS.aloadN X0.here hexec rfl (hb hbytes d15) rfl rfl ?_
          refine XS.iloadN X0.here hexec rfl (hb hbytes d16) rfl ?_
          refine X0.aget hexec hA0 rfl (yv_get hA tA (i := i) (by omega)) rfl rfl (hb hbytes d17) ?_
          refine XS.aloadN X0.here hexec rfl (hb hbytes d18) rfl rfl ?_
          refine XS.iloadN X0.here hexec rfl (hb hbytes d19) rfl ?_
          refine X0.aget hexec hB0 rfl (yv_get hB tB (i := i) (by omega)) rfl rfl (hb hbytes d20) ?_
          exact Steps.refl _)
        by_cases hv : yv A i = yv B i
        · have c5 : Steps p.tables e below (s₁.setTop (entryFrame m #[.ref a, .ref b] 3)) (s₁.setTop (mkF m 9 #[.val (.ref a), .val (.ref b), .val (.int (Int32.ofNat i + 1))] [])) := c4.trans (by
            refine XS.icmpYes X0.here hexec rfl (pc0 := 21) rfl (hb hbytes d21) rfl (ii_eq_t hv) (by decide) rfl ?_
            refine iincV X0.here hexec rfl 1 (hb hbytes d26) (by decide) rfl rfl ?_
            refine XS.goto X0.here hexec rfl (pc0 := 29) rfl (hb hbytes d29) (by decide) rfl ?_
            exact Steps.refl _)
          rw [succ32] at c5
          exact ih (i + 1) (by omega) (fun j hj => by
            by_cases e : j = i
            · rw [e]; exact hv
            · exact he j (by omega)) c5
        · exact ⟨25, _, 0, Or.inl rfl, Or.inr ⟨rfl, fun q => hv (q.2 i (by omega))⟩, c4.trans (by
            refine XS.icmpNo X0.here hexec rfl (hb hbytes d21) rfl (ii_eq_f hv) ?_
            refine iconstV X0.here hexec rfl 0 (hb hbytes d24) (by decide) ?_
            exact Steps.refl _)⟩
    obtain ⟨pc, Ls, v, hpc, hv, cz⟩ := loop A.slots.size 0 (by omega) (fun j hj => absurd hj (Nat.not_lt_zero j)) c3
    have nv : narrow .boolean (.int v) = .int v := by rcases hv with ⟨rfl, -⟩ | ⟨rfl, -⟩ <;> rfl
    rcases hpc with rfl | rfl
    · exact ⟨s₁, some (.int v), _, _, _, X0, rfl, rfl, rfl, (fun h => by cases h), ⟨v, rfl, hh0, hv⟩, fun fs hl => cz.trans (X0.ireturnOut hexec hret nv (Or.inr (Or.inl rfl)) (hb hbytes d25) hl)⟩
    · exact ⟨s₁, some (.int v), _, _, _, X0, rfl, rfl, rfl, (fun h => by cases h), ⟨v, rfl, hh0, hv⟩, fun fs hl => cz.trans (X0.ireturnOut hexec hret nv (Or.inr (Or.inl rfl)) (hb hbytes d33) hl)⟩
  · have c3 : Steps p.tables e below (s₁.setTop (entryFrame m #[.ref a, .ref b] 3)) (s₁.setTop (mkF m 35 #[.val (.ref a), .val (.ref b), .unset] [.int 0])) := c2.trans (by
      refine XS.icmpYes X0.here hexec rfl (pc0 := 4) rfl (hb hbytes d4) rfl (ii_ne_t (ne32 a31 b31 hs)) (by decide) rfl ?_
      refine iconstV X0.here hexec rfl 0 (hb hbytes d34) (by decide) ?_
      exact Steps.refl _)
    exact ⟨s₁, some (.int 0), _, _, _, X0, rfl, rfl, rfl, (fun h => by cases h), ⟨0, rfl, hh0, Or.inr ⟨rfl, fun q => hs q.1⟩⟩, fun fs hl => c3.trans (X0.ireturnOut hexec hret rfl (Or.inr (Or.inl rfl)) (hb hbytes d35) hl)⟩
end LEq
theorem Cod.ty {cd : Int32} {n : Nat} {f : Nat → Int32} {V : Cell} (h : Cod cd n f V) : Typed .byte V := fun i v hv => by
  have hi : i < V.slots.size := (Array.getElem?_eq_some_iff.mp hv).1
  rcases h with ⟨-, k1, k2⟩ | ⟨-, k1, k2, -⟩
  · rw [(k2 i (by omega)).1] at hv; cases hv; exact fits_lo8 _
  · rcases Nat.mod_two_eq_zero_or_one i with e | e
    · obtain ⟨j, rfl⟩ : ∃ j, i = 2 * j := ⟨i / 2, by omega⟩
      rw [(k2 j (by omega)).1] at hv; cases hv; exact fits_lo8 _
    · obtain ⟨j, rfl⟩ : ∃ j, i = 2 * j + 1 := ⟨i / 2, by omega⟩
      rw [(k2 j (by omega)).2] at hv; cases hv; exact fits_lo8 _
/-- the same text -/
def SameT (n : Nat) (f : Nat → Int32) (k : Nat) (g : Nat → Int32) : Prop := n = k ∧ ∀ j, j < n → f j = g j
theorem lo8_inj {x y : Int32} (h0 : ¬ x < 0) (h1 : ¬ 255 < x) (k0 : ¬ y < 0) (k1 : ¬ 255 < y) (h : lo8 x = lo8 y) : x = y := by
  rw [← lo8_mask h0 h1, ← lo8_mask k0 k1, h]
/-- arrays coded by one coder are equal just where the texts are -/
theorem Cod.eqv {cd : Int32} {n k : Nat} {f g : Nat → Int32} {V V' : Cell} (h : Cod cd n f V) (h' : Cod cd k g V') (hf : ∀ j, j < n → ¬ f j < 0 ∧ ¬ 65535 < f j) (hg : ∀ j, j < k → ¬ g j < 0 ∧ ¬ 65535 < g j) : EqC V V' ↔ SameT n f k g := by
  have yvv : ∀ {W : Cell} {i : Nat} {x : Int32}, W.slots[i]? = some (.int x) → yv W i = x := fun q => by unfold yv; rw [q]
  rcases h with ⟨rfl, k1, k2⟩ | ⟨rfl, k1, k2, -⟩
  · rcases h' with ⟨-, m1, m2⟩ | ⟨e, -⟩
    · constructor
      · rintro ⟨e1, e2⟩
        refine ⟨by omega, fun j hj => ?_⟩
        have q := e2 j (by omega)
        rw [yvv (k2 j hj).1, yvv (m2 j (by omega)).1] at q
        exact lo8_inj (hf j hj).1 (k2 j hj).2 (hg j (by omega)).1 (m2 j (by omega)).2 q
      · rintro ⟨rfl, e2⟩
        refine ⟨by omega, fun j hj => ?_⟩
        rw [yvv (k2 j (by omega)).1, yvv (m2 j (by omega)).1, e2 j (by omega)]
    · exact absurd e (by decide)
  · rcases h' with ⟨e, -⟩ | ⟨-, m1, m2, -⟩
    · exact absurd e (by decide)
    · constructor
      · rintro ⟨e1, e2⟩
        refine ⟨by omega, fun j hj => ?_⟩
        have q1 := e2 (2 * j) (by omega)
        have q2 := e2 (2 * j + 1) (by omega)
        rw [yvv (k2 j hj).1, yvv (m2 j (by omega)).1] at q1
        rw [yvv (k2 j hj).2, yvv (m2 j (by omega)).2] at q2
        rw [← pair_says (hf j hj).1 (hf j hj).2, ← pair_says (hg j (by omega)).1 (hg j (by omega)).2, q1, q2]
      · rintro ⟨rfl, e2⟩
        refine ⟨by omega, fun i hi => ?_⟩
        rcases Nat.mod_two_eq_zero_or_one i with e | e
        · obtain ⟨j, rfl⟩ : ∃ j, i = 2 * j := ⟨i / 2, by omega⟩
          rw [yvv (k2 j (by omega)).1, yvv (m2 j (by omega)).1, e2 j (by omega)]
        · obtain ⟨j, rfl⟩ : ∃ j, i = 2 * j + 1 := ⟨i / 2, by omega⟩
          rw [yvv (k2 j (by omega)).2, yvv (m2 j (by omega)).2, e2 j (by omega)]
/-- two codings differ: so do the texts -/
theorem Cod.dif {cd cd' : Int32} {n k : Nat} {f g : Nat → Int32} {V V' : Cell} (h : Cod cd n f V) (h' : Cod cd' k g V') (hne : ¬ cd = cd') : ¬ SameT n f k g := by
  rintro ⟨rfl, e⟩
  rcases h with ⟨rfl, -, k2⟩ | ⟨rfl, -, -, j, hj, hw⟩
  · rcases h' with ⟨rfl, -⟩ | ⟨-, -, -, j, hj, hw⟩
    · exact hne rfl
    · exact (k2 j hj).2 (by rw [e j hj]; exact hw)
  · rcases h' with ⟨-, -, m2⟩ | ⟨rfl, -⟩
    · exact (m2 j hj).2 (by rw [← e j hj]; exact hw)
    · exact hne rfl
/-- an object of exactly C is an instance of C -/
theorem cinst {p : Program} {l : Launch} {e : Env} {R : Room} {s : State} {m : MethodId} {args : Array Value} {below : List Frame} {meth : Method} {c : Code} {T : State} {locs : List Loc} {cells slots : Nat} (X : Stand p l e R s m args below meth c T locs cells slots) (hexec : p.tables.exec = Jvm.exec) {own C : String} {index : Nat} (hown : s.vm.findClass own = some m.cls) (hlink : (Cond.classLink own index C).before args s = true) {a : Addr} (hE : Exact C a T)
    {g : JFrame} (hg : g.method = m) {rest : List Value} (hstack : g.stack = .ref a :: rest) (hdg : decode c.code g.pc = .ok (.instanceof index, 3)) :
    ∃ T', Stand p l e R s m args below meth c T' locs cells slots ∧ T'.heap = T.heap ∧ ∀ target, Steps p.tables e below (T'.setTop { g with pc := g.pc + 3, stack := .int 1 :: rest }) target → Steps p.tables e below (T.setTop g) target := by
  obtain ⟨cB, h1, D, h2, h3, h4⟩ := hE
  have h1' : s.vm.findClass C = some cB := by rw [← X.warmed.alike.findClass]; exact h1
  obtain ⟨vm', X', st⟩ := X.instanceofYes hexec hown hlink h2 h4 h1' (by rw [h3]; exact Jvm.Free.SB.assignable_self _ _) hg hstack hdg
  exact ⟨_, X', rfl, st⟩
theorem cself {p : Program} {l : Launch} {e : Env} {R : Room} {s : State} {m : MethodId} {args : Array Value} {below : List Frame} {meth : Method} {c : Code} {T : State} {locs : List Loc} {cells slots : Nat} (X : Stand p l e R s m args below meth c T locs cells slots) (hexec : p.tables.exec = Jvm.exec) {own C : String} {index : Nat} (hown : s.vm.findClass own = some m.cls) (hlink : (Cond.classLink own index C).before args s = true) {a : Addr} (hE : Exact C a T)
    {g : JFrame} (hg : g.method = m) {rest : List Value} (hstack : g.stack = .ref a :: rest) (hdg : decode c.code g.pc = .ok (.checkcast index, 3)) :
    ∃ T', Stand p l e R s m args below meth c T' locs cells slots ∧ T'.heap = T.heap ∧ ∀ target, Steps p.tables e below (T'.setTop { g with pc := g.pc + 3, stack := .ref a :: rest }) target → Steps p.tables e below (T.setTop g) target := by
  obtain ⟨cB, h1, D, h2, h3, h4⟩ := hE
  have h1' : s.vm.findClass C = some cB := by rw [← X.warmed.alike.findClass]; exact h1
  obtain ⟨vm', X', st⟩ := X.checkcastYes hexec hown hlink h2 h4 h1' (by rw [h3]; exact Jvm.Free.SB.assignable_self _ _) hg hstack hdg
  exact ⟨_, X', rfl, fun t h => st t (by rw [← hstack] at h; exact h)⟩
namespace SEq
def yN : MethodName := ⟨"java/lang/String", "equals", "(Ljava/lang/Object;)Z"⟩
abbrev yB : ByteArray := jdk_42_method_66_code
theorem d0 : decode yB 0 = .ok (.aload_n 0, 1) := by decide +kernel
theorem d1 : decode yB 1 = .ok (.aload_n 1, 1) := by decide +kernel
theorem d2 : decode yB 2 = .ok (.if_acmp (.ne) 5, 3) := by decide +kernel
theorem d5 : decode yB 5 = .ok (.iconst 1, 1) := by decide +kernel
theorem d6 : decode yB 6 = .ok (.ireturn, 1) := by decide +kernel
theorem d7 : decode yB 7 = .ok (.aload_n 1, 1) := by decide +kernel
theorem d8 : decode yB 8 = .ok (.instanceof 10, 3) := by decide +kernel
theorem d11 : decode yB 11 = .ok (.ifCond (.eq) 43, 3) := by decide +kernel
theorem d14 : decode yB 14 = .ok (.aload_n 1, 1) := by decide +kernel
theorem d15 : decode yB 15 = .ok (.checkcast 10, 3) := by decide +kernel
theorem d18 : decode yB 18 = .ok (.astore_n 2, 1) := by decide +kernel
theorem d19 : decode yB 19 = .ok (.getstatic 38, 3) := by decide +kernel
theorem d22 : decode yB 22 = .ok (.ifCond (.eq) 14, 3) := by decide +kernel
theorem d25 : decode yB 25 = .ok (.aload_n 0, 1) := by decide +kernel
theorem d26 : decode yB 26 = .ok (.getfield 15, 3) := by decide +kernel
theorem d29 : decode yB 29 = .ok (.aload_n 2, 1) := by decide +kernel
theorem d30 : decode yB 30 = .ok (.getfield 15, 3) := by decide +kernel
theorem d33 : decode yB 33 = .ok (.if_icmp (.ne) 21, 3) := by decide +kernel
theorem d36 : decode yB 36 = .ok (.aload_n 0, 1) := by decide +kernel
theorem d37 : decode yB 37 = .ok (.getfield 9, 3) := by decide +kernel
theorem d40 : decode yB 40 = .ok (.aload_n 2, 1) := by decide +kernel
theorem d41 : decode yB 41 = .ok (.getfield 9, 3) := by decide +kernel
theorem d44 : decode yB 44 = .ok (.invokestatic 541, 3) := by decide +kernel
theorem d47 : decode yB 47 = .ok (.ifCond (.eq) 7, 3) := by decide +kernel
theorem d50 : decode yB 50 = .ok (.iconst 1, 1) := by decide +kernel
theorem d51 : decode yB 51 = .ok (.goto 4, 3) := by decide +kernel
theorem d54 : decode yB 54 = .ok (.iconst 0, 1) := by decide +kernel
theorem d55 : decode yB 55 = .ok (.ireturn, 1) := by decide +kernel
def site : List Cond := [.classLink "java/lang/String" 10 "java/lang/String", .fieldLink "java/lang/String" 38 "java/lang/String" "COMPACT_STRINGS" "Z", .fieldLink "java/lang/String" 15 "java/lang/String" "coder" "B", .fieldLink "java/lang/String" 9 "java/lang/String" "value" "[B", LEq.tab] ++ staticW "java/lang/String" 541 LEq.yN
def tab : Cond := tabOf yN yB 3 (some .boolean) site
def P (x t : Addr) (V : Cell) (cd : Int32) (n : Nat) (f : Nat → Int32) (y t' : Addr) (V' : Cell) (cd' : Int32) (k : Nat) (g : Nat → Int32) (z : Int32) (args : Array Value) (s : State) : Prop := args = #[.ref x, .ref y] ∧ Txt x t V cd n f s ∧ Txt y t' V' cd' k g s ∧ StaticIs s "java/lang/String" "COMPACT_STRINGS" "Z" (.int z) ∧ ¬ z = 0
/-- equals(Object) of two Strings: whether the texts are the same -/
theorem law (l : Launch) (x t : Addr) (V : Cell) (cd : Int32) (n : Nat) (f : Nat → Int32) (y t' : Addr) (V' : Cell) (cd' : Int32) (k : Nat) (g : Nat → Int32) (z : Int32) : Law l yN 2 1 1 14 yB 3 (some .boolean) site (P x t V cd n f y t' V' cd' k g z) (Says01 (SameT n f k g)) [] 0 0 := by
  refine Law.of_walk (plainFor_of_name (by decide +kernel)) (by decide +kernel) (by decide +kernel) (by decide) (fun _ _ h => by rw [h.1]; rfl) (fun _ U U' hal hh h => ⟨h.1, h.2.1.mv hal hh, h.2.2.1.mv hal hh, h.2.2.2.1.there hal hh, h.2.2.2.2⟩) (fun r U U' V V' h1 hal h2 h => Says01.mv r U U' V V' h1 hal h2 h) ?_
  intro p e s m args below meth c s₁ X0 hexec hbytes hml hret hlk hnm hown hh0 W hP
  obtain ⟨rfl, hx, hy, s1, hz⟩ := hP
  have c1 : Steps p.tables e below (s₁.setTop (entryFrame m #[.ref x, .ref y] 3)) (s₁.setTop (mkF m 2 #[.val (.ref x), .val (.ref y), .unset] [.ref y, .ref x])) := Steps.trans (entry rfl) (by
    show Steps p.tables e below (s₁.setTop (mkF m 0 #[.val (.ref x), .val (.ref y), .unset] [])) _
    refine XS.aloadN X0.here hexec rfl (hb hbytes d0) rfl rfl ?_
    refine XS.aloadN X0.here hexec rfl (hb hbytes d1) rfl rfl ?_
    exact Steps.refl _)
  by_cases hxy : x = y
  · have c2 : Steps p.tables e below (s₁.setTop (entryFrame m #[.ref x, .ref y] 3)) (s₁.setTop (mkF m 6 #[.val (.ref x), .val (.ref y), .unset] [.int 1])) := c1.trans (by
      refine acmpNo X0.here hexec rfl (hb hbytes d2) rfl rfl rfl (by simp [acmp, hxy]) ?_
      refine iconstV X0.here hexec rfl 1 (hb hbytes d5) (by decide) ?_
      exact Steps.refl _)
    subst hxy
    have ec : cd = cd' := by
      obtain ⟨D, fd, a1, a2, a3⟩ := hx.2.2.1
      obtain ⟨D', fd', b1, b2, b3⟩ := hy.2.2.1
      cases a1.symm.trans b1
      obtain ⟨q1, q2, q3, q4⟩ := a2.1
      obtain ⟨r1, r2, r3, r4⟩ := b2.1
      cases q4.symm.trans r4
      cases a3.symm.trans b3; rfl
    have et : t = t' := by
      obtain ⟨D, fd, a1, a2, a3⟩ := hx.2.1
      obtain ⟨D', fd', b1, b2, b3⟩ := hy.2.1
      cases a1.symm.trans b1
      obtain ⟨q1, q2, q3, q4⟩ := a2.1
      obtain ⟨r1, r2, r3, r4⟩ := b2.1
      cases q4.symm.trans r4
      cases a3.symm.trans b3; rfl
    subst ec et
    have ev : V = V' := by cases hx.2.2.2.1.1.symm.trans hy.2.2.2.1.1; rfl
    subst ev
    have hs : SameT n f k g := (Cod.eqv hx.2.2.2.2.1 hy.2.2.2.2.1 hx.2.2.2.2.2 hy.2.2.2.2.2).mp ⟨rfl, fun _ _ => rfl⟩
    exact ⟨s₁, some (.int 1), _, _, _, X0, rfl, rfl, rfl, (fun h => by cases h), ⟨1, rfl, hh0, Or.inl ⟨rfl, hs⟩⟩, fun fs hl => c2.trans (X0.ireturnOut hexec hret rfl (Or.inr (Or.inl rfl)) (hb hbytes d6) hl)⟩
  · have c2 : Steps p.tables e below (s₁.setTop (entryFrame m #[.ref x, .ref y] 3)) (s₁.setTop (mkF m 8 #[.val (.ref x), .val (.ref y), .unset] [.ref y])) := c1.trans (by
      refine acmpYes X0.here hexec rfl (pc0 := 2) rfl (hb hbytes d2) rfl rfl rfl (by simp [acmp, hxy]) (by decide) rfl ?_
      refine XS.aloadN X0.here hexec rfl (hb hbytes d7) rfl rfl ?_
      exact Steps.refl _)
    obtain ⟨T3, X3, q3, st3⟩ := cinst X0 hexec hown (wk W (.classLink "java/lang/String" 10 "java/lang/String")) (hy.mv X0.warmed.alike hh0).1 (g := (mkF m 8 #[.val (.ref x), .val (.ref y), .unset] [.ref y])) rfl (rest := []) rfl (hb hbytes d8)
    have hh3 := q3.trans hh0
    have c4 : Steps p.tables e below (s₁.setTop (entryFrame m #[.ref x, .ref y] 3)) (T3.setTop (mkF m 15 #[.val (.ref x), .val (.ref y), .unset] [.ref y])) := (c2.trans (st3 _ (Steps.refl _))).trans (by
      refine XS.ifNo X3.here hexec rfl (hb hbytes d11) rfl (i0_eq_f (by decide)) ?_
      refine XS.aloadN X3.here hexec rfl (hb hbytes d14) rfl rfl ?_
      exact Steps.refl _)
    obtain ⟨T5, X5, q5, st5⟩ := cself X3 hexec hown (wk W (.classLink "java/lang/String" 10 "java/lang/String")) (hy.mv X3.warmed.alike hh3).1 (g := (mkF m 15 #[.val (.ref x), .val (.ref y), .unset] [.ref y])) rfl (rest := []) rfl (hb hbytes d15)
    have hh5 := q5.trans hh3
    have c6 : Steps p.tables e below (s₁.setTop (entryFrame m #[.ref x, .ref y] 3)) (T5.setTop (mkF m 19 #[.val (.ref x), .val (.ref y), .val (.ref y)] [])) := (c4.trans (st5 _ (Steps.refl _))).trans (by
      refine XS.astoreN X5.here hexec rfl (hb hbytes d18) rfl rfl rfl ?_
      exact Steps.refl _)
    obtain ⟨T7, X7, q7, st7⟩ := X5.sget hexec hown (wk W (.fieldLink "java/lang/String" 38 "java/lang/String" "COMPACT_STRINGS" "Z")) s1 (fun _ _ h => by rw [hh5]; exact h) (g := (mkF m 19 #[.val (.ref x), .val (.ref y), .val (.ref y)] [])) rfl (hb hbytes d19)
    have hh7 := q7.trans hh5
    have c8 : Steps p.tables e below (s₁.setTop (entryFrame m #[.ref x, .ref y] 3)) (T7.setTop (mkF m 26 #[.val (.ref x), .val (.ref y), .val (.ref y)] [.ref x])) := (c6.trans (st7 _ (Steps.refl _))).trans (by
      refine XS.ifNo X7.here hexec rfl (hb hbytes d22) rfl (i0_eq_f hz) ?_
      refine XS.aloadN X7.here hexec rfl (hb hbytes d25) rfl rfl ?_
      exact Steps.refl _)
    obtain ⟨T9, X9, q9, st9⟩ := X7.hget hexec hown (wk W (.fieldLink "java/lang/String" 15 "java/lang/String" "coder" "B")) (hx.mv X7.warmed.alike hh7).2.2.1 (g := (mkF m 26 #[.val (.ref x), .val (.ref y), .val (.ref y)] [.ref x])) rfl (rest := []) rfl (hb hbytes d26)
    have hh9 := q9.trans hh7
    have c10 : Steps p.tables e below (s₁.setTop (entryFrame m #[.ref x, .ref y] 3)) (T9.setTop (mkF m 30 #[.val (.ref x), .val (.ref y), .val (.ref y)] [.ref y, .int cd])) := (c8.trans (st9 _ (Steps.refl _))).trans (by
      refine XS.aloadN X9.here hexec rfl (hb hbytes d29) rfl rfl ?_
      exact Steps.refl _)
    obtain ⟨T11, X11, q11, st11⟩ := X9.hget hexec hown (wk W (.fieldLink "java/lang/String" 15 "java/lang/String" "coder" "B")) (hy.mv X9.warmed.alike hh9).2.2.1 (g := (mkF m 30 #[.val (.ref x), .val (.ref y), .val (.ref y)] [.ref y, .int cd])) rfl (rest := [.int cd]) rfl (hb hbytes d30)
    have hh11 := q11.trans hh9
    have c12 : Steps p.tables e below (s₁.setTop (entryFrame m #[.ref x, .ref y] 3)) (T11.setTop (mkF m 33 #[.val (.ref x), .val (.ref y), .val (.ref y)] [.int cd', .int cd])) := c10.trans (st11 _ (Steps.refl _))
    by_cases hcd : cd = cd'
    · subst hcd
      have c13 : Steps p.tables e below (s₁.setTop (entryFrame m #[.ref x, .ref y] 3)) (T11.setTop (mkF m 37 #[.val (.ref x), .val (.ref y), .val (.ref y)] [.ref x])) := c12.trans (by
        refine XS.icmpNo X11.here hexec rfl (hb hbytes d33) rfl (ii_ne_f rfl) ?_
        refine XS.aloadN X11.here hexec rfl (hb hbytes d36) rfl rfl ?_
        exact Steps.refl _)
      obtain ⟨T14, X14, q14, st14⟩ := X11.hget hexec hown (wk W (.fieldLink "java/lang/String" 9 "java/lang/String" "value" "[B")) (hx.mv X11.warmed.alike hh11).2.1 (g := (mkF m 37 #[.val (.ref x), .val (.ref y), .val (.ref y)] [.ref x])) rfl (rest := []) rfl (hb hbytes d37)
      have hh14 := q14.trans hh11
      have c15 : Steps p.tables e below (s₁.setTop (entryFrame m #[.ref x, .ref y] 3)) (T14.setTop (mkF m 41 #[.val (.ref x), .val (.ref y), .val (.ref y)] [.ref y, .ref t])) := (c13.trans (st14 _ (Steps.refl _))).trans (by
        refine XS.aloadN X14.here hexec rfl (hb hbytes d40) rfl rfl ?_
        exact Steps.refl _)
      obtain ⟨T16, X16, q16, st16⟩ := X14.hget hexec hown (wk W (.fieldLink "java/lang/String" 9 "java/lang/String" "value" "[B")) (hy.mv X14.warmed.alike hh14).2.1 (g := (mkF m 41 #[.val (.ref x), .val (.ref y), .val (.ref y)] [.ref y, .ref t])) rfl (rest := [.ref t]) rfl (hb hbytes d41)
      have hh16 := q16.trans hh14
      have c17 : Steps p.tables e below (s₁.setTop (entryFrame m #[.ref x, .ref y] 3)) (T16.setTop (mkF m 44 #[.val (.ref x), .val (.ref y), .val (.ref y)] [.ref t', .ref t])) := c15.trans (st16 _ (Steps.refl _))
      obtain ⟨v18, T18, X18, E18, g18⟩ := X16.callS hexec (LEq.law l t V t' V') hown (wks W (staticW "java/lang/String" 541 LEq.yN)) (wk W LEq.tab) (W := 0) (Nat.le_of_ble_eq_true rfl) (Nat.le_of_ble_eq_true rfl) (Nat.le_refl _) (Nat.le_refl _) (g := (mkF m 44 #[.val (.ref x), .val (.ref y), .val (.ref y)] [.ref t', .ref t])) rfl (by rw [hml]; rfl) c17 (argsL := [.ref t, .ref t']) (rest := []) rfl rfl (by show 2 * 0 + 0 ≤ _; decide) (hb hbytes d44) (⟨rfl, hx.2.2.2.1.mv X16.warmed.alike hh16, hx.2.2.2.2.1.ty, hy.2.2.2.1.mv X16.warmed.alike hh16, hy.2.2.2.2.1.ty⟩)
      obtain ⟨v, rfl, q18, hv⟩ := E18
      have iff := Cod.eqv hx.2.2.2.2.1 hy.2.2.2.2.1 hx.2.2.2.2.2 hy.2.2.2.2.2
      rcases hv with ⟨rfl, he⟩ | ⟨rfl, he⟩
      · have c19 : Steps p.tables e below (s₁.setTop (entryFrame m #[.ref x, .ref y] 3)) (T18.setTop (mkF m 55 #[.val (.ref x), .val (.ref y), .val (.ref y)] [.int 1])) := Steps.trans g18 (by
          refine XS.ifNo X18.here hexec rfl (hb hbytes d47) rfl (i0_eq_f (by decide)) ?_
          refine iconstV X18.here hexec rfl 1 (hb hbytes d50) (by decide) ?_
          refine XS.goto X18.here hexec rfl (pc0 := 51) rfl (hb hbytes d51) (by decide) rfl ?_
          exact Steps.refl _)
        exact ⟨T18, some (.int 1), _, _, _, X18, rfl, rfl, rfl, (fun h => by cases h), ⟨1, rfl, q18.trans hh16, Or.inl ⟨rfl, iff.mp he⟩⟩, fun fs hl => c19.trans (X18.ireturnOut hexec hret rfl (Or.inr (Or.inl rfl)) (hb hbytes d55) hl)⟩
      · have c19 : Steps p.tables e below (s₁.setTop (entryFrame m #[.ref x, .ref y] 3)) (T18.setTop (mkF m 55 #[.val (.ref x), .val (.ref y), .val (.ref y)] [.int 0])) := Steps.trans g18 (by
          refine XS.ifYes X18.here hexec rfl (pc0 := 47) rfl (hb hbytes d47) rfl (i0_eq_t rfl) (by decide) rfl ?_
          refine iconstV X18.here hexec rfl 0 (hb hbytes d54) (by decide) ?_
          exact Steps.refl _)
        exact ⟨T18, some (.int 0), _, _, _, X18, rfl, rfl, rfl, (fun h => by cases h), ⟨0, rfl, q18.trans hh16, Or.inr ⟨rfl, fun q => he (iff.mpr q)⟩⟩, fun fs hl => c19.trans (X18.ireturnOut hexec hret rfl (Or.inr (Or.inl rfl)) (hb hbytes d55) hl)⟩
    · have c13 : Steps p.tables e below (s₁.setTop (entryFrame m #[.ref x, .ref y] 3)) (T11.setTop (mkF m 55 #[.val (.ref x), .val (.ref y), .val (.ref y)] [.int 0])) := c12.trans (by
        refine XS.icmpYes X11.here hexec rfl (pc0 := 33) rfl (hb hbytes d33) rfl (ii_ne_t hcd) (by decide) rfl ?_
        refine iconstV X11.here hexec rfl 0 (hb hbytes d54) (by decide) ?_
        exact Steps.refl _)
      exact ⟨T11, some (.int 0), _, _, _, X11, rfl, rfl, rfl, (fun h => by cases h), ⟨0, rfl, hh11, Or.inr ⟨rfl, Cod.dif hx.2.2.2.2.1 hy.2.2.2.2.1 hcd⟩⟩, fun fs hl => c13.trans (X11.ireturnOut hexec hret rfl (Or.inr (Or.inl rfl)) (hb hbytes d55) hl)⟩
theorem pays {l : Launch} {R : Room} {p : Program} {e : Env} {below : List Frame} {s : State} {sargs : Array Value} {len W : Nat} (x t : Addr) (V : Cell) (cd : Int32) (n : Nat) (f : Nat → Int32) (y t' : Addr) (V' : Cell) (cd' : Int32) (k : Nat) (g : Nat → Int32) (z : Int32) (htab : tab.before sargs s = true) (hfr : 2 ≤ R.frames) (hlo : W + 28 ≤ R.locals) :
    Back l R p e below s sargs yN len W (fun A₁ a₁ => A₁.cells + 0 ≤ R.cells ∧ A₁.slots + 0 ≤ R.slots ∧ P x t V cd n f y t' V' cd' k g z a₁ A₁.U) (fun A₁ _ v₁ B₁ => Says01 (SameT n f k g) v₁ A₁.U B₁.U ∧ B₁.locs = A₁.locs ++ [] ∧ B₁.cells = A₁.cells + 0 ∧ B₁.slots = A₁.slots + 0) :=
  (law l x t V cd n f y t' V' cd' k g z).pays htab hfr (by omega)
end SEq
end StrChars
namespace StrChars.Road
open Jvm Sem ClassFile Op Lib Jvm.Stand Jvm.Free Jvm.Free.XT
open Jvm.Lib.Cold (StaticIs)
/-- the words of String.equals(Object) -/
abbrev wordsEq : List Jvm.Cond := [.code SEq.yN SEq.yB 3 (some .boolean), .initialized ST, .classLink ST 10 ST, .fieldLink ST 38 ST "COMPACT_STRINGS" "Z", .fieldLink ST 15 ST "coder" "B", .fieldLink ST 9 ST "value" "[B", .methodLink ST 541 LEq.yN, .static LEq.yN, .code LEq.yN LEq.yB 3 (some .boolean), .initialized "java/lang/StringLatin1"]
theorem tabEq_of {a : Array Value} {s : State} (h : ∀ w ∈ wordsEq, w.before a s = true) : SEq.tab.before a s = true := by
  have hl : LEq.tab.before a s = true := unparts (wk h (.code LEq.yN LEq.yB 3 (some .boolean))) (wks h (.initialized LEq.yN.cls :: LEq.site))
  have q := consq hl h
  exact unparts (wk q (.code SEq.yN SEq.yB 3 (some .boolean))) (wks q (.initialized SEq.yN.cls :: SEq.site))
theorem movedEq {Z s : State} {a0 args : Array Value} (hZ : Z.Warmed39 s.vm) (hw : ∀ d ∈ wordsEq, d.before a0 Z = true) : ∀ d ∈ wordsEq, d.before args s = true := fun d hd => by
  have t : ∀ d ∈ wordsEq, (d.onTables && d.keepsFace) = true := by decide +kernel
  exact RoadKit.mv hZ (hw d hd) (t d hd)
/-- the road's facts of a String, as the laws ask it -/
theorem txt_of {Z U : State} {a0 : Array Value} {kI : Nat} (wi : (Jvm.Cond.instantiable ST kI).before a0 Z = true) (al : Z.vm.Alike U.vm) {x t : Addr} {kb : ClassId} {cs : List Int32} {cd N2 : Int32} {vs : List Value} (E : RoadKit.Exa Z U.heap x ST) (V : RoadKit.Fld Z U.heap x ST "value" "[B" (.ref t)) (C : RoadKit.Fld Z U.heap x ST "coder" "B" (.int cd)) (K : RoadKit.Arv Z U.heap t kb .byte N2 vs (.int 0)) (hc : CodA cs cd N2 vs) (hb : ∀ c ∈ cs, ¬ c < 0 ∧ ¬ (65535 : Int32) < c) (l2 : cs.length ≤ 4000) :
    ∃ A, Txt x t A cd cs.length (fun j => cs.getD j 0) U := by
  obtain ⟨A, K1, K2, K3, K4, K5, K6⟩ := K
  have hcod := hc.cod (by omega) K3 K5
  obtain ⟨D, fV, fC, hB, F1, F2, g1, g2, -, -⟩ := strObj wi al E V C
  exact ⟨A, ⟨_, hB.2.2.1, D, hB.1, rfl, by cases q : D.vm <;> first | rfl | exact absurd q (hB.2.1.2 _)⟩, Has.of hB F1 g1, Has.of hB F2 g2, ⟨K1.1, State.isArrayOf_alike al K1.2.1, K1.2.2, by rcases hcod with ⟨-, q, -⟩ | ⟨-, q, -⟩ <;> omega⟩, hcod, fun j hj => by
    have e : cs.getD j 0 = cs[j] := by simp [List.getD_eq_getElem?_getD, hj]
    show ¬ cs.getD j 0 < 0 ∧ ¬ 65535 < cs.getD j 0
    rw [e]; exact hb _ (List.getElem_mem _)⟩
theorem same_list (cs ds : List Int32) : SameT cs.length (fun j => cs.getD j 0) ds.length (fun j => ds.getD j 0) ↔ cs = ds := by
  constructor
  · rintro ⟨e, q⟩
    refine List.ext_getElem e fun j h1 h2 => ?_
    have := q j h1
    simpa [List.getD_eq_getElem?_getD, h1, h2] using this
  · rintro rfl
    exact ⟨rfl, fun _ _ => rfl⟩
/-- **equals(Object) OF TWO SUCH STRINGS**: 1 just where the chars are the same -/
theorem eqW {p : Program} {l : Launch} {e : Env} {R : Room} {s : State} {args : Array Value} {below : List Frame} {len W : Nat} {Z : State} {a0 : Array Value} {h : Heap} (hZ : Z.Warmed39 s.vm) (hw : ∀ d ∈ wordsEq, d.before a0 Z = true) {kI : Nat} (wi : (Jvm.Cond.instantiable ST kI).before a0 Z = true)
    {x t : Addr} {kb : ClassId} {cs : List Int32} {cd N2 : Int32} {vs : List Value} (E : RoadKit.Exa Z h x ST) (V : RoadKit.Fld Z h x ST "value" "[B" (.ref t)) (C : RoadKit.Fld Z h x ST "coder" "B" (.int cd)) (K : RoadKit.Arv Z h t kb .byte N2 vs (.int 0)) (hc : CodA cs cd N2 vs) (hb : ∀ c ∈ cs, ¬ c < 0 ∧ ¬ (65535 : Int32) < c) (l2 : cs.length ≤ 4000)
    {y t' : Addr} {kb' : ClassId} {ds : List Int32} {cd' N2' : Int32} {vs' : List Value} (E' : RoadKit.Exa Z h y ST) (V' : RoadKit.Fld Z h y ST "value" "[B" (.ref t')) (C' : RoadKit.Fld Z h y ST "coder" "B" (.int cd')) (K' : RoadKit.Arv Z h t' kb' .byte N2' vs' (.int 0)) (hc' : CodA ds cd' N2' vs') (hb' : ∀ c ∈ ds, ¬ c < 0 ∧ ¬ (65535 : Int32) < c) (l2' : ds.length ≤ 4000)
    {z : Int32} (S : RoadKit.Sta Z h ST "COMPACT_STRINGS" "Z" (.int z)) (hz : ¬ z = 0) (hfr : 2 ≤ R.frames) (hlo : W + 28 ≤ R.locals) :
    Back l R p e below s args (⟨"java/lang/String", "equals", "(Ljava/lang/Object;)Z"⟩ : MethodName) len W (fun P a => a = #[.ref x, .ref y] ∧ P.U.heap = h ∧ P.cells + 0 ≤ R.cells ∧ P.slots + 0 ≤ R.slots)
      (fun P _ v B => ∃ L, (((v = some (.int 1) ∧ cs = ds) ∨ (v = some (.int 0) ∧ ¬ cs = ds)) ∧ L = [] ∧ B.U.heap = h) ∧ B.locs = P.locs ++ L ∧ B.cells = P.cells + 0 ∧ B.slots = P.slots + 0) := by
  intro m meth c P g ig mk a X hg hsize hdg hW hn hp'
  obtain ⟨rfl, rfl, r1, r2⟩ := hp'
  have al : Z.vm.Alike P.U.vm := hZ.alike.trans X.warmed.alike
  obtain ⟨A, hx⟩ := txt_of wi al E V C K hc hb l2
  obtain ⟨A', hy⟩ := txt_of wi al E' V' C' K' hc' hb' l2'
  obtain ⟨v, B, X', ⟨⟨w, hv, hh, hq⟩, hl, hk, hs⟩, st⟩ := SEq.pays x t A cd cs.length (fun j => cs.getD j 0) y t' A' cd' ds.length (fun j => ds.getD j 0) z (tabEq_of (movedEq hZ hw)) hfr hlo m meth c P g ig mk _ X hg hsize hdg hW hn ⟨r1, r2, rfl, hx, hy, sta_is al S, hz⟩
  refine ⟨v, B, X', ⟨[], ⟨?_, rfl, hh⟩, hl, hk, hs⟩, st⟩
  rcases hq with ⟨rfl, q⟩ | ⟨rfl, q⟩
  · exact Or.inl ⟨hv, (same_list cs ds).mp q⟩
  · exact Or.inr ⟨hv, fun e => q ((same_list cs ds).mpr e)⟩
end StrChars.Road
namespace StrChars.Road
open Jvm Sem ClassFile Op Lib Jvm.Stand Jvm.Free Jvm.Free.XT
open Jvm.Lib.Cold (StaticIs)
/-- what backV says of its String, as the contracts of this text ask it: cs's low bytes, coder 0 -/
theorem codOf {cs : List Int32} {n : Nat} (hn : cs.length = n) (hb : ∀ c ∈ cs, ¬ 255 < c) : CodA cs 0 (Int32.ofNat n) ((cs.map lo8).map Value.int) := Or.inl ⟨rfl, by rw [hn], by simp [List.map_map, Function.comp_def], hb⟩
end StrChars.Road
end Jvm.Pilot.@@N@@

namespace Jvm.Pilot.@@N@@
open Jvm Jvm.ClassFile Sem Op Lib Jvm.Free Jvm.Stand Jvm.LawKit Jvm.RoadKit Bundle Jvm.Pilot.@@N@@.Jvm.D
theorem own_mi {α : Type} {l : List α} {a : α} (i : Nat) (h : l[i]? = some a) : a ∈ l := List.mem_of_getElem? h
def own_Rn (p : Program) (e : Env) (below : List Frame) (P : Outcome → State → Prop) (S : State) : Prop := ∃ U o, Steps p.tables e below S U ∧ U.status = .running ∧ Ended U below o ∧ P o U
theorem own_go {p : Program} {e : Env} {below : List Frame} {P : Outcome → State → Prop} {S S' : State} (k : ∀ t, Steps p.tables e below S' t → Steps p.tables e below S t) (h : own_Rn p e below P S') : own_Rn p e below P S := by
  obtain ⟨U, o, h1, h2⟩ := h
  exact ⟨U, o, k U h1, h2⟩
theorem own_ret {p : Program} {l : Launch} {e : Env} {R : Room} {s : State} {m : MethodId} {args : Array Value} {below : List Frame} {meth : Method} {c : Code} {T : State} {locs : List Loc} {cells slots : Nat} (X : Stand p l e R s m args below meth c T locs cells slots)
    {v : Option Value} (hv : meth.sig.returnType = none → v = none) {S : State} {Q : Option Value → Heap → List Loc → Prop} {C N : Nat}
    (k : ∀ fs, (∀ (f : JFrame) (acts : List Action), f.method = m → f.locked = none → f.entered = [] → (doReturn e (T.setTop f) acts v).1 = T.setFrames fs) → Steps p.tables e below S (T.setFrames fs)) (hq : Q v T.heap locs) (hc : cells ≤ C) (hs : slots ≤ N)
    (hlocks : meth.locks = false := by first | assumption | exact BodyLoose.notSynchronized (by assumption) | exact Body.notSynchronized (by assumption)) :
    own_Rn p e below (fun o U' => ∃ v L, o = .returned v ∧ Q v U'.heap L ∧ FrameEnd s o U' L C N) S := by
  obtain ⟨fs, hr, hrun, hended, hW, hsame⟩ := X.leave hv hlocks
  exact ⟨_, _, k fs hr, hrun, hended, _, _, rfl, hq, ⟨_, rfl⟩, hW, hsame.mono hc hs⟩
theorem own_nea {a b : Addr} (h : @LT.lt Nat _ a b ∨ @LT.lt Nat _ b a) : a ≠ b := by
  intro e
  have e' : @Eq Nat a b := e
  omega
theorem own_fits_byte (x : Int32) : fits .byte (.int (nar .byte x)) = true := by
  have h := c_i2b x
  have h1 : (-128 : Int32) ≤ x.toInt8.toInt32 := by rw [Int32.le_iff_toInt_le]; exact h.2.1
  have h2 : x.toInt8.toInt32 ≤ (127 : Int32) := by rw [Int32.le_iff_toInt_le]; exact Int.le_of_lt_add_one h.2.2
  simp only [fits, Bool.and_eq_true]
  exact ⟨decide_eq_true h1, decide_eq_true h2⟩
theorem own_fitsB (x : Int32) : fits .byte (.int x.toInt8.toInt32) = true := own_fits_byte x
theorem own_retS {p : Program} {l : Launch} {e : Env} {R : Room} {s : State} {m : MethodId} {args : Array Value} {below : List Frame} {meth : Method} {c : Code} {T : State} {locs : List Loc} {cells slots : Nat} {vm₁ : Vm} (X : Stand p l e R (s.setVm vm₁) m args below meth c T locs cells slots) {n : Nat} (hS : s.Since vm₁ n) (hn : n ≤ T.heap.size)
    {v : Option Value} (hv : meth.sig.returnType = none → v = none) {S : State} {Z : State} {EL : List (String × Nat)} {Q : Option Value → Heap → List Loc → Prop} {C N : Nat}
    (k : ∀ fs, (∀ (f : JFrame) (acts : List Action), f.method = m → f.locked = none → f.entered = [] → (doReturn e (T.setTop f) acts v).1 = T.setFrames fs) → Steps p.tables e below S (T.setFrames fs)) (hq : Q v T.heap locs) (hR : CHr Z EL s.vm s.heap T.vm T.heap) (hc : cells ≤ C) (hs : slots ≤ N)
    (hlocks : meth.locks = false := by first | assumption | exact BodyLoose.notSynchronized (by assumption) | exact Body.notSynchronized (by assumption)) :
    own_Rn p e below (fun o U' => ∃ v L, o = .returned v ∧ Q v U'.heap L ∧ CHr Z EL s.vm s.heap U'.vm U'.heap ∧ ReturnedEndW s o U' L C N) S := by
  obtain ⟨fs, hr, hrun, hended, h1, h2, h3, h4⟩ := X.leaveW hS hn hv hlocks
  exact ⟨_, _, k fs hr, hrun, hended, _, _, rfl, hq, hR, h1, h2, h3, h4.mono hc hs⟩
theorem own_safeAt {Z : State} {EL : List (String × Nat)} {vm vm1 : Vm} {h : Heap} {x : Addr} (A : CHr Z EL vm h vm1 h) (S : Safe Z EL vm h x) : Safe Z EL vm1 h x := by
  rcases Nat.lt_or_ge x h.size with hx | hx
  · exact A.safe hx S
  · exact Safe.new hx
theorem own_backSH {p : Program} {l : Launch} {e : Env} {R : Room} {s : State} {args : Array Value} {below : List Frame} {Z : State} {a0 : Array Value} {EL : List (String × Nat)} {h : Heap} {vm0 : Vm} {sf : List Addr}
    {y : MethodName} {bytes : ByteArray} {maxL : Nat} {ret : Option FieldType} {rm : Room} {len W : Nat} {as' : Array Value} {Q : Option Value → Heap → List Loc → Prop}
    (hM : MetFree l y (head1 [Cond.code y bytes maxL ret] rm) (fun a U => a = as' ∧ Z.Warmed39 U.vm ∧ U.heap = h ∧ CHv Z EL U.vm h ∧ ∀ x ∈ sf, Safe Z EL U.vm h x) (fun _ _ _ _ _ => True) (fun _ U o U' => ∃ v L, o = .returned v ∧ Q v U'.heap L ∧ CHr Z EL U.vm U.heap U'.vm U'.heap ∧ ReturnedEndW U o U' L rm.cells rm.slots))
    (hZ : Z.Warmed39 vm0) (wc : (Cond.code y bytes maxL ret).before a0 Z = true) (wz : (Cond.initialized y.cls).before a0 Z = true) (hf : rm.frames + 1 ≤ R.frames) (hl : W + (maxL + 11) + rm.locals ≤ R.locals) (hEL : EW Z a0 EL) (H : CHv Z EL vm0 h) (hsf : ∀ x ∈ sf, Safe Z EL vm0 h x) :
    BackS l R p e below (s.setVm vm0) args y len W (fun A a => a = as' ∧ A.U.heap = h ∧ A.cells + rm.cells ≤ R.cells ∧ A.slots + rm.slots ≤ R.slots)
      (fun A _ v B => ∃ L, Q v B.U.heap L ∧ B.locs = A.locs ++ L ∧ B.cells = A.cells + rm.cells ∧ B.slots = A.slots + rm.slots ∧ CHr Z EL vm0 h B.U.vm B.U.heap) :=
  BackS.of_freeW (bytes := bytes) (maxL := maxL) (ret := ret) (E := fun _ first o t L k n => k = rm.cells ∧ n = rm.slots ∧ (∃ v, o = .returned v ∧ Q v t.heap L) ∧ CHr Z EL first.vm first.heap t.vm t.heap) hM hf hl
    (fun m meth c A a Y hp => have hU : Z.Warmed39 A.U.vm := wtrans (s := s.setVm vm0) hZ Y.warmed
      ⟨by show (Cond.and _ .tt).before a A.U = true; rw [Cond.before_and, mv hU wc]; rfl, mv hU wc, mv hU wz, hp.2.2.1, hp.2.2.2⟩)
    (fun m meth c A a g mk Y hp => ⟨hp.1, wtrans (s := s.setVm vm0) hZ Y.warmed, hp.2.1, (CHv.at Y hZ hEL H).1, fun x hx => show Safe Z EL A.U.vm h x from own_safeAt (CHv.at Y hZ hEL H) (hsf x hx)⟩) (fun _ _ _ _ _ _ _ _ _ => trivial)
    (fun _ _ _ _ ⟨v, L, h1, h2, h3, h4⟩ => ⟨L, _, _, h4, rfl, rfl, ⟨v, h1, h2⟩, h3⟩)
    (fun m meth c A a g mk v t L k n Y hp _ _ ⟨e1, e2, ⟨v', e3, e4⟩, e5⟩ => by
      cases e3; subst e1 e2
      refine ⟨L, e4, rfl, rfl, rfl, (CHv.at Y hZ hEL H).trans ?_⟩
      rw [← hp.2.1]; exact e5)
section OwnSteps
variable {p : Program} {l : Launch} {e : Env} {R : Room} {s : State} {m : MethodId} {args : Array Value} {below : List Frame} {meth : Method} {c : Code} {T : State} {locs : List Loc} {cells slots : Nat} {P : Outcome → State → Prop} {pc : Nat} {L : Array Slot} {S : List Value}
theorem own_il (X : Stand p l e R s m args below meth c T locs cells slots) (hx : p.tables.exec = Jvm.exec) {k : Nat} {v : Int32} (pc' : Nat) (hd : decode c.code pc = .ok (.iload k, 2)) (hp : pc + 2 = pc') (hl : L[k]? = some (.val (.int v))) (h : own_Rn p e below P (T.setTop (mkF m pc' L (.int v :: S)))) : own_Rn p e below P (T.setTop (mkF m pc L S)) := by
  subst hp; exact own_go (fun t k => XS.iload X.here hx rfl hd hl k) h
theorem own_iln (X : Stand p l e R s m args below meth c T locs cells slots) (hx : p.tables.exec = Jvm.exec) {k : Fin 4} {v : Int32} (pc' : Nat) (hd : decode c.code pc = .ok (.iload_n k, 1)) (hp : pc + 1 = pc') (hl : L[k.val]? = some (.val (.int v))) (h : own_Rn p e below P (T.setTop (mkF m pc' L (.int v :: S)))) : own_Rn p e below P (T.setTop (mkF m pc L S)) := by
  subst hp; exact own_go (fun t k => XS.iloadN X.here hx rfl hd hl k) h
theorem own_al (X : Stand p l e R s m args below meth c T locs cells slots) (hx : p.tables.exec = Jvm.exec) {k : Nat} {v : Value} (pc' : Nat) (hd : decode c.code pc = .ok (.aload k, 2)) (hp : pc + 2 = pc') (hl : L[k]? = some (.val v)) (hv : v.isRef = true) (h : own_Rn p e below P (T.setTop (mkF m pc' L (v :: S)))) : own_Rn p e below P (T.setTop (mkF m pc L S)) := by
  subst hp; exact own_go (fun t k => XS.aload X.here hx rfl hd hl hv k) h
theorem own_aln (X : Stand p l e R s m args below meth c T locs cells slots) (hx : p.tables.exec = Jvm.exec) {k : Fin 4} {v : Value} (pc' : Nat) (hd : decode c.code pc = .ok (.aload_n k, 1)) (hp : pc + 1 = pc') (hl : L[k.val]? = some (.val v)) (hv : v.isRef = true) (h : own_Rn p e below P (T.setTop (mkF m pc' L (v :: S)))) : own_Rn p e below P (T.setTop (mkF m pc L S)) := by
  subst hp; exact own_go (fun t k => XS.aloadN X.here hx rfl hd hl hv k) h
theorem own_is (X : Stand p l e R s m args below meth c T locs cells slots) (hx : p.tables.exec = Jvm.exec) {k : Nat} {x : Int32} (L' : Array Slot) (pc' : Nat) (hd : decode c.code pc = .ok (.istore k, 2)) (hp : pc + 2 = pc') (hl : storeLocals L k (.int x) = some L') (h : own_Rn p e below P (T.setTop (mkF m pc' L' S))) : own_Rn p e below P (T.setTop (mkF m pc L (.int x :: S))) := by
  subst hp; exact own_go (fun t k => XS.istore X.here hx rfl hd rfl hl k) h
theorem own_isn (X : Stand p l e R s m args below meth c T locs cells slots) (hx : p.tables.exec = Jvm.exec) {k : Fin 4} {x : Int32} (L' : Array Slot) (pc' : Nat) (hd : decode c.code pc = .ok (.istore_n k, 1)) (hp : pc + 1 = pc') (hl : storeLocals L k.val (.int x) = some L') (h : own_Rn p e below P (T.setTop (mkF m pc' L' S))) : own_Rn p e below P (T.setTop (mkF m pc L (.int x :: S))) := by
  subst hp; exact own_go (fun t k => XS.istoreN X.here hx rfl hd rfl hl k) h
theorem own_as (X : Stand p l e R s m args below meth c T locs cells slots) (hx : p.tables.exec = Jvm.exec) {k : Nat} {x : Value} (L' : Array Slot) (pc' : Nat) (hd : decode c.code pc = .ok (.astore k, 2)) (hp : pc + 2 = pc') (hv : x.isRef = true) (hl : storeLocals L k x = some L') (h : own_Rn p e below P (T.setTop (mkF m pc' L' S))) : own_Rn p e below P (T.setTop (mkF m pc L (x :: S))) := by
  subst hp; exact own_go (fun t k => XS.astore X.here hx rfl hd rfl hv hl k) h
theorem own_asn (X : Stand p l e R s m args below meth c T locs cells slots) (hx : p.tables.exec = Jvm.exec) {k : Fin 4} {x : Value} (L' : Array Slot) (pc' : Nat) (hd : decode c.code pc = .ok (.astore_n k, 1)) (hp : pc + 1 = pc') (hv : x.isRef = true) (hl : storeLocals L k.val x = some L') (h : own_Rn p e below P (T.setTop (mkF m pc' L' S))) : own_Rn p e below P (T.setTop (mkF m pc L (x :: S))) := by
  subst hp; exact own_go (fun t k => XS.astoreN X.here hx rfl hd rfl hv hl k) h
theorem own_ic (X : Stand p l e R s m args below meth c T locs cells slots) (hx : p.tables.exec = Jvm.exec) {i : Int} (v : Int32) (pc' : Nat) (hd : decode c.code pc = .ok (.iconst i, 1)) (hp : pc + 1 = pc') (hv : Int32.ofInt i = v) (h : own_Rn p e below P (T.setTop (mkF m pc' L (.int v :: S)))) : own_Rn p e below P (T.setTop (mkF m pc L S)) := by
  subst hp hv; exact own_go (fun t k => XS.iconst X.here hx rfl hd k) h
theorem own_bp (X : Stand p l e R s m args below meth c T locs cells slots) (hx : p.tables.exec = Jvm.exec) {i : Int} (v : Int32) (pc' : Nat) (hd : decode c.code pc = .ok (.bipush i, 2)) (hp : pc + 2 = pc') (hv : (Int8.ofInt i).toInt32 = v) (h : own_Rn p e below P (T.setTop (mkF m pc' L (.int v :: S)))) : own_Rn p e below P (T.setTop (mkF m pc L S)) := by
  subst hp hv; exact own_go (fun t k => XS.bipush X.here hx rfl hd k) h
theorem own_sp (X : Stand p l e R s m args below meth c T locs cells slots) (hx : p.tables.exec = Jvm.exec) {i : Int} (v : Int32) (pc' : Nat) (hd : decode c.code pc = .ok (.sipush i, 3)) (hp : pc + 3 = pc') (hv : (Int16.ofInt i).toInt32 = v) (h : own_Rn p e below P (T.setTop (mkF m pc' L (.int v :: S)))) : own_Rn p e below P (T.setTop (mkF m pc L S)) := by
  subst hp hv; exact own_go (fun t k => XS.sipush X.here hx rfl hd k) h
theorem own_iadd (X : Stand p l e R s m args below meth c T locs cells slots) (hx : p.tables.exec = Jvm.exec) {x y : Int32} (pc' : Nat) (hd : decode c.code pc = .ok (.iadd, 1)) (hp : pc + 1 = pc')  (h : own_Rn p e below P (T.setTop (mkF m pc' L (.int (x + y) :: S)))) : own_Rn p e below P (T.setTop (mkF m pc L (.int y :: .int x :: S))) := by
  subst hp; exact own_go (fun t k => XS.iadd X.here hx rfl hd rfl k) h
theorem own_isub (X : Stand p l e R s m args below meth c T locs cells slots) (hx : p.tables.exec = Jvm.exec) {x y : Int32} (pc' : Nat) (hd : decode c.code pc = .ok (.isub, 1)) (hp : pc + 1 = pc')  (h : own_Rn p e below P (T.setTop (mkF m pc' L (.int (x - y) :: S)))) : own_Rn p e below P (T.setTop (mkF m pc L (.int y :: .int x :: S))) := by
  subst hp; exact own_go (fun t k => XS.isub X.here hx rfl hd rfl k) h
theorem own_imul (X : Stand p l e R s m args below meth c T locs cells slots) (hx : p.tables.exec = Jvm.exec) {x y : Int32} (pc' : Nat) (hd : decode c.code pc = .ok (.imul, 1)) (hp : pc + 1 = pc')  (h : own_Rn p e below P (T.setTop (mkF m pc' L (.int (x * y) :: S)))) : own_Rn p e below P (T.setTop (mkF m pc L (.int y :: .int x :: S))) := by
  subst hp; exact own_go (fun t k => XS.imul X.here hx rfl hd rfl k) h
theorem own_iand (X : Stand p l e R s m args below meth c T locs cells slots) (hx : p.tables.exec = Jvm.exec) {x y : Int32} (pc' : Nat) (hd : decode c.code pc = .ok (.iand, 1)) (hp : pc + 1 = pc')  (h : own_Rn p e below P (T.setTop (mkF m pc' L (.int (x &&& y) :: S)))) : own_Rn p e below P (T.setTop (mkF m pc L (.int y :: .int x :: S))) := by
  subst hp; exact own_go (fun t k => XS.iand X.here hx rfl hd rfl k) h
theorem own_ior (X : Stand p l e R s m args below meth c T locs cells slots) (hx : p.tables.exec = Jvm.exec) {x y : Int32} (pc' : Nat) (hd : decode c.code pc = .ok (.ior, 1)) (hp : pc + 1 = pc')  (h : own_Rn p e below P (T.setTop (mkF m pc' L (.int (x ||| y) :: S)))) : own_Rn p e below P (T.setTop (mkF m pc L (.int y :: .int x :: S))) := by
  subst hp; exact own_go (fun t k => XS.ior X.here hx rfl hd rfl k) h
theorem own_ixor (X : Stand p l e R s m args below meth c T locs cells slots) (hx : p.tables.exec = Jvm.exec) {x y : Int32} (pc' : Nat) (hd : decode c.code pc = .ok (.ixor, 1)) (hp : pc + 1 = pc')  (h : own_Rn p e below P (T.setTop (mkF m pc' L (.int (x ^^^ y) :: S)))) : own_Rn p e below P (T.setTop (mkF m pc L (.int y :: .int x :: S))) := by
  subst hp; exact own_go (fun t k => XS.ixor X.here hx rfl hd rfl k) h
theorem own_dp (X : Stand p l e R s m args below meth c T locs cells slots) (hx : p.tables.exec = Jvm.exec) {x : Value} (pc' : Nat) (hd : decode c.code pc = .ok (.dup, 1)) (hp : pc + 1 = pc') (hc : x.category = 1) (h : own_Rn p e below P (T.setTop (mkF m pc' L (x :: x :: S)))) : own_Rn p e below P (T.setTop (mkF m pc L (x :: S))) := by
  subst hp; exact own_go (fun t k => XS.dup X.here hx rfl hd rfl hc k) h
theorem own_ii (X : Stand p l e R s m args below meth c T locs cells slots) (hx : p.tables.exec = Jvm.exec) {k : Nat} {cst : Int} {x : Int32} (L' : Array Slot) (pc' : Nat) (hd : decode c.code pc = .ok (.iinc k cst, 3)) (hp : pc + 3 = pc') (hl : L[k]? = some (.val (.int x))) (hl' : storeLocals L k (.int (x + Int32.ofInt cst)) = some L') (h : own_Rn p e below P (T.setTop (mkF m pc' L' S))) : own_Rn p e below P (T.setTop (mkF m pc L S)) := by
  subst hp; exact own_go (fun t k => XS.iinc X.here hx rfl hd hl hl' k) h
theorem own_gt (X : Stand p l e R s m args below meth c T locs cells slots) (hx : p.tables.exec = Jvm.exec) {o : Int} (pc' : Nat) (hd : decode c.code pc = .ok (.goto o, 3)) (ho : 0 ≤ (pc : Int) + o) (hp : ((pc : Int) + o).toNat = pc') (h : own_Rn p e below P (T.setTop (mkF m pc' L S))) : own_Rn p e below P (T.setTop (mkF m pc L S)) := own_go (fun t k => XS.goto X.here hx rfl rfl hd ho hp k) h
theorem own_ifY (X : Stand p l e R s m args below meth c T locs cells slots) (hx : p.tables.exec = Jvm.exec) {cd : ClassFile.Cond} {x : Int32} {o : Int} (pc' : Nat) (hd : decode c.code pc = .ok (.ifCond cd o, 3)) (hc : ifCond.holds cd x = true) (ho : 0 ≤ (pc : Int) + o) (hp : ((pc : Int) + o).toNat = pc') (h : own_Rn p e below P (T.setTop (mkF m pc' L S))) : own_Rn p e below P (T.setTop (mkF m pc L (.int x :: S))) := own_go (fun t k => XS.ifYes X.here hx rfl rfl hd rfl hc ho hp k) h
theorem own_icY (X : Stand p l e R s m args below meth c T locs cells slots) (hx : p.tables.exec = Jvm.exec) {cd : ClassFile.Cond} {x y : Int32} {o : Int} (pc' : Nat) (hd : decode c.code pc = .ok (.if_icmp cd o, 3)) (hc : if_icmp.holds cd x y = true) (ho : 0 ≤ (pc : Int) + o) (hp : ((pc : Int) + o).toNat = pc') (h : own_Rn p e below P (T.setTop (mkF m pc' L S))) : own_Rn p e below P (T.setTop (mkF m pc L (.int y :: .int x :: S))) := own_go (fun t k => XS.icmpYes X.here hx rfl rfl hd rfl hc ho hp k) h
theorem own_ifN (X : Stand p l e R s m args below meth c T locs cells slots) (hx : p.tables.exec = Jvm.exec) {cd : ClassFile.Cond} {o : Int} {x : Int32} (pc' : Nat) (hd : decode c.code pc = .ok (.ifCond cd o, 3)) (hp : pc + 3 = pc') (hc : ifCond.holds cd x = false) (h : own_Rn p e below P (T.setTop (mkF m pc' L S))) : own_Rn p e below P (T.setTop (mkF m pc L (.int x :: S))) := by
  subst hp; exact own_go (fun t k => XS.ifNo X.here hx rfl hd rfl hc k) h
theorem own_icN (X : Stand p l e R s m args below meth c T locs cells slots) (hx : p.tables.exec = Jvm.exec) {cd : ClassFile.Cond} {o : Int} {x y : Int32} (pc' : Nat) (hd : decode c.code pc = .ok (.if_icmp cd o, 3)) (hp : pc + 3 = pc') (hc : if_icmp.holds cd x y = false) (h : own_Rn p e below P (T.setTop (mkF m pc' L S))) : own_Rn p e below P (T.setTop (mkF m pc L (.int y :: .int x :: S))) := by
  subst hp; exact own_go (fun t k => XS.icmpNo X.here hx rfl hd rfl hc k) h
theorem own_ishl (X : Stand p l e R s m args below meth c T locs cells slots) (hx : p.tables.exec = Jvm.exec) {x y : Int32} (pc' : Nat) (hd : decode c.code pc = .ok (.ishl, 1)) (hp : pc + 1 = pc')  (h : own_Rn p e below P (T.setTop (mkF m pc' L (.int (x <<< (y &&& 31)) :: S)))) : own_Rn p e below P (T.setTop (mkF m pc L (.int y :: .int x :: S))) := by
  subst hp; exact own_go (fun t k => XS.ishl X.here hx rfl hd rfl k) h
theorem own_ishr (X : Stand p l e R s m args below meth c T locs cells slots) (hx : p.tables.exec = Jvm.exec) {x y : Int32} (pc' : Nat) (hd : decode c.code pc = .ok (.ishr, 1)) (hp : pc + 1 = pc')  (h : own_Rn p e below P (T.setTop (mkF m pc' L (.int (x >>> (y &&& 31)) :: S)))) : own_Rn p e below P (T.setTop (mkF m pc L (.int y :: .int x :: S))) := by
  subst hp; exact own_go (fun t k => XS.ishr X.here hx rfl hd rfl k) h
theorem own_iushr (X : Stand p l e R s m args below meth c T locs cells slots) (hx : p.tables.exec = Jvm.exec) {x y : Int32} (pc' : Nat) (hd : decode c.code pc = .ok (.iushr, 1)) (hp : pc + 1 = pc')  (h : own_Rn p e below P (T.setTop (mkF m pc' L (.int ((x.toUInt32 >>> (y &&& 31).toUInt32).toInt32) :: S)))) : own_Rn p e below P (T.setTop (mkF m pc L (.int y :: .int x :: S))) := by
  subst hp; exact own_go (fun t k => XS.iushr X.here hx rfl hd rfl k) h
theorem own_i2b (X : Stand p l e R s m args below meth c T locs cells slots) (hx : p.tables.exec = Jvm.exec) {x : Int32} (pc' : Nat) (hd : decode c.code pc = .ok (.i2b, 1)) (hp : pc + 1 = pc')  (h : own_Rn p e below P (T.setTop (mkF m pc' L (.int (x.toInt8.toInt32) :: S)))) : own_Rn p e below P (T.setTop (mkF m pc L (.int x :: S))) := by
  subst hp; exact own_go (fun t k => XS.i2b X.here hx rfl hd rfl k) h
theorem own_i2c (X : Stand p l e R s m args below meth c T locs cells slots) (hx : p.tables.exec = Jvm.exec) {x : Int32} (pc' : Nat) (hd : decode c.code pc = .ok (.i2c, 1)) (hp : pc + 1 = pc')  (h : own_Rn p e below P (T.setTop (mkF m pc' L (.int (x.toUInt32.toUInt16.toUInt32.toInt32) :: S)))) : own_Rn p e below P (T.setTop (mkF m pc L (.int x :: S))) := by
  subst hp; exact own_go (fun t k => XS.i2c X.here hx rfl hd rfl k) h
theorem own_idiv (X : Stand p l e R s m args below meth c T locs cells slots) (hx : p.tables.exec = Jvm.exec) {x y : Int32} (pc' : Nat) (hd : decode c.code pc = .ok (.idiv, 1)) (hp : pc + 1 = pc') (hy : y ≠ 0) (h : own_Rn p e below P (T.setTop (mkF m pc' L (.int (x / y) :: S)))) : own_Rn p e below P (T.setTop (mkF m pc L (.int y :: .int x :: S))) := by
  subst hp; exact own_go (fun t k => XS.idiv X.here hx rfl hd rfl hy k) h
theorem own_bal (X : Stand p l e R s m args below meth c T locs cells slots) (hx : p.tables.exec = Jvm.exec) {Z : State} {hh : Heap} (hZ : Z.Warmed39 s.vm) (eT : T.heap = hh) {a : Addr} {kc : ClassId} {n j : Int32} {vs : List Value} {d : Value} (A : Arv Z hh a kc .byte n vs d) (v : Int32) (pc' : Nat) (hd : decode c.code pc = .ok (.baload, 1)) (hp : pc + 1 = pc') (inb : ¬ j < 0 ∧ j < n) (at' : vs.getD j.toNatClampNeg d = .int v) (h : own_Rn p e below P (T.setTop (mkF m pc' L (.int v :: S)))) : own_Rn p e below P (T.setTop (mkF m pc L (.int j :: .ref a :: S))) := by
  subst hp
  obtain ⟨cl, Ar, q, Sz, Nn, Hs, G⟩ := A
  have i' := inb_of (j := j) Sz inb
  exact own_go (fun t k => X.baloadBytes hx (j := j) (v := .int v) (by rw [eT]; exact Ar.1) (State.isArrayOf_alike hZ.alike Ar.2.1) Ar.2.2 i' (Hs.at i' at') (g := mkF m pc L (.int j :: .ref a :: S)) rfl rfl hd t k) h
theorem own_cal (X : Stand p l e R s m args below meth c T locs cells slots) (hx : p.tables.exec = Jvm.exec) {Z : State} {hh : Heap} (hZ : Z.Warmed39 s.vm) (eT : T.heap = hh) {a : Addr} {kc : ClassId} {n j : Int32} {vs : List Value} {d : Value} (A : Arv Z hh a kc .char n vs d) (v : Int32) (pc' : Nat) (hd : decode c.code pc = .ok (.caload, 1)) (hp : pc + 1 = pc') (inb : ¬ j < 0 ∧ j < n) (at' : vs.getD j.toNatClampNeg d = .int v) (h : own_Rn p e below P (T.setTop (mkF m pc' L (.int v :: S)))) : own_Rn p e below P (T.setTop (mkF m pc L (.int j :: .ref a :: S))) := by
  subst hp
  obtain ⟨cl, Ar, q, Sz, Nn, Hs, G⟩ := A
  have i' := inb_of (j := j) Sz inb
  exact own_go (fun t k => X.caload hx (j := j) (v := .int v) (by rw [eT]; exact Ar.1) (State.isArrayOf_alike hZ.alike Ar.2.1) Ar.2.2 i' (Hs.at i' at') (g := mkF m pc L (.int j :: .ref a :: S)) rfl rfl hd t k) h
theorem own_ial (X : Stand p l e R s m args below meth c T locs cells slots) (hx : p.tables.exec = Jvm.exec) {Z : State} {hh : Heap} (hZ : Z.Warmed39 s.vm) (eT : T.heap = hh) {a : Addr} {kc : ClassId} {n j : Int32} {vs : List Value} {d : Value} (A : Arv Z hh a kc .int n vs d) (v : Int32) (pc' : Nat) (hd : decode c.code pc = .ok (.iaload, 1)) (hp : pc + 1 = pc') (inb : ¬ j < 0 ∧ j < n) (at' : vs.getD j.toNatClampNeg d = .int v) (h : own_Rn p e below P (T.setTop (mkF m pc' L (.int v :: S)))) : own_Rn p e below P (T.setTop (mkF m pc L (.int j :: .ref a :: S))) := by
  subst hp
  obtain ⟨cl, Ar, q, Sz, Nn, Hs, G⟩ := A
  have i' := inb_of (j := j) Sz inb
  exact own_go (fun t k => X.iaload hx (j := j) (v := .int v) (by rw [eT]; exact Ar.1) (State.isArrayOf_alike hZ.alike Ar.2.1) Ar.2.2 i' (Hs.at i' at') (g := mkF m pc L (.int j :: .ref a :: S)) rfl rfl hd t k) h
theorem own_alen (X : Stand p l e R s m args below meth c T locs cells slots) (hx : p.tables.exec = Jvm.exec) {Z : State} {hh : Heap} (hZ : Z.Warmed39 s.vm) (eT : T.heap = hh) {a : Addr} {kc : ClassId} {n : Int32} {ty : FieldType} {vs : List Value} {d : Value} (A : Arv Z hh a kc ty n vs d) (pc' : Nat) (hd : decode c.code pc = .ok (.arraylength, 1)) (hp : pc + 1 = pc') (h : own_Rn p e below P (T.setTop (mkF m pc' L (.int n :: S)))) : own_Rn p e below P (T.setTop (mkF m pc L (.ref a :: S))) := by
  subst hp
  obtain ⟨cl, Ar, q, Sz, Nn, Hs, G⟩ := A
  rw [← len_of Sz Nn] at h
  exact own_go (fun t k => X.arraylength hx (cell := cl) (by rw [eT]; exact Ar.1) (State.isArrayOf_alike hZ.alike Ar.2.1) (g := mkF m pc L (.ref a :: S)) rfl rfl hd t k) h
theorem own_gF (X : Stand p l e R s m args below meth c T locs cells slots) (hx : p.tables.exec = Jvm.exec) {Z : State} {a0 : Array Value} {hh : Heap} (hZ : Z.Warmed39 s.vm) {own R0 O n d host : String} {index : Nat} (hown : s.vm.findClass own = some m.cls) (w : (Cond.fieldLink own index R0 n d).before a0 Z = true ∨ (Cond.fieldLinkNest own index R0 n d host).before a0 Z = true) (via : Via Z R0 O n d) (eT : T.heap = hh) {a : Addr} {v : Value} (F : Fld Z hh a O n d v) (pc' : Nat) (hd : decode c.code pc = .ok (.getfield index, 3)) (hp : pc + 3 = pc') (h : ∀ T', Stand p l e R s m args below meth c T' locs cells slots → T'.heap = hh → own_Rn p e below P (T'.setTop (mkF m pc' L (v :: S)))) : own_Rn p e below P (T.setTop (mkF m pc L (.ref a :: S))) := by
  subst hp
  obtain ⟨T', X', e', st⟩ := getF X hx hZ hown w via eT F (g := mkF m pc L (.ref a :: S)) rfl rfl hd
  exact own_go st (h T' X' e')
theorem own_gS (X : Stand p l e R s m args below meth c T locs cells slots) (hx : p.tables.exec = Jvm.exec) {Z : State} {a0 : Array Value} {hh : Heap} (hZ : Z.Warmed39 s.vm) {own R0 O n d host : String} {index : Nat} (hown : s.vm.findClass own = some m.cls) (w : (Cond.fieldLink own index R0 n d).before a0 Z = true ∨ (Cond.fieldLinkNest own index R0 n d host).before a0 Z = true) (via : Via Z R0 O n d) (eT : T.heap = hh) {v : Value} (F : Sta Z hh O n d v) (pc' : Nat) (hd : decode c.code pc = .ok (.getstatic index, 3)) (hp : pc + 3 = pc') (h : ∀ T', Stand p l e R s m args below meth c T' locs cells slots → T'.heap = hh → own_Rn p e below P (T'.setTop (mkF m pc' L (v :: S)))) : own_Rn p e below P (T.setTop (mkF m pc L S)) := by
  subst hp
  obtain ⟨T', X', e', st⟩ := getS2 X hx hZ hown w via eT F (g := mkF m pc L S) rfl hd
  exact own_go st (h T' X' e')
end OwnSteps
section OwnCalls
variable {p : Program} {l : Launch} {e : Env} {R : Room} {s : State} {m : MethodId} {args : Array Value} {below : List Frame} {meth : Method} {c : Code} {T : State} {locs : List Loc} {cells slots : Nat} {P : Outcome → State → Prop} {pc : Nat} {L : Array Slot} {S : List Value} {Z : State} {a0 : Array Value} {hh : Heap} {own : String} {index : Nat} {y z : MethodName} {bytes : ByteArray} {maxL : Nat} {ret : Option FieldType} {hands : List (Nat × Nat × Nat × Nat)} {rm : Room} {as' : Array Value} {Q : Option Value → Heap → List Loc → Prop}
theorem own_cS (X : Stand p l e R s m args below meth c T locs cells slots) (hx : p.tables.exec = Jvm.exec) (hZ : Z.Warmed39 s.vm) (hown : s.vm.findClass own = some m.cls) (w1 : (Cond.methodLink own index y).before a0 Z = true) (w2 : (Cond.static y).before a0 Z = true) (w3 : (Cond.initialized y.cls).before a0 Z = true) (w4 : (Cond.code y bytes maxL ret).before a0 Z = true) (hy : y.cls ≠ "java/lang/invoke/MethodHandle" ∧ y.cls ≠ "java/lang/invoke/VarHandle") (hM : MetFree l y (head1 [Cond.code y bytes maxL ret] rm) (fun a U => a = as' ∧ Z.Warmed39 U.vm ∧ U.heap = hh) (fun _ _ _ _ _ => True) (fun _ U o U' => ∃ v L, o = .returned v ∧ Q v U'.heap L ∧ FrameEnd U o U' L rm.cells rm.slots)) (eT : T.heap = hh) (argsL rest : List Value) (has : argsL.toArray = as') (hsz : L.size = c.maxLocals) (hlen : ∀ sig, parseMethodDescriptor y.desc = some sig → argsL.length = sig.parameters.length) (hst : S = argsL.reverse ++ rest) (W : Nat) (hW : (rest.map fun v => v.category).sum ≤ W) (hf : rm.frames + 1 ≤ R.frames) (hl : W + (maxL + 11) + rm.locals ≤ R.locals) (hc : cells + rm.cells ≤ R.cells) (hs : slots + rm.slots ≤ R.slots) (pc' : Nat) (hd : decode c.code pc = .ok (.invokestatic index, 3)) (hp : pc + 3 = pc') (C N : Nat) (hC : cells + rm.cells = C) (hN : slots + rm.slots = N)
    (h : ∀ v T' L', Stand p l e R s m args below meth c T' (locs ++ L') C N → Q v T'.heap L' → own_Rn p e below P (T'.setTop (mkF m pc' L (v.toList ++ rest)))) : own_Rn p e below P (T.setTop (mkF m pc L S)) := by
  subst hp hC hN has hst
  obtain ⟨v, _, ⟨T1, L1, k1, n1⟩, -, X1, ⟨Lc, hQ, q1, q2, q3⟩, st⟩ := Jvm.LawKit.callS X hx hown (mvT hZ w1) (mvT hZ w2) (mvT hZ w3) (mvT hZ w4) hy (backOf (W := W) hM hZ w4 w3 hf hl) (g := mkF m pc L (argsL.reverse ++ rest)) rfl hsz hlen rfl (by show 2 * 0 + _ ≤ W; rw [Nat.mul_zero, Nat.zero_add]; exact hW) hd (fun _ _ => ⟨rfl, eT, hc, hs⟩)
  dsimp only [Pt.U, Pt.locs, Pt.cells, Pt.slots] at X1 q1 q2 q3 st hQ
  subst q1 q2 q3
  exact own_go st (h v T1 Lc X1 hQ)
theorem own_cSW (X : Stand p l e R s m args below meth c T locs cells slots) (hx : p.tables.exec = Jvm.exec) (hZ : Z.Warmed39 s.vm) (hown : s.vm.findClass own = some m.cls) (w1 : (Cond.methodLink own index y).before a0 Z = true) (w2 : (Cond.static y).before a0 Z = true) (w3 : (Cond.initialized y.cls).before a0 Z = true) (w4 : (Cond.codeWith y bytes maxL ret hands).before a0 Z = true) (hy : y.cls ≠ "java/lang/invoke/MethodHandle" ∧ y.cls ≠ "java/lang/invoke/VarHandle") (hM : MetFree l y (head1 [Cond.codeWith y bytes maxL ret hands] rm) (fun a U => a = as' ∧ Z.Warmed39 U.vm ∧ U.heap = hh) (fun _ _ _ _ _ => True) (fun _ U o U' => ∃ v L, o = .returned v ∧ Q v U'.heap L ∧ FrameEnd U o U' L rm.cells rm.slots)) (eT : T.heap = hh) (argsL rest : List Value) (has : argsL.toArray = as') (hsz : L.size = c.maxLocals) (hlen : ∀ sig, parseMethodDescriptor y.desc = some sig → argsL.length = sig.parameters.length) (hst : S = argsL.reverse ++ rest) (W : Nat) (hW : (rest.map fun v => v.category).sum ≤ W) (hf : rm.frames + 1 ≤ R.frames) (hl : W + (maxL + 11) + rm.locals ≤ R.locals) (hc : cells + rm.cells ≤ R.cells) (hs : slots + rm.slots ≤ R.slots) (pc' : Nat) (hd : decode c.code pc = .ok (.invokestatic index, 3)) (hp : pc + 3 = pc') (C N : Nat) (hC : cells + rm.cells = C) (hN : slots + rm.slots = N)
    (h : ∀ v T' L', Stand p l e R s m args below meth c T' (locs ++ L') C N → Q v T'.heap L' → own_Rn p e below P (T'.setTop (mkF m pc' L (v.toList ++ rest)))) : own_Rn p e below P (T.setTop (mkF m pc L S)) := by
  subst hp hC hN has hst
  obtain ⟨v, _, ⟨T1, L1, k1, n1⟩, -, X1, ⟨Lc, hQ, q1, q2, q3⟩, st⟩ := Jvm.RoadKit.callSH X hx hown (mvT hZ w1) (mvT hZ w2) (mvT hZ w3) (mvT hZ w4) hy (backOfWith (W := W) hM hZ w4 w3 hf hl) (g := mkF m pc L (argsL.reverse ++ rest)) rfl hsz hlen rfl (by show 2 * 0 + _ ≤ W; rw [Nat.mul_zero, Nat.zero_add]; exact hW) hd (fun _ _ => ⟨rfl, eT, hc, hs⟩)
  dsimp only [Pt.U, Pt.locs, Pt.cells, Pt.slots] at X1 q1 q2 q3 st hQ
  subst q1 q2 q3
  exact own_go st (h v T1 Lc X1 hQ)
theorem own_cI (X : Stand p l e R s m args below meth c T locs cells slots) (hx : p.tables.exec = Jvm.exec) (hZ : Z.Warmed39 s.vm) (hy1 : y.name = "<init>") (hown : s.vm.findClass own = some m.cls) (w1 : (Cond.methodLink own index y).before a0 Z = true) (w2 : (Cond.instanceMethod y).before a0 Z = true) (w4 : (Cond.code y bytes maxL none).before a0 Z = true) (w3 : (Cond.initialized y.cls).before a0 Z = true) (hy : y.cls ≠ "java/lang/invoke/MethodHandle" ∧ y.cls ≠ "java/lang/invoke/VarHandle") (hM : MetFree l y (head1 [Cond.code y bytes maxL none] rm) (fun a U => a = as' ∧ Z.Warmed39 U.vm ∧ U.heap = hh) (fun _ _ _ _ _ => True) (fun _ U o U' => ∃ v L, o = .returned v ∧ Q v U'.heap L ∧ FrameEnd U o U' L rm.cells rm.slots)) {a : Addr} (eT : T.heap = hh) (argsL rest : List Value) (has : (.ref a :: argsL).toArray = as') (hsz : L.size = c.maxLocals) (hlen : ∀ sig, parseMethodDescriptor y.desc = some sig → argsL.length = sig.parameters.length) (hst : S = argsL.reverse ++ .ref a :: rest) (W : Nat) (hW : (rest.map fun v => v.category).sum ≤ W) (hf : rm.frames + 1 ≤ R.frames) (hl : W + (maxL + 11) + rm.locals ≤ R.locals) (hc : cells + rm.cells ≤ R.cells) (hs : slots + rm.slots ≤ R.slots) (pc' : Nat) (hd : decode c.code pc = .ok (.invokespecial index, 3)) (hp : pc + 3 = pc') (C N : Nat) (hC : cells + rm.cells = C) (hN : slots + rm.slots = N)
    (h : ∀ v T' L', Stand p l e R s m args below meth c T' (locs ++ L') C N → Q v T'.heap L' → own_Rn p e below P (T'.setTop (mkF m pc' L (v.toList ++ rest)))) : own_Rn p e below P (T.setTop (mkF m pc L S)) := by
  subst hp hC hN has hst
  obtain ⟨v, _, ⟨T1, L1, k1, n1⟩, -, X1, ⟨Lc, hQ, q1, q2, q3⟩, st⟩ := X.specialBack hx hy1 hown (mvT hZ w1) (mvT hZ w2) (mvT hZ w4) hy (backOf (W := W) hM hZ w4 w3 hf hl) (g := mkF m pc L (argsL.reverse ++ .ref a :: rest)) rfl hsz (Steps.refl _) (a := a) hlen rfl (by show 2 * 0 + _ ≤ W; rw [Nat.mul_zero, Nat.zero_add]; exact hW) hd (fun _ _ => ⟨rfl, eT, hc, hs⟩)
  dsimp only [Pt.U, Pt.locs, Pt.cells, Pt.slots] at X1 q1 q2 q3 st hQ
  subst q1 q2 q3
  exact own_go (fun t k => st.trans k) (h v T1 Lc X1 hQ)
theorem own_cV (X : Stand p l e R s m args below meth c T locs cells slots) (hx : p.tables.exec = Jvm.exec) (hZ : Z.Warmed39 s.vm) {CN : String} (hown : s.vm.findClass own = some m.cls) (w1 : (Cond.methodLink own index y).before a0 Z = true) (w2 : (Cond.declares y).before a0 Z = true) (hnf : NotFace s y) (w5 : (Cond.selects CN y z).before a0 Z = true) (w6 : (Cond.instanceMethod z).before a0 Z = true) (w4 : (Cond.code z bytes maxL ret).before a0 Z = true) (w3 : (Cond.initialized z.cls).before a0 Z = true) (hy : y.cls ≠ "java/lang/invoke/MethodHandle" ∧ y.cls ≠ "java/lang/invoke/VarHandle") (hM : MetFree l z (head1 [Cond.code z bytes maxL ret] rm) (fun a U => a = as' ∧ Z.Warmed39 U.vm ∧ U.heap = hh) (fun _ _ _ _ _ => True) (fun _ U o U' => ∃ v L, o = .returned v ∧ Q v U'.heap L ∧ FrameEnd U o U' L rm.cells rm.slots)) {a : Addr} (Ex : Exa Z hh a CN) (eT : T.heap = hh) (argsL rest : List Value) (has : (.ref a :: argsL).toArray = as') (hsz : L.size = c.maxLocals) (hlen : ∀ sig, parseMethodDescriptor y.desc = some sig → argsL.length = sig.parameters.length) (hst : S = argsL.reverse ++ .ref a :: rest) (W : Nat) (hW : (rest.map fun v => v.category).sum ≤ W) (hf : rm.frames + 1 ≤ R.frames) (hl : W + (maxL + 11) + rm.locals ≤ R.locals) (hc : cells + rm.cells ≤ R.cells) (hs : slots + rm.slots ≤ R.slots) (pc' : Nat) (hd : decode c.code pc = .ok (.invokevirtual index, 3)) (hp : pc + 3 = pc') (C N : Nat) (hC : cells + rm.cells = C) (hN : slots + rm.slots = N)
    (h : ∀ v T' L', Stand p l e R s m args below meth c T' (locs ++ L') C N → Q v T'.heap L' → own_Rn p e below P (T'.setTop (mkF m pc' L (v.toList ++ rest)))) : own_Rn p e below P (T.setTop (mkF m pc L S)) := by
  subst hp hC hN has hst
  obtain ⟨cB, kB, a1, a2, a3⟩ := isOf hZ eT Ex
  obtain ⟨v, _, ⟨T1, L1, k1, n1⟩, -, X1, ⟨Lc, hQ, q1, q2, q3⟩, st⟩ := X.virtualBack hx (y := y) (z := z) hown (mvT hZ w1) (mvT hZ w2) hnf (mvT hZ w5) (mvT hZ w6) hy (backOf (W := W) hM hZ w4 w3 hf hl) a1 a3 (g := mkF m pc L (argsL.reverse ++ .ref a :: rest)) rfl hsz (Steps.refl _) hlen rfl (by show 2 * 0 + _ ≤ W; rw [Nat.mul_zero, Nat.zero_add]; exact hW) hd (fun _ _ => ⟨rfl, eT, hc, hs⟩)
  dsimp only [Pt.U, Pt.locs, Pt.cells, Pt.slots] at X1 q1 q2 q3 st hQ
  subst q1 q2 q3
  exact own_go (fun t k => st.trans k) (h v T1 Lc X1 hQ)
theorem own_cVW (X : Stand p l e R s m args below meth c T locs cells slots) (hx : p.tables.exec = Jvm.exec) (hZ : Z.Warmed39 s.vm) {CN : String} (hown : s.vm.findClass own = some m.cls) (w1 : (Cond.methodLink own index y).before a0 Z = true) (w2 : (Cond.declares y).before a0 Z = true) (hnf : NotFace s y) (w5 : (Cond.selects CN y z).before a0 Z = true) (w6 : (Cond.instanceMethod z).before a0 Z = true) (w4 : (Cond.codeWith z bytes maxL ret hands).before a0 Z = true) (w3 : (Cond.initialized z.cls).before a0 Z = true) (hy : y.cls ≠ "java/lang/invoke/MethodHandle" ∧ y.cls ≠ "java/lang/invoke/VarHandle") (hM : MetFree l z (head1 [Cond.codeWith z bytes maxL ret hands] rm) (fun a U => a = as' ∧ Z.Warmed39 U.vm ∧ U.heap = hh) (fun _ _ _ _ _ => True) (fun _ U o U' => ∃ v L, o = .returned v ∧ Q v U'.heap L ∧ FrameEnd U o U' L rm.cells rm.slots)) {a : Addr} (Ex : Exa Z hh a CN) (eT : T.heap = hh) (argsL rest : List Value) (has : (.ref a :: argsL).toArray = as') (hsz : L.size = c.maxLocals) (hlen : ∀ sig, parseMethodDescriptor y.desc = some sig → argsL.length = sig.parameters.length) (hst : S = argsL.reverse ++ .ref a :: rest) (W : Nat) (hW : (rest.map fun v => v.category).sum ≤ W) (hf : rm.frames + 1 ≤ R.frames) (hl : W + (maxL + 11) + rm.locals ≤ R.locals) (hc : cells + rm.cells ≤ R.cells) (hs : slots + rm.slots ≤ R.slots) (pc' : Nat) (hd : decode c.code pc = .ok (.invokevirtual index, 3)) (hp : pc + 3 = pc') (C N : Nat) (hC : cells + rm.cells = C) (hN : slots + rm.slots = N)
    (h : ∀ v T' L', Stand p l e R s m args below meth c T' (locs ++ L') C N → Q v T'.heap L' → own_Rn p e below P (T'.setTop (mkF m pc' L (v.toList ++ rest)))) : own_Rn p e below P (T.setTop (mkF m pc L S)) := by
  subst hp hC hN has hst
  obtain ⟨cB, kB, a1, a2, a3⟩ := isOf hZ eT Ex
  obtain ⟨v, _, ⟨T1, L1, k1, n1⟩, -, X1, ⟨Lc, hQ, q1, q2, q3⟩, st⟩ := X.virtualBack hx (y := y) (z := z) hown (mvT hZ w1) (mvT hZ w2) hnf (mvT hZ w5) (mvT hZ w6) hy (backOfWith (W := W) hM hZ w4 w3 hf hl) a1 a3 (g := mkF m pc L (argsL.reverse ++ .ref a :: rest)) rfl hsz (Steps.refl _) hlen rfl (by show 2 * 0 + _ ≤ W; rw [Nat.mul_zero, Nat.zero_add]; exact hW) hd (fun _ _ => ⟨rfl, eT, hc, hs⟩)
  dsimp only [Pt.U, Pt.locs, Pt.cells, Pt.slots] at X1 q1 q2 q3 st hQ
  subst q1 q2 q3
  exact own_go (fun t k => st.trans k) (h v T1 Lc X1 hQ)
theorem own_cP (X : Stand p l e R s m args below meth c T locs cells slots) (hx : p.tables.exec = Jvm.exec) (hZ : Z.Warmed39 s.vm) {CN : String} (hown : s.vm.findClass own = some m.cls) (w1 : (Cond.methodLink own index y).before a0 Z = true) (w6 : (Cond.instanceMethod y).before a0 Z = true) (w5 : (Cond.selects y.cls y y).before a0 Z = true) (w7 : (Cond.privateMethod y).before a0 Z = true) (w4 : (Cond.code y bytes maxL ret).before a0 Z = true) (w3 : (Cond.initialized y.cls).before a0 Z = true) (hy : y.cls ≠ "java/lang/invoke/MethodHandle" ∧ y.cls ≠ "java/lang/invoke/VarHandle") (hM : MetFree l y (head1 [Cond.code y bytes maxL ret] rm) (fun a U => a = as' ∧ Z.Warmed39 U.vm ∧ U.heap = hh) (fun _ _ _ _ _ => True) (fun _ U o U' => ∃ v L, o = .returned v ∧ Q v U'.heap L ∧ FrameEnd U o U' L rm.cells rm.slots)) {a : Addr} (Ex : Exa Z hh a CN) (eT : T.heap = hh) (argsL rest : List Value) (has : (.ref a :: argsL).toArray = as') (hsz : L.size = c.maxLocals) (hlen : ∀ sig, parseMethodDescriptor y.desc = some sig → argsL.length = sig.parameters.length) (hst : S = argsL.reverse ++ .ref a :: rest) (W : Nat) (hW : (rest.map fun v => v.category).sum ≤ W) (hf : rm.frames + 1 ≤ R.frames) (hl : W + (maxL + 11) + rm.locals ≤ R.locals) (hc : cells + rm.cells ≤ R.cells) (hs : slots + rm.slots ≤ R.slots) (pc' : Nat) (hd : decode c.code pc = .ok (.invokevirtual index, 3)) (hp : pc + 3 = pc') (C N : Nat) (hC : cells + rm.cells = C) (hN : slots + rm.slots = N)
    (h : ∀ v T' L', Stand p l e R s m args below meth c T' (locs ++ L') C N → Q v T'.heap L' → own_Rn p e below P (T'.setTop (mkF m pc' L (v.toList ++ rest)))) : own_Rn p e below P (T.setTop (mkF m pc L S)) := by
  subst hp hC hN has hst
  obtain ⟨cq, a1, a2⟩ := Ex.cell
  obtain ⟨v, _, ⟨T1, L1, k1, n1⟩, -, X1, ⟨Lc, hQ, q1, q2, q3⟩, st⟩ := X.privateBack hx (y := y) hown (mvT hZ w1) (mvT hZ w6) (mvT hZ w5) (Cond.privateMethod_at (mvP hZ w7 (args := #[]))) (mvT hZ w4) hy (backOf (W := W) hM hZ w4 w3 hf hl) (g := mkF m pc L (argsL.reverse ++ .ref a :: rest)) rfl hsz (Steps.refl _) (a := a) (by rw [eT]; exact a1) a2 hlen rfl (by show 2 * 0 + _ ≤ W; rw [Nat.mul_zero, Nat.zero_add]; exact hW) hd (fun _ _ => ⟨rfl, eT, hc, hs⟩)
  dsimp only [Pt.U, Pt.locs, Pt.cells, Pt.slots] at X1 q1 q2 q3 st hQ
  subst q1 q2 q3
  exact own_go (fun t k => st.trans k) (h v T1 Lc X1 hQ)
end OwnCalls
section OwnCallsS
variable {p : Program} {l : Launch} {e : Env} {R : Room} {s : State} {m : MethodId} {args : Array Value} {below : List Frame} {meth : Method} {c : Code} {T : State} {locs : List Loc} {cells slots : Nat} {P : Outcome → State → Prop} {pc : Nat} {L : Array Slot} {S : List Value} {Z : State} {a0 : Array Value} {hh : Heap} {own : String} {index : Nat} {y z : MethodName} {bytes : ByteArray} {maxL : Nat} {ret : Option FieldType} {rm : Room} {as' : Array Value} {Q : Option Value → Heap → List Loc → Prop} {EL : List (String × Nat)} {vm0 : Vm} {sf : List Addr}
theorem own_sS (X : Stand p l e R (s.setVm vm0) m args below meth c T locs cells slots) (hx : p.tables.exec = Jvm.exec) (hZ : Z.Warmed39 vm0) (hown : vm0.findClass own = some m.cls) (w1 : (Cond.methodLink own index y).before a0 Z = true) (w2 : (Cond.static y).before a0 Z = true) (w3 : (Cond.initialized y.cls).before a0 Z = true) (w4 : (Cond.code y bytes maxL ret).before a0 Z = true) (hy : y.cls ≠ "java/lang/invoke/MethodHandle" ∧ y.cls ≠ "java/lang/invoke/VarHandle") (hM : MetFree l y (head1 [Cond.code y bytes maxL ret] rm) (fun a U => a = as' ∧ Z.Warmed39 U.vm ∧ U.heap = hh ∧ CHv Z EL U.vm hh ∧ ∀ x ∈ sf, Safe Z EL U.vm hh x) (fun _ _ _ _ _ => True) (fun _ U o U' => ∃ v L, o = .returned v ∧ Q v U'.heap L ∧ CHr Z EL U.vm U.heap U'.vm U'.heap ∧ ReturnedEndW U o U' L rm.cells rm.slots)) (hEL : EW Z a0 EL) (H : CHv Z EL vm0 hh) (hsf : ∀ x ∈ sf, Safe Z EL vm0 hh x) (eT : T.heap = hh) (argsL rest : List Value) (has : argsL.toArray = as') (hsz : L.size = c.maxLocals) (hlen : ∀ sig, parseMethodDescriptor y.desc = some sig → argsL.length = sig.parameters.length) (hst : S = argsL.reverse ++ rest) (W : Nat) (hW : (rest.map fun v => v.category).sum ≤ W) (hf : rm.frames + 1 ≤ R.frames) (hl : W + (maxL + 11) + rm.locals ≤ R.locals) (hc : cells + rm.cells ≤ R.cells) (hs : slots + rm.slots ≤ R.slots) (pc' : Nat) (hd : decode c.code pc = .ok (.invokestatic index, 3)) (hp : pc + 3 = pc') (C N : Nat) (hC : cells + rm.cells = C) (hN : slots + rm.slots = N)
    (h : ∀ v T' L', Stand p l e R ((s.setVm vm0).setVm T'.vm) m args below meth c T' (locs ++ L') C N → (s.setVm vm0).Since T'.vm T'.heap.size → T.heap.size ≤ T'.heap.size → Q v T'.heap L' → CHr Z EL vm0 hh T'.vm T'.heap → own_Rn p e below P (T'.setTop (mkF m pc' L (v.toList ++ rest)))) : own_Rn p e below P (T.setTop (mkF m pc L S)) := by
  subst hp hC hN has hst
  obtain ⟨v, _, ⟨T1, L1, k1, n1⟩, -, X1, hS1, hG1, ⟨Lc, hQ, q1, q2, q3, q4⟩, st⟩ := Jvm.RoadKit.callSS X hx hown (mvT (s := s.setVm vm0) hZ w1) (mvT (s := s.setVm vm0) hZ w2) (mvT (s := s.setVm vm0) hZ w3) (mvT (s := s.setVm vm0) hZ w4) hy (own_backSH (W := W) hM hZ w4 w3 hf hl hEL H hsf) (g := mkF m pc L (argsL.reverse ++ rest)) rfl hsz hlen rfl (by show 2 * 0 + _ ≤ W; rw [Nat.mul_zero, Nat.zero_add]; exact hW) hd (fun _ _ => ⟨rfl, eT, hc, hs⟩)
  dsimp only [Pt.U, Pt.locs, Pt.cells, Pt.slots] at X1 q1 q2 q3 q4 st hQ hS1 hG1
  subst q1 q2 q3
  exact own_go (fun t k => st.trans k) (h v T1 Lc X1 hS1 hG1 hQ q4)
theorem own_sI (X : Stand p l e R (s.setVm vm0) m args below meth c T locs cells slots) (hx : p.tables.exec = Jvm.exec) (hZ : Z.Warmed39 vm0) (hy1 : y.name = "<init>") (hown : vm0.findClass own = some m.cls) (w1 : (Cond.methodLink own index y).before a0 Z = true) (w2 : (Cond.instanceMethod y).before a0 Z = true) (w4 : (Cond.code y bytes maxL none).before a0 Z = true) (w3 : (Cond.initialized y.cls).before a0 Z = true) (hy : y.cls ≠ "java/lang/invoke/MethodHandle" ∧ y.cls ≠ "java/lang/invoke/VarHandle") (hM : MetFree l y (head1 [Cond.code y bytes maxL none] rm) (fun a U => a = as' ∧ Z.Warmed39 U.vm ∧ U.heap = hh ∧ CHv Z EL U.vm hh ∧ ∀ x ∈ sf, Safe Z EL U.vm hh x) (fun _ _ _ _ _ => True) (fun _ U o U' => ∃ v L, o = .returned v ∧ Q v U'.heap L ∧ CHr Z EL U.vm U.heap U'.vm U'.heap ∧ ReturnedEndW U o U' L rm.cells rm.slots)) (hEL : EW Z a0 EL) (H : CHv Z EL vm0 hh) (hsf : ∀ x ∈ sf, Safe Z EL vm0 hh x) {a : Addr} (eT : T.heap = hh) (argsL rest : List Value) (has : (.ref a :: argsL).toArray = as') (hsz : L.size = c.maxLocals) (hlen : ∀ sig, parseMethodDescriptor y.desc = some sig → argsL.length = sig.parameters.length) (hst : S = argsL.reverse ++ .ref a :: rest) (W : Nat) (hW : (rest.map fun v => v.category).sum ≤ W) (hf : rm.frames + 1 ≤ R.frames) (hl : W + (maxL + 11) + rm.locals ≤ R.locals) (hc : cells + rm.cells ≤ R.cells) (hs : slots + rm.slots ≤ R.slots) (pc' : Nat) (hd : decode c.code pc = .ok (.invokespecial index, 3)) (hp : pc + 3 = pc') (C N : Nat) (hC : cells + rm.cells = C) (hN : slots + rm.slots = N)
    (h : ∀ v T' L', Stand p l e R ((s.setVm vm0).setVm T'.vm) m args below meth c T' (locs ++ L') C N → (s.setVm vm0).Since T'.vm T'.heap.size → T.heap.size ≤ T'.heap.size → Q v T'.heap L' → CHr Z EL vm0 hh T'.vm T'.heap → own_Rn p e below P (T'.setTop (mkF m pc' L (v.toList ++ rest)))) : own_Rn p e below P (T.setTop (mkF m pc L S)) := by
  subst hp hC hN has hst
  obtain ⟨v, _, ⟨T1, L1, k1, n1⟩, -, X1, hS1, hG1, ⟨Lc, hQ, q1, q2, q3, q4⟩, st⟩ := X.specialBackS hx hy1 hown (mvT (s := s.setVm vm0) hZ w1) (mvT (s := s.setVm vm0) hZ w2) (mvT (s := s.setVm vm0) hZ w4) hy (own_backSH (W := W) hM hZ w4 w3 hf hl hEL H hsf) (g := mkF m pc L (argsL.reverse ++ .ref a :: rest)) rfl hsz (Steps.refl _) (a := a) hlen rfl (by show 2 * 0 + _ ≤ W; rw [Nat.mul_zero, Nat.zero_add]; exact hW) hd (fun _ _ => ⟨rfl, eT, hc, hs⟩)
  dsimp only [Pt.U, Pt.locs, Pt.cells, Pt.slots] at X1 q1 q2 q3 q4 st hQ hS1 hG1
  subst q1 q2 q3
  exact own_go (fun t k => st.trans k) (h v T1 Lc X1 hS1 hG1 hQ q4)
theorem own_sV (X : Stand p l e R (s.setVm vm0) m args below meth c T locs cells slots) (hx : p.tables.exec = Jvm.exec) (hZ : Z.Warmed39 vm0) {CN : String} (hown : vm0.findClass own = some m.cls) (w1 : (Cond.methodLink own index y).before a0 Z = true) (w2 : (Cond.declares y).before a0 Z = true) (hnf : NotFace (s.setVm vm0) y) (w5 : (Cond.selects CN y z).before a0 Z = true) (w6 : (Cond.instanceMethod z).before a0 Z = true) (w4 : (Cond.code z bytes maxL ret).before a0 Z = true) (w3 : (Cond.initialized z.cls).before a0 Z = true) (hy : y.cls ≠ "java/lang/invoke/MethodHandle" ∧ y.cls ≠ "java/lang/invoke/VarHandle") (hM : MetFree l z (head1 [Cond.code z bytes maxL ret] rm) (fun a U => a = as' ∧ Z.Warmed39 U.vm ∧ U.heap = hh ∧ CHv Z EL U.vm hh ∧ ∀ x ∈ sf, Safe Z EL U.vm hh x) (fun _ _ _ _ _ => True) (fun _ U o U' => ∃ v L, o = .returned v ∧ Q v U'.heap L ∧ CHr Z EL U.vm U.heap U'.vm U'.heap ∧ ReturnedEndW U o U' L rm.cells rm.slots)) (hEL : EW Z a0 EL) (H : CHv Z EL vm0 hh) (hsf : ∀ x ∈ sf, Safe Z EL vm0 hh x) {a : Addr} (Ex : Exa Z hh a CN) (eT : T.heap = hh) (argsL rest : List Value) (has : (.ref a :: argsL).toArray = as') (hsz : L.size = c.maxLocals) (hlen : ∀ sig, parseMethodDescriptor y.desc = some sig → argsL.length = sig.parameters.length) (hst : S = argsL.reverse ++ .ref a :: rest) (W : Nat) (hW : (rest.map fun v => v.category).sum ≤ W) (hf : rm.frames + 1 ≤ R.frames) (hl : W + (maxL + 11) + rm.locals ≤ R.locals) (hc : cells + rm.cells ≤ R.cells) (hs : slots + rm.slots ≤ R.slots) (pc' : Nat) (hd : decode c.code pc = .ok (.invokevirtual index, 3)) (hp : pc + 3 = pc') (C N : Nat) (hC : cells + rm.cells = C) (hN : slots + rm.slots = N)
    (h : ∀ v T' L', Stand p l e R ((s.setVm vm0).setVm T'.vm) m args below meth c T' (locs ++ L') C N → (s.setVm vm0).Since T'.vm T'.heap.size → T.heap.size ≤ T'.heap.size → Q v T'.heap L' → CHr Z EL vm0 hh T'.vm T'.heap → own_Rn p e below P (T'.setTop (mkF m pc' L (v.toList ++ rest)))) : own_Rn p e below P (T.setTop (mkF m pc L S)) := by
  subst hp hC hN has hst
  obtain ⟨cB, kB, a1, a2, a3⟩ := isOf (s := s.setVm vm0) hZ eT Ex
  obtain ⟨v, _, ⟨T1, L1, k1, n1⟩, -, X1, hS1, hG1, ⟨Lc, hQ, q1, q2, q3, q4⟩, st⟩ := X.virtualBackS hx (y := y) (z := z) hown (mvT (s := s.setVm vm0) hZ w1) (mvT (s := s.setVm vm0) hZ w2) hnf (mvT (s := s.setVm vm0) hZ w5) (mvT (s := s.setVm vm0) hZ w6) hy (own_backSH (W := W) hM hZ w4 w3 hf hl hEL H hsf) a1 a3 (g := mkF m pc L (argsL.reverse ++ .ref a :: rest)) rfl hsz (Steps.refl _) hlen rfl (by show 2 * 0 + _ ≤ W; rw [Nat.mul_zero, Nat.zero_add]; exact hW) hd (fun _ _ => ⟨rfl, eT, hc, hs⟩)
  dsimp only [Pt.U, Pt.locs, Pt.cells, Pt.slots] at X1 q1 q2 q3 q4 st hQ hS1 hG1
  subst q1 q2 q3
  exact own_go (fun t k => st.trans k) (h v T1 Lc X1 hS1 hG1 hQ q4)
end OwnCallsS
theorem own_and255 (x : Int32) : ¬ (x &&& (255 : Int32)) < 0 ∧ ¬ (255 : Int32) < (x &&& (255 : Int32)) := by
  have h := c_and x 255 (by decide)
  have e2 : (255 : Int32).toInt = 255 := rfl
  rw [Int32.lt_iff_toInt_lt, Int32.lt_iff_toInt_lt]
  have e0 : (0 : Int32).toInt = 0 := rfl
  omega
theorem own_c16 (r : Int32) (h : ¬ r < 0 ∧ ¬ (65535 : Int32) < r) : r.toUInt32.toUInt16.toUInt32.toInt32 = r := by
  have h1 := c_i2c r
  rw [Int32.lt_iff_toInt_lt, Int32.lt_iff_toInt_lt] at h
  have e2 : (65535 : Int32).toInt = 65535 := rfl
  have e0 : (0 : Int32).toInt = 0 := rfl
  apply Int32.toInt_inj.mp
  omega
theorem own_up (r : Int32) (h : ¬ r < 0 ∧ ¬ (255 : Int32) < r) : ¬ r < 0 ∧ ¬ (65535 : Int32) < r := by
  rw [Int32.lt_iff_toInt_lt, Int32.lt_iff_toInt_lt] at *
  have e2 : (65535 : Int32).toInt = 65535 := rfl
  have e3 : (255 : Int32).toInt = 255 := rfl
  have e0 : (0 : Int32).toInt = 0 := rfl
  omega
theorem own_narC (r : Int32) (h : ¬ r < 0 ∧ ¬ (255 : Int32) < r) : nar .char r = r := own_c16 r (own_up r h)
theorem own_chr (x : Int32) : ((x &&& (255 : Int32)).toUInt32.toUInt16.toUInt32.toInt32) = x &&& 255 := own_c16 _ (own_up _ (own_and255 x))
theorem own_chr_rng (x : Int32) : ¬ ((x &&& (255 : Int32)).toUInt32.toUInt16.toUInt32.toInt32) < 0 ∧ ¬ (255 : Int32) < ((x &&& (255 : Int32)).toUInt32.toUInt16.toUInt32.toInt32) := by rw [own_chr]; exact own_and255 x
theorem own_narB (x : Int32) : nar .byte (x.toInt8.toInt32) = x.toInt8.toInt32 := by
  show (x.toInt8.toInt32).toInt8.toInt32 = x.toInt8.toInt32
  rw [Int8.toInt8_toInt32]
theorem own_shr0 (x : Int32) : x >>> ((0 : Int32) &&& 31) = x := by
  apply Int32.toInt_inj.mp
  rw [c_ishr x 0 0 rfl]; simp
theorem own_shl0 (x : Int32) : x <<< ((0 : Int32) &&& 31) = x := by
  show x <<< (0 : Int32) = x
  simp
abbrev own_bs (cs : List Int32) : List Value := (cs.map (fun c => c.toInt8.toInt32)).map Value.int
theorem own_bs_len (cs : List Int32) : (own_bs cs).length = cs.length := by simp [own_bs]
theorem own_bs_app (cs ds : List Int32) : own_bs (cs ++ ds) = own_bs cs ++ own_bs ds := by simp [own_bs]
theorem own_range_getD (vs : List Value) (d : Value) : (List.range vs.length).map (fun i => vs.getD (0 + i) d) = vs := by
  apply List.ext_getElem
  · simp
  · intro i h1 h2
    simp [List.getD_eq_getElem?_getD, h2]
theorem own_clampN {n : Nat} (h : n < 2147483648) : (Int32.ofNat n).toNatClampNeg = n := Int32.toNatClampNeg_ofNat_of_lt h
theorem own_nneg {n : Nat} (h : n < 2147483648) : ¬ Int32.ofNat n < 0 := by
  rw [Int32.lt_iff_toInt_lt, Int32.toInt_ofNat_small (by omega)]
  have e0 : (0 : Int32).toInt = 0 := rfl
  omega
theorem own_ofNat_add (a b : Nat) : Int32.ofNat (a + b) = Int32.ofNat a + Int32.ofNat b := Int32.ofNat_add a b
theorem own_le15 {n : Nat} (h : n ≤ 15) : ¬ (0 : Int32) < Int32.ofNat n - 16 := by
  have c := c_isub (Int32.ofNat n) 16
  rw [Int32.toInt_ofNat_small (by omega), show (16 : Int32).toInt = 16 from rfl] at c
  have r := rng32 (Int32.ofNat n - 16)
  rw [Int32.lt_iff_toInt_lt, show (0 : Int32).toInt = 0 from rfl]
  omega
theorem own_lt16 {n : Nat} (h : n ≤ 15) : Int32.ofNat n < (16 : Int32) := by
  rw [Int32.lt_iff_toInt_lt, Int32.toInt_ofNat_small (by omega), show (16 : Int32).toInt = 16 from rfl]; omega
theorem own_ne16 {n : Nat} (h : n ≤ 15) : ¬ Int32.ofNat n = (16 : Int32) := by
  intro e
  have := congrArg Int32.toInt e
  rw [Int32.toInt_ofNat_small (by omega), show (16 : Int32).toInt = 16 from rfl] at this
  omega
theorem own_us (ds : List Int32) (h : ds.length < 2147483648) : own_bs ds = (List.range (Int32.ofNat ds.length).toNatClampNeg).map fun i => (own_bs ds).getD ((0 : Int32).toNatClampNeg + i) (.int 0) := by
  rw [own_clampN h]
  have e : (0 : Int32).toNatClampNeg = 0 := rfl
  rw [e, ← own_bs_len ds, own_range_getD]
theorem own_cat {Z : State} {h : Heap} {b : Addr} {k : ClassId} {z : Int32} {cs ds es : List Int32} {dp nn : Int32} {m : Nat} (hes : es = cs ++ ds) (h16 : cs.length < 2147483648 ∧ ds.length < 2147483648) (hm : ds.length ≤ m) (hd : dp = Int32.ofNat cs.length) (hn : nn = Int32.ofNat ds.length)
    (F : Arv Z h b k .byte z ((own_bs cs ++ List.replicate m (Value.int 0)).take dp.toNatClampNeg ++ own_bs ds ++ (own_bs cs ++ List.replicate m (Value.int 0)).drop (dp.toNatClampNeg + nn.toNatClampNeg)) (.int 0)) : Arv Z h b k .byte z (own_bs es) (.int 0) := by
  subst hd hn
  rw [own_clampN h16.1, own_clampN h16.2] at F
  have e1 : (own_bs cs ++ List.replicate m (Value.int 0)).take cs.length = own_bs cs := by
    rw [← own_bs_len cs, List.take_left]
  have e2 : (own_bs cs ++ List.replicate m (Value.int 0)).drop (cs.length + ds.length) = List.replicate (m - ds.length) (.int 0) := by
    rw [← own_bs_len cs, List.drop_append, List.drop_replicate]
    simp
  rw [e1, e2, ← own_bs_app, ← hes] at F
  exact F.pad (fun i => (pad_rep (own_bs es) (.int 0) (m - ds.length) i).symm)
theorem own_notI {Z : State} {a0 : Array Value} {C : String} {x z : MethodName} (w : (Cond.selects C x z).before a0 Z = true) : ∃ c k, Z.vm.findClass z.cls = some c ∧ Z.vm.classes[c]? = some k ∧ k.isInterface = false := by
  obtain ⟨c, r, m, -, -, h3, -, k, h5, h6⟩ := Cond.selects_spec w
  exact ⟨m.cls, k, findClass_of_methodNamed h3, h5, h6⟩
theorem own_sameM {Z : State} {a0 : Array Value} {C : String} {x y z : MethodName} (w1 : (Cond.instanceMethod y).before a0 Z = true) (w : (Cond.selects C x z).before a0 Z = true) (e : z.cls = y.cls) (hy : y.cls ≠ "java/lang/invoke/MethodHandle" ∧ y.cls ≠ "java/lang/invoke/VarHandle") : (Cond.sameMethod y.cls y.cls y.name y.desc).before a0 Z = true := by
  obtain ⟨c, k, h1, h2, h3⟩ := own_notI w
  rw [e] at h1
  obtain ⟨mk, methM, hnamed, hmethM, -, -⟩ := Cond.instanceMethod_spec w1
  have hfound : Z.methodFound? y.cls y.name y.desc = some mk := State.methodFound?_of_named hnamed hy
  simp only [Cond.before, Cond.holds, Cond.value, h1, hfound, hnamed, h2]
  simp [h3]
theorem own_nf {s : State} {a0 : Array Value} {C : String} {x y z : MethodName} (w : (Cond.selects C x z).before a0 s = true) (e : z.cls = y.cls) : NotFace s y := by
  obtain ⟨c, k, h1, h2, h3⟩ := own_notI w
  intro r0 hr
  have := findClass_of_methodNamed hr
  rw [← e, h1] at this
  cases this
  exact ⟨k, h2, h3⟩
theorem own_selP {Z : State} {a0 : Array Value} {C : String} {y : MethodName} (w : (Cond.selects C y y).before a0 Z = true) (wp : (Cond.privateMethod y).before a0 Z = true) (wi : (Cond.instanceMethod y).before a0 Z = true) (hy : y.cls ≠ "java/lang/invoke/MethodHandle" ∧ y.cls ≠ "java/lang/invoke/VarHandle") : (Cond.selects y.cls y y).before a0 Z = true := by
  obtain ⟨c, k, h1, h2, h3⟩ := own_notI w
  exact Jvm.Stand.selects_self_of_private h1 h2 h3 (Cond.privateMethod_at wp) wi hy

theorem own_ef_rmCoder (m : MethodId) (x : Addr) (G1 : Int32) : entryFrame m #[(.ref x)] 1 = mkF m 0 #[.val (.ref x)] [] := by first | (simp [entryFrame, mkF, argsToLocals, Value.category]; done) | rfl
theorem own_pn_java_lang_String : plainName "java/lang/String" = true := by first | (simp [plainName, overriddenIn]; done) | decide +kernel
theorem own_d23_0 : decode jdk_42_method_152_code 0 = .ok (.getstatic 38, 3) := by decide +kernel
theorem own_d23_3 : decode jdk_42_method_152_code 3 = .ok (.ifCond .eq 10, 3) := by decide +kernel
theorem own_d23_6 : decode jdk_42_method_152_code 6 = .ok (.aload_n 0, 1) := by decide +kernel
theorem own_d23_7 : decode jdk_42_method_152_code 7 = .ok (.getfield 15, 3) := by decide +kernel
theorem own_d23_10 : decode jdk_42_method_152_code 10 = .ok (.goto 4, 3) := by decide +kernel
theorem own_d23_14 : decode jdk_42_method_152_code 14 = .ok (.ireturn, 1) := by decide +kernel
def Q_rmCoder (Z : State) (x : Addr) (G1 : Int32) (h0 : Heap) (n0 : Nat) (vq : Option Value) (hhq : Heap) (Lq : List Loc) : Prop := vq = some (.int (0 : Int32)) ∧ Fr n0 Lq ∧ hhq = h0
set_option maxRecDepth 65536 in
set_option maxHeartbeats 40000000 in
theorem rmCoder (l : Launch) (Z : State) (a0 : Array Value) (hw : ∀ d ∈ tables_1, d.before a0 Z = true) (ws : List Jvm.Cond) (x : Addr) (G1 : Int32) (h0 : Heap) (n0 : Nat) (Z0 : n0 ≤ h0.size) (Pm0 : Fld Z h0 x "java/lang/String" "coder" "B" (.int (0 : Int32))) (O2 : Sta Z Z.heap "java/lang/String" "COMPACT_STRINGS" "Z" (.int G1)) (P5 : (¬ (G1 = (0 : Int32)))) (X00 : Old Z n0 h0) :
    MetFree l (⟨"java/lang/String", "coder", "()B"⟩ : MethodName) (head1 (Jvm.Cond.code (⟨"java/lang/String", "coder", "()B"⟩ : MethodName) jdk_42_method_152_code 1 (some .byte) :: ws) ({ frames := 0, cells := 0, slots := 0, locals := 0 } : Room)) (fun aq U => aq = #[(.ref x)] ∧ Z.Warmed39 U.vm ∧ U.heap = h0) (fun _ _ _ _ _ => True) (fun _ U oq U' => ∃ vq Lq, oq = .returned vq ∧ Q_rmCoder Z x G1 h0 n0 vq U'.heap Lq ∧ FrameEnd U oq U' Lq ({ frames := 0, cells := 0, slots := 0, locals := 0 } : Room).cells ({ frames := 0, cells := 0, slots := 0, locals := 0 } : Room).slots) := by
  refine MetFree.of_bodySF (plainFor_of_name own_pn_java_lang_String) hisR ?_
  intro p e s m args below meth c s₁ Bd hml0 hP hK
  obtain ⟨rfl, hZ, hh⟩ := hP
  have hx := Bd.exec
  have hby := Bd.bytes
  have hml : c.maxLocals = 1 := hml0
  have hown : s.vm.findClass "java/lang/String" = some m.cls := findClass_of_methodNamed Bd.named
  have hnm := (name_of_methodNamed Bd.named Bd.method).1
  have X0 : Stand p l e ({ frames := 0, cells := 0, slots := 0, locals := 0 } : Room) s m #[(.ref x)] below meth c s₁ [] 0 0 := Stand.of_body Bd
  have e0 : s₁.heap = h0 := by rw [← hh, Bd.state]; rfl
  have N0 := Fr.nil n0
  have K0 : Keep h0 h0 [] := Keep.refl _ _
  refine own_go (S' := s₁.setTop (mkF m 0 #[.val (.ref x)] [])) (fun tq kq => castTop (own_ef_rmCoder m x G1) kq) ?_
  have lt1 : @LT.lt Nat _ x h0.size := Pm0.lt
  refine own_gS X0 hx hZ hown (host := "") (Or.inl (hw _ (own_mi 14 rfl))) Via.refl e0 (O2.ext X00.2) 3 (hb hby own_d23_0) rfl ?_
  intro T2 X2 e2
  refine own_ifN X2 hx 6 (hb hby own_d23_3) rfl ((if0 _ _).trans (feq (P5 : ¬ (G1 = (0 : Int32)))).1) ?_
  refine own_aln X2 hx 7 (hb hby own_d23_6) rfl rfl rfl ?_
  refine own_gF X2 hx hZ hown (host := "") (Or.inl (hw _ (own_mi 26 rfl))) Via.refl e2 Pm0 10 (hb hby own_d23_7) rfl ?_
  intro T3 X3 e3
  refine own_gt X3 hx 14 (hb hby own_d23_10) (by decide) (by decide) ?_
  exact own_ret X3 (v := some (.int (nar .byte (0 : Int32)))) (fun h => by rw [Bd.returns] at h; cases h) (fun fs hr => retN X3 hx (t := .byte) Bd.returns (by simp) (hb hby own_d23_14) hr) (by rw [e3]; exact ⟨rfl, N0, rfl⟩) (by decide) (by decide)
theorem own_ef_rmLen (m : MethodId) (x : Addr) (t : Addr) (kt : ClassId) (ds : List Int32) (G1 : Int32) : entryFrame m #[(.ref x)] 1 = mkF m 0 #[.val (.ref x)] [] := by first | (simp [entryFrame, mkF, argsToLocals, Value.category]; done) | rfl
theorem own_d22_0 : decode jdk_42_method_54_code 0 = .ok (.aload_n 0, 1) := by decide +kernel
theorem own_d22_1 : decode jdk_42_method_54_code 1 = .ok (.getfield 9, 3) := by decide +kernel
theorem own_d22_4 : decode jdk_42_method_54_code 4 = .ok (.arraylength, 1) := by decide +kernel
theorem own_d22_5 : decode jdk_42_method_54_code 5 = .ok (.aload_n 0, 1) := by decide +kernel
theorem own_d22_6 : decode jdk_42_method_54_code 6 = .ok (.invokevirtual 335, 3) := by decide +kernel
theorem own_pd_2829B : parseMethodDescriptor "()B" = some ⟨[], some .byte⟩ := by decide +kernel
theorem own_d22_9 : decode jdk_42_method_54_code 9 = .ok (.ishr, 1) := by decide +kernel
theorem own_d22_10 : decode jdk_42_method_54_code 10 = .ok (.ireturn, 1) := by decide +kernel
def Q_rmLen (Z : State) (x : Addr) (t : Addr) (kt : ClassId) (ds : List Int32) (G1 : Int32) (h0 : Heap) (n0 : Nat) (vq : Option Value) (hhq : Heap) (Lq : List Loc) : Prop := vq = some (.int (Int32.ofNat ds.length)) ∧ Fr n0 Lq ∧ hhq = h0
set_option maxRecDepth 65536 in
set_option maxHeartbeats 40000000 in
theorem rmLen (l : Launch) (Z : State) (a0 : Array Value) (hw : ∀ d ∈ tables_1, d.before a0 Z = true) (ws : List Jvm.Cond) (x : Addr) (t : Addr) (kt : ClassId) (ds : List Int32) (G1 : Int32) (h0 : Heap) (n0 : Nat) (Z0 : n0 ≤ h0.size) (Pm0 : Exa Z h0 x "java/lang/String") (Pm1 : Fld Z h0 x "java/lang/String" "value" "[B" (.ref t)) (Pm2 : Fld Z h0 x "java/lang/String" "coder" "B" (.int (0 : Int32))) (Pm3 : Arv Z h0 t kt .byte (Int32.ofNat ds.length) (own_bs ds) (.int 0)) (O2 : Sta Z Z.heap "java/lang/String" "COMPACT_STRINGS" "Z" (.int G1)) (P5 : (¬ (G1 = (0 : Int32)))) (X00 : Old Z n0 h0) :
    MetFree l (⟨"java/lang/String", "length", "()I"⟩ : MethodName) (head1 (Jvm.Cond.code (⟨"java/lang/String", "length", "()I"⟩ : MethodName) jdk_42_method_54_code 1 (some .int) :: ws) ({ frames := 1, cells := 0, slots := 0, locals := 13 } : Room)) (fun aq U => aq = #[(.ref x)] ∧ Z.Warmed39 U.vm ∧ U.heap = h0) (fun _ _ _ _ _ => True) (fun _ U oq U' => ∃ vq Lq, oq = .returned vq ∧ Q_rmLen Z x t kt ds G1 h0 n0 vq U'.heap Lq ∧ FrameEnd U oq U' Lq ({ frames := 1, cells := 0, slots := 0, locals := 13 } : Room).cells ({ frames := 1, cells := 0, slots := 0, locals := 13 } : Room).slots) := by
  refine MetFree.of_bodySF (plainFor_of_name own_pn_java_lang_String) hisR ?_
  intro p e s m args below meth c s₁ Bd hml0 hP hK
  obtain ⟨rfl, hZ, hh⟩ := hP
  have hx := Bd.exec
  have hby := Bd.bytes
  have hml : c.maxLocals = 1 := hml0
  have hown : s.vm.findClass "java/lang/String" = some m.cls := findClass_of_methodNamed Bd.named
  have hnm := (name_of_methodNamed Bd.named Bd.method).1
  have X0 : Stand p l e ({ frames := 1, cells := 0, slots := 0, locals := 13 } : Room) s m #[(.ref x)] below meth c s₁ [] 0 0 := Stand.of_body Bd
  have e0 : s₁.heap = h0 := by rw [← hh, Bd.state]; rfl
  have N0 := Fr.nil n0
  have K0 : Keep h0 h0 [] := Keep.refl _ _
  refine own_go (S' := s₁.setTop (mkF m 0 #[.val (.ref x)] [])) (fun tq kq => castTop (own_ef_rmLen m x t kt ds G1) kq) ?_
  have lt1 : @LT.lt Nat _ x h0.size := Pm0.lt
  have lt2 : @LT.lt Nat _ t h0.size := Pm3.lt
  refine own_aln X0 hx 1 (hb hby own_d22_0) rfl rfl rfl ?_
  refine own_gF X0 hx hZ hown (host := "") (Or.inl (hw _ (own_mi 28 rfl))) Via.refl e0 Pm1 4 (hb hby own_d22_1) rfl ?_
  intro T3 X3 e3
  refine own_alen X3 hx hZ e3 Pm3 5 (hb hby own_d22_4) rfl ?_
  refine own_aln X3 hx 6 (hb hby own_d22_5) rfl rfl rfl ?_
  have Zn4 : n0 ≤ h0.size := (Nat.le_trans Z0 (Nat.le_refl _))
  refine own_cV X3 hx hZ (y := (⟨"java/lang/String", "coder", "()B"⟩ : MethodName)) (z := (⟨"java/lang/String", "coder", "()B"⟩ : MethodName)) hown (hw _ (own_mi 146 rfl)) (hw _ (own_mi 147 rfl)) (notFace_of_selects (args := #[]) (mvT hZ (hw _ (own_mi 149 rfl)))) (hw _ (own_mi 149 rfl)) (hw _ (own_mi 148 rfl)) (hw _ (own_mi 150 rfl)) (hw _ (own_mi 2 rfl)) (by decide) (rmCoder l Z a0 hw [] (x) (G1) h0 n0 Zn4 Pm2 (O2) (P5) X00) Pm0 e3 [] [(.int (Int32.ofNat ds.length))] rfl (by rw [hml]; rfl) (lenOf own_pd_2829B rfl) rfl 1 (Nat.le_of_eq rfl) (by decide) (by decide) (by decide : 0 + 0 ≤ _) (by decide : 0 + 0 ≤ _) 9 (hb hby own_d22_6) rfl 0 0 rfl rfl ?_
  intro rv4 T4 Lc4 X4 hQ4
  obtain ⟨rfl, Nq4, eh4⟩ := hQ4
  have N4 := Fr.app N0 Nq4
  show own_Rn p e below _ (T4.setTop (mkF m 9 #[.val (.ref x)] [(.int (0 : Int32)), (.int (Int32.ofNat ds.length))]))
  refine own_ishr X4 hx 10 (hb hby own_d22_9) rfl ?_
  exact own_ret X4 (v := some (.int ((Int32.ofNat ds.length) >>> ((0 : Int32) &&& 31)))) (fun h => by rw [Bd.returns] at h; cases h) (fun fs hr => retI X4 hx Bd.returns (hb hby own_d22_10) hr) (by rw [eh4]; exact ⟨congrArg (fun z => some (Value.int z)) (own_shr0 _), N4, rfl⟩) (by decide) (by decide)
theorem own_ef_rmAI (m : MethodId) (sb : Addr) (G1 : Int32) : entryFrame m #[(.ref sb), (.int (16 : Int32))] 2 = mkF m 0 #[.val (.ref sb), .val (.int (16 : Int32))] [] := by first | (simp [entryFrame, mkF, argsToLocals, Value.category]; done) | rfl
theorem own_pn_java_lang_AbstractStringBuilder : plainName "java/lang/AbstractStringBuilder" = true := by first | (simp [plainName, overriddenIn]; done) | decide +kernel
theorem own_d19_0 : decode jdk_68_method_2_code 0 = .ok (.aload_n 0, 1) := by decide +kernel
theorem own_d19_1 : decode jdk_68_method_2_code 1 = .ok (.invokespecial 3, 3) := by decide +kernel
theorem own_d19_4 : decode jdk_68_method_2_code 4 = .ok (.getstatic 18, 3) := by decide +kernel
theorem own_d19_7 : decode jdk_68_method_2_code 7 = .ok (.ifCond .eq 18, 3) := by decide +kernel
theorem own_d19_10 : decode jdk_68_method_2_code 10 = .ok (.aload_n 0, 1) := by decide +kernel
theorem own_d19_11 : decode jdk_68_method_2_code 11 = .ok (.iload_n 1, 1) := by decide +kernel
theorem own_d19_12 : decode jdk_68_method_2_code 12 = .ok (.newarray .byte, 2) := by decide +kernel
theorem own_d19_14 : decode jdk_68_method_2_code 14 = .ok (.putfield 15, 3) := by decide +kernel
theorem own_fd_5bB : parseFieldDescriptor "[B" = some (.array .byte) := by decide +kernel
theorem own_d19_17 : decode jdk_68_method_2_code 17 = .ok (.aload_n 0, 1) := by decide +kernel
theorem own_d19_18 : decode jdk_68_method_2_code 18 = .ok (.iconst 0, 1) := by decide +kernel
theorem own_d19_19 : decode jdk_68_method_2_code 19 = .ok (.putfield 22, 3) := by decide +kernel
theorem own_fd_B : parseFieldDescriptor "B" = some .byte := by decide +kernel
theorem own_d19_22 : decode jdk_68_method_2_code 22 = .ok (.goto 16, 3) := by decide +kernel
theorem own_d19_38 : decode jdk_68_method_2_code 38 = .ok (.return_, 1) := by decide +kernel
theorem own_fd_I : parseFieldDescriptor "I" = some .int := by decide +kernel
def Q_rmAI (Z : State) (sb : Addr) (G1 : Int32) (h0 : Heap) (n0 : Nat) (vq : Option Value) (hhq : Heap) (Lq : List Loc) : Prop := ∃ (bv : Addr), ∃ (kb : ClassId), vq = none ∧ Fr n0 Lq ∧ Keep h0 hhq [sb] ∧ h0.size ≤ bv ∧ n0 ≤ bv ∧ Fld Z hhq sb "java/lang/AbstractStringBuilder" "value" "[B" (.ref bv) ∧ Fld Z hhq sb "java/lang/AbstractStringBuilder" "coder" "B" (.int (0 : Int32)) ∧ Arv Z hhq bv kb .byte (16 : Int32) (own_bs ([] : List Int32)) (.int 0) ∧ Fld Z hhq sb "java/lang/AbstractStringBuilder" "count" "I" (.int (Int32.ofNat ([] : List Int32).length))
set_option maxRecDepth 65536 in
set_option maxHeartbeats 40000000 in
theorem rmAI (l : Launch) (Z : State) (a0 : Array Value) (hw : ∀ d ∈ tables_1, d.before a0 Z = true) (ws : List Jvm.Cond) (sb : Addr) (G1 : Int32) (h0 : Heap) (n0 : Nat) (Z0 : n0 ≤ h0.size) (Pm0 : Exa Z h0 sb "java/lang/StringBuilder") (Pm1 : Fld Z h0 sb "java/lang/AbstractStringBuilder" "value" "[B" .null) (Pm2 : Fld Z h0 sb "java/lang/AbstractStringBuilder" "coder" "B" (.int (0 : Int32))) (Pm3 : Fld Z h0 sb "java/lang/AbstractStringBuilder" "count" "I" (.int (0 : Int32))) (Pm4 : n0 ≤ sb) (O2 : Sta Z Z.heap "java/lang/String" "COMPACT_STRINGS" "Z" (.int G1)) (P5 : (¬ (G1 = (0 : Int32)))) (X00 : Old Z n0 h0) :
    MetFree l (⟨"java/lang/AbstractStringBuilder", "<init>", "(I)V"⟩ : MethodName) (head1 (Jvm.Cond.code (⟨"java/lang/AbstractStringBuilder", "<init>", "(I)V"⟩ : MethodName) jdk_68_method_2_code 2 none :: ws) ({ frames := 1, cells := 1, slots := 16, locals := 12 } : Room)) (fun aq U => aq = #[(.ref sb), (.int (16 : Int32))] ∧ Z.Warmed39 U.vm ∧ U.heap = h0) (fun _ _ _ _ _ => True) (fun _ U oq U' => ∃ vq Lq, oq = .returned vq ∧ Q_rmAI Z sb G1 h0 n0 vq U'.heap Lq ∧ FrameEnd U oq U' Lq ({ frames := 1, cells := 1, slots := 16, locals := 12 } : Room).cells ({ frames := 1, cells := 1, slots := 16, locals := 12 } : Room).slots) := by
  refine MetFree.of_bodySF (plainFor_of_name own_pn_java_lang_AbstractStringBuilder) hisR ?_
  intro p e s m args below meth c s₁ Bd hml0 hP hK
  obtain ⟨rfl, hZ, hh⟩ := hP
  have hx := Bd.exec
  have hby := Bd.bytes
  have hml : c.maxLocals = 2 := hml0
  have hown : s.vm.findClass "java/lang/AbstractStringBuilder" = some m.cls := findClass_of_methodNamed Bd.named
  have hnm := (name_of_methodNamed Bd.named Bd.method).1
  have X0 : Stand p l e ({ frames := 1, cells := 1, slots := 16, locals := 12 } : Room) s m #[(.ref sb), (.int (16 : Int32))] below meth c s₁ [] 0 0 := Stand.of_body Bd
  have e0 : s₁.heap = h0 := by rw [← hh, Bd.state]; rfl
  have N0 := Fr.nil n0
  have K0 : Keep h0 h0 [sb] := Keep.refl _ _
  refine own_go (S' := s₁.setTop (mkF m 0 #[.val (.ref sb), .val (.int (16 : Int32))] [])) (fun tq kq => castTop (own_ef_rmAI m sb G1) kq) ?_
  have lt1 : @LT.lt Nat _ sb h0.size := Pm0.lt
  refine own_aln X0 hx 1 (hb hby own_d19_0) rfl rfl rfl ?_
  obtain ⟨T2, X2, e2, st2⟩ := initO X0 hx hZ hown (hw _ (own_mi 122 rfl)) (hw _ (own_mi 12 rfl)) (hw _ (own_mi 13 rfl)) e0 (g := (mkF m 1 #[.val (.ref sb), .val (.int (16 : Int32))] [(.ref sb)])) rfl (by rw [hml]; rfl) rfl (hb hby own_d19_1) (by decide) (W := 0) (by show 2 * 0 + _ ≤ _; exact Nat.le_of_eq rfl) (by decide)
  refine own_go st2 ?_
  show own_Rn p e below _ (T2.setTop (mkF m 4 #[.val (.ref sb), .val (.int (16 : Int32))] []))
  refine own_gS X2 hx hZ hown (host := "") (Or.inl (hw _ (own_mi 123 rfl))) Via.refl e2 (O2.ext X00.2) 7 (hb hby own_d19_4) rfl ?_
  intro T3 X3 e3
  refine own_ifN X3 hx 10 (hb hby own_d19_7) rfl ((if0 _ _).trans (feq (P5 : ¬ (G1 = (0 : Int32)))).1) ?_
  refine own_aln X3 hx 11 (hb hby own_d19_10) rfl rfl rfl ?_
  refine own_iln X3 hx 12 (hb hby own_d19_11) rfl rfl ?_
  obtain ⟨T5, h5, k5, X5, e5, E5, A5, st5⟩ := newP X3 hx hZ (hw _ (own_mi 19 rfl)) e3 (g := (mkF m 12 #[.val (.ref sb), .val (.int (16 : Int32))] [(.int (16 : Int32)), (.ref sb)])) rfl (hb hby own_d19_12) rfl (by decide) (cap := 16) (by decide) (by decide) (by decide) (by decide)
  obtain ⟨b5, g5⟩ : ∃ z, z = h0.size := ⟨_, rfl⟩
  rw [← g5] at A5 st5
  refine own_go st5 ?_
  have sz6 : h0.size ≤ h5.size := E5.1
  have K6 := K0.ext E5
  have gn5 : n0 ≤ b5 := (Nat.le_trans (Nat.le_trans Z0 (Nat.le_refl _)) (Nat.le_of_eq g5.symm))
  have V5 : Arv Z h5 b5 k5 .byte (16 : Int32) [] (.int (0 : Int32)) := Arv.new A5 (by decide)
  have lt7 : @LT.lt Nat _ b5 h5.size := V5.lt
  show own_Rn p e below _ (T5.setTop (mkF m 14 #[.val (.ref sb), .val (.int (16 : Int32))] [(.ref b5), (.ref sb)]))
  have F8 : Fld Z h5 sb "java/lang/AbstractStringBuilder" "value" "[B" .null := (Pm1.ext E5)
  have F9 : Exa Z h5 sb "java/lang/StringBuilder" := (Pm0.ext E5)
  obtain ⟨T10, h10, X10, e10, W10, st10⟩ := putF X5 hx hZ hown (host := "") (Or.inl (hw _ (own_mi 124 rfl))) Via.refl e5 F8 F9 (Or.inl (hw _ (own_mi 125 rfl))) (hw _ (own_mi 111 rfl)) (ty := (.array .byte)) own_fd_5bB rfl rfl (g := (mkF m 14 #[.val (.ref sb), .val (.int (16 : Int32))] [(.ref b5), (.ref sb)])) rfl rfl (hb hby own_d19_14)
  refine own_go st10 ?_
  have N10 := Fr.snoc X10 N0 Pm4
  have Fw10 := F8.same W10
  have sz11 : h5.size ≤ h10.size := Nat.le_of_eq (Wr.size W10).symm
  have K11 := K6.wr W10 (Or.inl (List.mem_of_getElem? (i := 0) rfl))
  show own_Rn p e below _ (T10.setTop (mkF m 17 #[.val (.ref sb), .val (.int (16 : Int32))] []))
  refine own_aln X10 hx 18 (hb hby own_d19_17) rfl rfl rfl ?_
  refine own_ic X10 hx (0 : Int32) 19 (hb hby own_d19_18) rfl rfl ?_
  have F12 : Fld Z h10 sb "java/lang/AbstractStringBuilder" "coder" "B" (.int (0 : Int32)) := ((Pm2.ext E5).other W10 (Or.inr (slot_ne (Or.inl (hw _ (own_mi 127 rfl))) (Or.inl (hw _ (own_mi 125 rfl))) (by decide) (t := .byte) (t' := (.array .byte)) own_fd_B own_fd_5bB)))
  have F13 : Exa Z h10 sb "java/lang/StringBuilder" := (F9.wr W10)
  obtain ⟨T14, h14, X14, e14, W14, st14⟩ := putFN X10 hx hZ hown (hw _ (own_mi 126 rfl)) Via.refl e10 F12 F13 (Or.inl (hw _ (own_mi 127 rfl))) (hw _ (own_mi 111 rfl)) (ty := .byte) (v' := (.int ((0 : Int32)))) own_fd_B rfl (by decide) (g := (mkF m 19 #[.val (.ref sb), .val (.int (16 : Int32))] [(.int (0 : Int32)), (.ref sb)])) rfl rfl (hb hby own_d19_19)
  refine own_go st14 ?_
  have N14 := Fr.snoc X14 N10 Pm4
  have Fw14 := F12.same W14
  have sz15 : h10.size ≤ h14.size := Nat.le_of_eq (Wr.size W14).symm
  have K15 := K11.wr W14 (Or.inl (List.mem_of_getElem? (i := 0) rfl))
  show own_Rn p e below _ (T14.setTop (mkF m 22 #[.val (.ref sb), .val (.int (16 : Int32))] []))
  refine own_gt X14 hx 38 (hb hby own_d19_22) (by decide) (by decide) ?_
  have F16 : Fld Z h14 sb "java/lang/AbstractStringBuilder" "value" "[B" (.ref b5) := (Fw10.other W14 (Or.inr (slot_ne (Or.inl (hw _ (own_mi 125 rfl))) (Or.inl (hw _ (own_mi 127 rfl))) (by decide) (t := (.array .byte)) (t' := .byte) own_fd_5bB own_fd_B)))
  have ne17 : b5 ≠ sb := own_nea (Or.inr (Nat.lt_of_lt_of_le lt1 (Nat.le_trans (Nat.le_refl _) (Nat.le_of_eq g5.symm))))
  have F18 : Arv Z h14 b5 k5 .byte (16 : Int32) [] (.int (0 : Int32)) := ((V5.other W10 ne17).other W14 ne17)
  have F19 : Fld Z h14 sb "java/lang/AbstractStringBuilder" "count" "I" (.int (0 : Int32)) := (((Pm3.ext E5).other W10 (Or.inr (slot_ne (Or.inl (hw _ (own_mi 152 rfl))) (Or.inl (hw _ (own_mi 125 rfl))) (by decide) (t := .int) (t' := (.array .byte)) own_fd_I own_fd_5bB))).other W14 (Or.inr (slot_ne (Or.inl (hw _ (own_mi 152 rfl))) (Or.inl (hw _ (own_mi 127 rfl))) (by decide) (t := .int) (t' := .byte) own_fd_I own_fd_B)))
  exact own_ret X14 (v := none) (fun _ => rfl) (fun fs hr => X14.returnOut hx Bd.returns (hb hby own_d19_38) hr) (by rw [e14]; exact ⟨b5, k5, rfl, N14, K15, (Nat.le_trans (Nat.le_refl _) (Nat.le_of_eq g5.symm)), gn5, F16, Fw14, F18, F19⟩) (by decide) (by decide)
theorem own_ef_rmSI (m : MethodId) (sb : Addr) (G1 : Int32) : entryFrame m #[(.ref sb)] 1 = mkF m 0 #[.val (.ref sb)] [] := by first | (simp [entryFrame, mkF, argsToLocals, Value.category]; done) | rfl
theorem own_pn_java_lang_StringBuilder : plainName "java/lang/StringBuilder" = true := by first | (simp [plainName, overriddenIn]; done) | decide +kernel
theorem own_d18_0 : decode jdk_67_method_1_code 0 = .ok (.aload_n 0, 1) := by decide +kernel
theorem own_d18_1 : decode jdk_67_method_1_code 1 = .ok (.bipush 16, 2) := by decide +kernel
theorem own_d18_3 : decode jdk_67_method_1_code 3 = .ok (.invokespecial 1, 3) := by decide +kernel
theorem own_pd_28I29V : parseMethodDescriptor "(I)V" = some ⟨[.int], none⟩ := by decide +kernel
theorem own_d18_6 : decode jdk_67_method_1_code 6 = .ok (.return_, 1) := by decide +kernel
def Q_rmSI (Z : State) (sb : Addr) (G1 : Int32) (h0 : Heap) (n0 : Nat) (vq : Option Value) (hhq : Heap) (Lq : List Loc) : Prop := ∃ (bv : Addr), ∃ (kb : ClassId), vq = none ∧ Fr n0 Lq ∧ Keep h0 hhq [sb] ∧ h0.size ≤ bv ∧ n0 ≤ bv ∧ Fld Z hhq sb "java/lang/AbstractStringBuilder" "value" "[B" (.ref bv) ∧ Fld Z hhq sb "java/lang/AbstractStringBuilder" "coder" "B" (.int (0 : Int32)) ∧ Arv Z hhq bv kb .byte (16 : Int32) (own_bs ([] : List Int32)) (.int 0) ∧ Fld Z hhq sb "java/lang/AbstractStringBuilder" "count" "I" (.int (Int32.ofNat ([] : List Int32).length))
set_option maxRecDepth 65536 in
set_option maxHeartbeats 40000000 in
theorem rmSI (l : Launch) (Z : State) (a0 : Array Value) (hw : ∀ d ∈ tables_1, d.before a0 Z = true) (ws : List Jvm.Cond) (sb : Addr) (G1 : Int32) (h0 : Heap) (n0 : Nat) (Z0 : n0 ≤ h0.size) (Pm0 : Exa Z h0 sb "java/lang/StringBuilder") (Pm1 : Fld Z h0 sb "java/lang/AbstractStringBuilder" "value" "[B" .null) (Pm2 : Fld Z h0 sb "java/lang/AbstractStringBuilder" "coder" "B" (.int (0 : Int32))) (Pm3 : Fld Z h0 sb "java/lang/AbstractStringBuilder" "count" "I" (.int (0 : Int32))) (Pm4 : n0 ≤ sb) (O2 : Sta Z Z.heap "java/lang/String" "COMPACT_STRINGS" "Z" (.int G1)) (P5 : (¬ (G1 = (0 : Int32)))) (X00 : Old Z n0 h0) :
    MetFree l (⟨"java/lang/StringBuilder", "<init>", "()V"⟩ : MethodName) (head1 (Jvm.Cond.code (⟨"java/lang/StringBuilder", "<init>", "()V"⟩ : MethodName) jdk_67_method_1_code 1 none :: ws) ({ frames := 2, cells := 1, slots := 16, locals := 25 } : Room)) (fun aq U => aq = #[(.ref sb)] ∧ Z.Warmed39 U.vm ∧ U.heap = h0) (fun _ _ _ _ _ => True) (fun _ U oq U' => ∃ vq Lq, oq = .returned vq ∧ Q_rmSI Z sb G1 h0 n0 vq U'.heap Lq ∧ FrameEnd U oq U' Lq ({ frames := 2, cells := 1, slots := 16, locals := 25 } : Room).cells ({ frames := 2, cells := 1, slots := 16, locals := 25 } : Room).slots) := by
  refine MetFree.of_bodySF (plainFor_of_name own_pn_java_lang_StringBuilder) hisR ?_
  intro p e s m args below meth c s₁ Bd hml0 hP hK
  obtain ⟨rfl, hZ, hh⟩ := hP
  have hx := Bd.exec
  have hby := Bd.bytes
  have hml : c.maxLocals = 1 := hml0
  have hown : s.vm.findClass "java/lang/StringBuilder" = some m.cls := findClass_of_methodNamed Bd.named
  have hnm := (name_of_methodNamed Bd.named Bd.method).1
  have X0 : Stand p l e ({ frames := 2, cells := 1, slots := 16, locals := 25 } : Room) s m #[(.ref sb)] below meth c s₁ [] 0 0 := Stand.of_body Bd
  have e0 : s₁.heap = h0 := by rw [← hh, Bd.state]; rfl
  have N0 := Fr.nil n0
  have K0 : Keep h0 h0 [sb] := Keep.refl _ _
  refine own_go (S' := s₁.setTop (mkF m 0 #[.val (.ref sb)] [])) (fun tq kq => castTop (own_ef_rmSI m sb G1) kq) ?_
  have lt1 : @LT.lt Nat _ sb h0.size := Pm0.lt
  refine own_aln X0 hx 1 (hb hby own_d18_0) rfl rfl rfl ?_
  refine own_bp X0 hx (16 : Int32) 3 (hb hby own_d18_1) rfl rfl ?_
  have Zn2 : n0 ≤ h0.size := (Nat.le_trans Z0 (Nat.le_refl _))
  refine own_cI X0 hx hZ (y := (⟨"java/lang/AbstractStringBuilder", "<init>", "(I)V"⟩ : MethodName)) rfl hown (hw _ (own_mi 116 rfl)) (hw _ (own_mi 117 rfl)) (hw _ (own_mi 121 rfl)) (hw _ (own_mi 120 rfl)) (by decide) (rmAI l Z a0 hw [] (sb) (G1) h0 n0 Zn2 Pm0 Pm1 Pm2 Pm3 Pm4 (O2) (P5) X00) e0 [(.int (16 : Int32))] [] rfl (by rw [hml]; rfl) (lenOf own_pd_28I29V rfl) rfl 0 (Nat.le_of_eq rfl) (by decide) (by decide) (by decide : 0 + 1 ≤ _) (by decide : 0 + 16 ≤ _) 6 (hb hby own_d18_3) rfl 1 16 rfl rfl ?_
  intro rv2 T2 Lc2 X2 hQ2
  obtain ⟨bw, kw, rfl, Nq2, Kq2, G0_2, G1_2, G2_2, G3_2, G4_2, G5_2⟩ := hQ2
  have N2 := Fr.app N0 Nq2
  have sz3 : h0.size ≤ T2.heap.size := Kq2.1
  have K3 := K0.trans Kq2 (allS (Or.inl (List.mem_of_getElem? (i := 0) rfl)) all0)
  have lt4 : @LT.lt Nat _ bw T2.heap.size := G4_2.lt
  show own_Rn p e below _ (T2.setTop (mkF m 6 #[.val (.ref sb)] []))
  exact own_ret X2 (v := none) (fun _ => rfl) (fun fs hr => X2.returnOut hx Bd.returns (hb hby own_d18_6) hr) (⟨bw, kw, rfl, N2, K3, (Nat.le_trans (Nat.le_refl _) G0_2), G1_2, G2_2, G3_2, G4_2, G5_2⟩) (by decide) (by decide)
theorem own_ef_rmInf (m : MethodId) (sb : Addr) (st : Addr) (G1 : Int32) : entryFrame m #[(.ref sb), (.ref st)] 2 = mkF m 0 #[.val (.ref sb), .val (.ref st)] [] := by first | (simp [entryFrame, mkF, argsToLocals, Value.category]; done) | rfl
theorem own_d26_0 : decode jdk_68_method_71_code 0 = .ok (.getstatic 18, 3) := by decide +kernel
theorem own_d26_3 : decode jdk_68_method_71_code 3 = .ok (.ifCond .eq 18, 3) := by decide +kernel
theorem own_d26_6 : decode jdk_68_method_71_code 6 = .ok (.aload_n 0, 1) := by decide +kernel
theorem own_d26_7 : decode jdk_68_method_71_code 7 = .ok (.getfield 22, 3) := by decide +kernel
theorem own_d26_10 : decode jdk_68_method_71_code 10 = .ok (.aload_n 1, 1) := by decide +kernel
theorem own_d26_11 : decode jdk_68_method_71_code 11 = .ok (.invokevirtual 40, 3) := by decide +kernel
theorem own_d26_14 : decode jdk_68_method_71_code 14 = .ok (.if_icmp .eq 7, 3) := by decide +kernel
theorem own_d26_21 : decode jdk_68_method_71_code 21 = .ok (.return_, 1) := by decide +kernel
def Q_rmInf (Z : State) (sb : Addr) (st : Addr) (G1 : Int32) (h0 : Heap) (n0 : Nat) (vq : Option Value) (hhq : Heap) (Lq : List Loc) : Prop := vq = none ∧ Fr n0 Lq ∧ hhq = h0
set_option maxRecDepth 65536 in
set_option maxHeartbeats 40000000 in
theorem rmInf (l : Launch) (Z : State) (a0 : Array Value) (hw : ∀ d ∈ tables_1, d.before a0 Z = true) (ws : List Jvm.Cond) (sb : Addr) (st : Addr) (G1 : Int32) (h0 : Heap) (n0 : Nat) (Z0 : n0 ≤ h0.size) (Pm0 : Fld Z h0 sb "java/lang/AbstractStringBuilder" "coder" "B" (.int (0 : Int32))) (Pm1 : Exa Z h0 st "java/lang/String") (Pm2 : Fld Z h0 st "java/lang/String" "coder" "B" (.int (0 : Int32))) (O2 : Sta Z Z.heap "java/lang/String" "COMPACT_STRINGS" "Z" (.int G1)) (P5 : (¬ (G1 = (0 : Int32)))) (X00 : Old Z n0 h0) :
    MetFree l (⟨"java/lang/AbstractStringBuilder", "inflateIfNeededFor", "(Ljava/lang/String;)V"⟩ : MethodName) (head1 (Jvm.Cond.code (⟨"java/lang/AbstractStringBuilder", "inflateIfNeededFor", "(Ljava/lang/String;)V"⟩ : MethodName) jdk_68_method_71_code 2 none :: ws) ({ frames := 1, cells := 0, slots := 0, locals := 13 } : Room)) (fun aq U => aq = #[(.ref sb), (.ref st)] ∧ Z.Warmed39 U.vm ∧ U.heap = h0) (fun _ _ _ _ _ => True) (fun _ U oq U' => ∃ vq Lq, oq = .returned vq ∧ Q_rmInf Z sb st G1 h0 n0 vq U'.heap Lq ∧ FrameEnd U oq U' Lq ({ frames := 1, cells := 0, slots := 0, locals := 13 } : Room).cells ({ frames := 1, cells := 0, slots := 0, locals := 13 } : Room).slots) := by
  refine MetFree.of_bodySF (plainFor_of_name own_pn_java_lang_AbstractStringBuilder) hisR ?_
  intro p e s m args below meth c s₁ Bd hml0 hP hK
  obtain ⟨rfl, hZ, hh⟩ := hP
  have hx := Bd.exec
  have hby := Bd.bytes
  have hml : c.maxLocals = 2 := hml0
  have hown : s.vm.findClass "java/lang/AbstractStringBuilder" = some m.cls := findClass_of_methodNamed Bd.named
  have hnm := (name_of_methodNamed Bd.named Bd.method).1
  have X0 : Stand p l e ({ frames := 1, cells := 0, slots := 0, locals := 13 } : Room) s m #[(.ref sb), (.ref st)] below meth c s₁ [] 0 0 := Stand.of_body Bd
  have e0 : s₁.heap = h0 := by rw [← hh, Bd.state]; rfl
  have N0 := Fr.nil n0
  have K0 : Keep h0 h0 [] := Keep.refl _ _
  refine own_go (S' := s₁.setTop (mkF m 0 #[.val (.ref sb), .val (.ref st)] [])) (fun tq kq => castTop (own_ef_rmInf m sb st G1) kq) ?_
  have lt1 : @LT.lt Nat _ sb h0.size := Pm0.lt
  have lt2 : @LT.lt Nat _ st h0.size := Pm1.lt
  refine own_gS X0 hx hZ hown (host := "") (Or.inl (hw _ (own_mi 123 rfl))) Via.refl e0 (O2.ext X00.2) 3 (hb hby own_d26_0) rfl ?_
  intro T3 X3 e3
  refine own_ifN X3 hx 6 (hb hby own_d26_3) rfl ((if0 _ _).trans (feq (P5 : ¬ (G1 = (0 : Int32)))).1) ?_
  refine own_aln X3 hx 7 (hb hby own_d26_6) rfl rfl rfl ?_
  refine own_gF X3 hx hZ hown (host := "") (Or.inl (hw _ (own_mi 126 rfl))) Via.refl e3 Pm0 10 (hb hby own_d26_7) rfl ?_
  intro T4 X4 e4
  refine own_aln X4 hx 11 (hb hby own_d26_10) rfl rfl rfl ?_
  have Zn5 : n0 ≤ h0.size := (Nat.le_trans Z0 (Nat.le_refl _))
  refine own_cV X4 hx hZ (y := (⟨"java/lang/String", "coder", "()B"⟩ : MethodName)) (z := (⟨"java/lang/String", "coder", "()B"⟩ : MethodName)) hown (hw _ (own_mi 168 rfl)) (hw _ (own_mi 147 rfl)) (notFace_of_selects (args := #[]) (mvT hZ (hw _ (own_mi 149 rfl)))) (hw _ (own_mi 149 rfl)) (hw _ (own_mi 148 rfl)) (hw _ (own_mi 150 rfl)) (hw _ (own_mi 2 rfl)) (by decide) (rmCoder l Z a0 hw [] (st) (G1) h0 n0 Zn5 Pm2 (O2) (P5) X00) Pm1 e4 [] [(.int (0 : Int32))] rfl (by rw [hml]; rfl) (lenOf own_pd_2829B rfl) rfl 1 (Nat.le_of_eq rfl) (by decide) (by decide) (by decide : 0 + 0 ≤ _) (by decide : 0 + 0 ≤ _) 14 (hb hby own_d26_11) rfl 0 0 rfl rfl ?_
  intro rv5 T5 Lc5 X5 hQ5
  obtain ⟨rfl, Nq5, eh5⟩ := hQ5
  have N5 := Fr.app N0 Nq5
  show own_Rn p e below _ (T5.setTop (mkF m 14 #[.val (.ref sb), .val (.ref st)] [(.int (0 : Int32)), (.int (0 : Int32))]))
  refine own_icY X5 hx 21 (hb hby own_d26_14) (teq ((by decide : (0 : Int32) = (0 : Int32)) : (0 : Int32) = (0 : Int32))).1 (by decide) (by decide) ?_
  exact own_ret X5 (v := none) (fun _ => rfl) (fun fs hr => X5.returnOut hx Bd.returns (hb hby own_d26_21) hr) (by rw [eh5]; exact ⟨rfl, N5, rfl⟩) (by decide) (by decide)
theorem own_ef_rmEns (m : MethodId) (sb : Addr) (bv : Addr) (kb : ClassId) (cs : List Int32) (nn : Int32) : entryFrame m #[(.ref sb), (.int nn)] 3 = mkF m 0 #[.val (.ref sb), .val (.int nn), .unset] [] := by first | (simp [entryFrame, mkF, argsToLocals, Value.category]; done) | rfl
theorem own_d24_0 : decode jdk_68_method_9_code 0 = .ok (.aload_n 0, 1) := by decide +kernel
theorem own_d24_1 : decode jdk_68_method_9_code 1 = .ok (.getfield 15, 3) := by decide +kernel
theorem own_d24_4 : decode jdk_68_method_9_code 4 = .ok (.arraylength, 1) := by decide +kernel
theorem own_d24_5 : decode jdk_68_method_9_code 5 = .ok (.aload_n 0, 1) := by decide +kernel
theorem own_d24_6 : decode jdk_68_method_9_code 6 = .ok (.getfield 22, 3) := by decide +kernel
theorem own_d24_9 : decode jdk_68_method_9_code 9 = .ok (.ishr, 1) := by decide +kernel
theorem own_d24_10 : decode jdk_68_method_9_code 10 = .ok (.istore_n 2, 1) := by decide +kernel
theorem own_d24_11 : decode jdk_68_method_9_code 11 = .ok (.iload_n 1, 1) := by decide +kernel
theorem own_d24_12 : decode jdk_68_method_9_code 12 = .ok (.iload_n 2, 1) := by decide +kernel
theorem own_d24_13 : decode jdk_68_method_9_code 13 = .ok (.isub, 1) := by decide +kernel
theorem own_d24_14 : decode jdk_68_method_9_code 14 = .ok (.ifCond .le 24, 3) := by decide +kernel
theorem own_d24_38 : decode jdk_68_method_9_code 38 = .ok (.return_, 1) := by decide +kernel
def Q_rmEns (Z : State) (sb : Addr) (bv : Addr) (kb : ClassId) (cs : List Int32) (nn : Int32) (h0 : Heap) (n0 : Nat) (vq : Option Value) (hhq : Heap) (Lq : List Loc) : Prop := vq = none ∧ Fr n0 Lq ∧ hhq = h0
set_option maxRecDepth 65536 in
set_option maxHeartbeats 40000000 in
theorem rmEns (l : Launch) (Z : State) (a0 : Array Value) (hw : ∀ d ∈ tables_1, d.before a0 Z = true) (ws : List Jvm.Cond) (sb : Addr) (bv : Addr) (kb : ClassId) (cs : List Int32) (nn : Int32) (h0 : Heap) (n0 : Nat) (Z0 : n0 ≤ h0.size) (Pm0 : Fld Z h0 sb "java/lang/AbstractStringBuilder" "value" "[B" (.ref bv)) (Pm1 : Fld Z h0 sb "java/lang/AbstractStringBuilder" "coder" "B" (.int (0 : Int32))) (Pm2 : Arv Z h0 bv kb .byte (16 : Int32) (own_bs cs) (.int 0)) (hn : (¬ (0 : Int32) < nn - 16)) :
    MetFree l (⟨"java/lang/AbstractStringBuilder", "ensureCapacityInternal", "(I)V"⟩ : MethodName) (head1 (Jvm.Cond.code (⟨"java/lang/AbstractStringBuilder", "ensureCapacityInternal", "(I)V"⟩ : MethodName) jdk_68_method_9_code 3 none :: ws) ({ frames := 0, cells := 0, slots := 0, locals := 0 } : Room)) (fun aq U => aq = #[(.ref sb), (.int nn)] ∧ Z.Warmed39 U.vm ∧ U.heap = h0) (fun _ _ _ _ _ => True) (fun _ U oq U' => ∃ vq Lq, oq = .returned vq ∧ Q_rmEns Z sb bv kb cs nn h0 n0 vq U'.heap Lq ∧ FrameEnd U oq U' Lq ({ frames := 0, cells := 0, slots := 0, locals := 0 } : Room).cells ({ frames := 0, cells := 0, slots := 0, locals := 0 } : Room).slots) := by
  refine MetFree.of_bodySF (plainFor_of_name own_pn_java_lang_AbstractStringBuilder) hisR ?_
  intro p e s m args below meth c s₁ Bd hml0 hP hK
  obtain ⟨rfl, hZ, hh⟩ := hP
  have hx := Bd.exec
  have hby := Bd.bytes
  have hml : c.maxLocals = 3 := hml0
  have hown : s.vm.findClass "java/lang/AbstractStringBuilder" = some m.cls := findClass_of_methodNamed Bd.named
  have hnm := (name_of_methodNamed Bd.named Bd.method).1
  have X0 : Stand p l e ({ frames := 0, cells := 0, slots := 0, locals := 0 } : Room) s m #[(.ref sb), (.int nn)] below meth c s₁ [] 0 0 := Stand.of_body Bd
  have e0 : s₁.heap = h0 := by rw [← hh, Bd.state]; rfl
  have N0 := Fr.nil n0
  have K0 : Keep h0 h0 [] := Keep.refl _ _
  refine own_go (S' := s₁.setTop (mkF m 0 #[.val (.ref sb), .val (.int nn), .unset] [])) (fun tq kq => castTop (own_ef_rmEns m sb bv kb cs nn) kq) ?_
  have lt1 : @LT.lt Nat _ sb h0.size := Pm0.lt
  have lt2 : @LT.lt Nat _ bv h0.size := Pm2.lt
  refine own_aln X0 hx 1 (hb hby own_d24_0) rfl rfl rfl ?_
  refine own_gF X0 hx hZ hown (host := "") (Or.inl (hw _ (own_mi 124 rfl))) Via.refl e0 Pm0 4 (hb hby own_d24_1) rfl ?_
  intro T3 X3 e3
  refine own_alen X3 hx hZ e3 Pm2 5 (hb hby own_d24_4) rfl ?_
  refine own_aln X3 hx 6 (hb hby own_d24_5) rfl rfl rfl ?_
  refine own_gF X3 hx hZ hown (host := "") (Or.inl (hw _ (own_mi 126 rfl))) Via.refl e3 Pm1 9 (hb hby own_d24_6) rfl ?_
  intro T4 X4 e4
  refine own_ishr X4 hx 10 (hb hby own_d24_9) rfl ?_
  rw [own_shr0]
  show own_Rn p e below _ (T4.setTop (mkF m 10 #[.val (.ref sb), .val (.int nn), .unset] [(.int (16 : Int32))]))
  refine own_isn X4 hx #[.val (.ref sb), .val (.int nn), .val (.int (16 : Int32))] 11 (hb hby own_d24_10) rfl rfl ?_
  refine own_iln X4 hx 12 (hb hby own_d24_11) rfl rfl ?_
  refine own_iln X4 hx 13 (hb hby own_d24_12) rfl rfl ?_
  refine own_isub X4 hx 14 (hb hby own_d24_13) rfl ?_
  refine own_ifY X4 hx 38 (hb hby own_d24_14) ((if0 _ _).trans (flt (hn : ¬ ((0 : Int32) < (nn - (16 : Int32))))).2.2.2) (by decide) (by decide) ?_
  exact own_ret X4 (v := none) (fun _ => rfl) (fun fs hr => X4.returnOut hx Bd.returns (hb hby own_d24_38) hr) (by rw [e4]; exact ⟨rfl, N0, rfl⟩) (by decide) (by decide)
theorem own_ef_rmGB (m : MethodId) (st : Addr) (t : Addr) (kt : ClassId) (ds : List Int32) (bv : Addr) (kb : ClassId) (cs : List Int32) (es : List Int32) (G1 : Int32) : entryFrame m #[(.ref st), (.ref bv), (.int (Int32.ofNat cs.length)), (.int (0 : Int32))] 4 = mkF m 0 #[.val (.ref st), .val (.ref bv), .val (.int (Int32.ofNat cs.length)), .val (.int (0 : Int32))] [] := by first | (simp [entryFrame, mkF, argsToLocals, Value.category]; done) | rfl
theorem own_d27_0 : decode jdk_42_method_147_code 0 = .ok (.aload_n 0, 1) := by decide +kernel
theorem own_d27_1 : decode jdk_42_method_147_code 1 = .ok (.invokevirtual 335, 3) := by decide +kernel
theorem own_d27_4 : decode jdk_42_method_147_code 4 = .ok (.iload_n 3, 1) := by decide +kernel
theorem own_d27_5 : decode jdk_42_method_147_code 5 = .ok (.if_icmp .ne 23, 3) := by decide +kernel
theorem own_d27_8 : decode jdk_42_method_147_code 8 = .ok (.aload_n 0, 1) := by decide +kernel
theorem own_d27_9 : decode jdk_42_method_147_code 9 = .ok (.getfield 9, 3) := by decide +kernel
theorem own_d27_12 : decode jdk_42_method_147_code 12 = .ok (.iconst 0, 1) := by decide +kernel
theorem own_d27_13 : decode jdk_42_method_147_code 13 = .ok (.aload_n 1, 1) := by decide +kernel
theorem own_d27_14 : decode jdk_42_method_147_code 14 = .ok (.iload_n 2, 1) := by decide +kernel
theorem own_d27_15 : decode jdk_42_method_147_code 15 = .ok (.iload_n 3, 1) := by decide +kernel
theorem own_d27_16 : decode jdk_42_method_147_code 16 = .ok (.ishl, 1) := by decide +kernel
theorem own_d27_17 : decode jdk_42_method_147_code 17 = .ok (.aload_n 0, 1) := by decide +kernel
theorem own_d27_18 : decode jdk_42_method_147_code 18 = .ok (.getfield 9, 3) := by decide +kernel
theorem own_d27_21 : decode jdk_42_method_147_code 21 = .ok (.arraylength, 1) := by decide +kernel
theorem own_d27_22 : decode jdk_42_method_147_code 22 = .ok (.invokestatic 212, 3) := by decide +kernel
theorem own_d27_25 : decode jdk_42_method_147_code 25 = .ok (.goto 18, 3) := by decide +kernel
theorem own_d27_43 : decode jdk_42_method_147_code 43 = .ok (.return_, 1) := by decide +kernel
def Q_rmGB (Z : State) (st : Addr) (t : Addr) (kt : ClassId) (ds : List Int32) (bv : Addr) (kb : ClassId) (cs : List Int32) (es : List Int32) (G1 : Int32) (h0 : Heap) (n0 : Nat) (vq : Option Value) (hhq : Heap) (Lq : List Loc) : Prop := vq = none ∧ Fr n0 Lq ∧ Keep h0 hhq [bv] ∧ Arv Z hhq bv kb .byte (16 : Int32) (own_bs es) (.int 0)
set_option maxRecDepth 65536 in
set_option maxHeartbeats 40000000 in
theorem rmGB (l : Launch) (Z : State) (a0 : Array Value) (hw : ∀ d ∈ tables_1, d.before a0 Z = true) (ws : List Jvm.Cond) (st : Addr) (t : Addr) (kt : ClassId) (ds : List Int32) (bv : Addr) (kb : ClassId) (cs : List Int32) (es : List Int32) (G1 : Int32) (h0 : Heap) (n0 : Nat) (Z0 : n0 ≤ h0.size) (Pm0 : Exa Z h0 st "java/lang/String") (Pm1 : Fld Z h0 st "java/lang/String" "value" "[B" (.ref t)) (Pm2 : Fld Z h0 st "java/lang/String" "coder" "B" (.int (0 : Int32))) (Pm3 : Arv Z h0 t kt .byte (Int32.ofNat ds.length) (own_bs ds) (.int 0)) (Pm4 : Arv Z h0 bv kb .byte (16 : Int32) (own_bs cs) (.int 0)) (hes : (es = cs ++ ds)) (h15 : (es.length ≤ 15)) (ntb : (t ≠ bv)) (gbv : n0 ≤ bv) (O2 : Sta Z Z.heap "java/lang/String" "COMPACT_STRINGS" "Z" (.int G1)) (P5 : (¬ (G1 = (0 : Int32)))) (X00 : Old Z n0 h0) :
    MetFree l (⟨"java/lang/String", "getBytes", "([BIB)V"⟩ : MethodName) (head1 (Jvm.Cond.code (⟨"java/lang/String", "getBytes", "([BIB)V"⟩ : MethodName) jdk_42_method_147_code 4 none :: ws) ({ frames := 1, cells := 0, slots := 0, locals := 27 } : Room)) (fun aq U => aq = #[(.ref st), (.ref bv), (.int (Int32.ofNat cs.length)), (.int (0 : Int32))] ∧ Z.Warmed39 U.vm ∧ U.heap = h0) (fun _ _ _ _ _ => True) (fun _ U oq U' => ∃ vq Lq, oq = .returned vq ∧ Q_rmGB Z st t kt ds bv kb cs es G1 h0 n0 vq U'.heap Lq ∧ FrameEnd U oq U' Lq ({ frames := 1, cells := 0, slots := 0, locals := 27 } : Room).cells ({ frames := 1, cells := 0, slots := 0, locals := 27 } : Room).slots) := by
  refine MetFree.of_bodySF (plainFor_of_name own_pn_java_lang_String) hisR ?_
  intro p e s m args below meth c s₁ Bd hml0 hP hK
  obtain ⟨rfl, hZ, hh⟩ := hP
  have hx := Bd.exec
  have hby := Bd.bytes
  have hml : c.maxLocals = 4 := hml0
  have hown : s.vm.findClass "java/lang/String" = some m.cls := findClass_of_methodNamed Bd.named
  have hnm := (name_of_methodNamed Bd.named Bd.method).1
  have X0 : Stand p l e ({ frames := 1, cells := 0, slots := 0, locals := 27 } : Room) s m #[(.ref st), (.ref bv), (.int (Int32.ofNat cs.length)), (.int (0 : Int32))] below meth c s₁ [] 0 0 := Stand.of_body Bd
  have e0 : s₁.heap = h0 := by rw [← hh, Bd.state]; rfl
  have N0 := Fr.nil n0
  have K0 : Keep h0 h0 [bv] := Keep.refl _ _
  refine own_go (S' := s₁.setTop (mkF m 0 #[.val (.ref st), .val (.ref bv), .val (.int (Int32.ofNat cs.length)), .val (.int (0 : Int32))] [])) (fun tq kq => castTop (own_ef_rmGB m st t kt ds bv kb cs es G1) kq) ?_
  have lt1 : @LT.lt Nat _ st h0.size := Pm0.lt
  have lt2 : @LT.lt Nat _ t h0.size := Pm3.lt
  have lt3 : @LT.lt Nat _ bv h0.size := Pm4.lt
  have hl : cs.length + ds.length ≤ 15 := by rw [hes, List.length_append] at h15; exact h15
  refine own_aln X0 hx 1 (hb hby own_d27_0) rfl rfl rfl ?_
  have Zn4 : n0 ≤ h0.size := (Nat.le_trans Z0 (Nat.le_refl _))
  refine own_cV X0 hx hZ (y := (⟨"java/lang/String", "coder", "()B"⟩ : MethodName)) (z := (⟨"java/lang/String", "coder", "()B"⟩ : MethodName)) hown (hw _ (own_mi 146 rfl)) (hw _ (own_mi 147 rfl)) (notFace_of_selects (args := #[]) (mvT hZ (hw _ (own_mi 149 rfl)))) (hw _ (own_mi 149 rfl)) (hw _ (own_mi 148 rfl)) (hw _ (own_mi 150 rfl)) (hw _ (own_mi 2 rfl)) (by decide) (rmCoder l Z a0 hw [] (st) (G1) h0 n0 Zn4 Pm2 (O2) (P5) X00) Pm0 e0 [] [] rfl (by rw [hml]; rfl) (lenOf own_pd_2829B rfl) rfl 0 (Nat.le_of_eq rfl) (by decide) (by decide) (by decide : 0 + 0 ≤ _) (by decide : 0 + 0 ≤ _) 4 (hb hby own_d27_1) rfl 0 0 rfl rfl ?_
  intro rv4 T4 Lc4 X4 hQ4
  obtain ⟨rfl, Nq4, eh4⟩ := hQ4
  have N4 := Fr.app N0 Nq4
  show own_Rn p e below _ (T4.setTop (mkF m 4 #[.val (.ref st), .val (.ref bv), .val (.int (Int32.ofNat cs.length)), .val (.int (0 : Int32))] [(.int (0 : Int32))]))
  refine own_iln X4 hx 5 (hb hby own_d27_4) rfl rfl ?_
  refine own_icN X4 hx 8 (hb hby own_d27_5) rfl (teq ((by decide : (0 : Int32) = (0 : Int32)) : (0 : Int32) = (0 : Int32))).2 ?_
  refine own_aln X4 hx 9 (hb hby own_d27_8) rfl rfl rfl ?_
  refine own_gF X4 hx hZ hown (host := "") (Or.inl (hw _ (own_mi 28 rfl))) Via.refl eh4 Pm1 12 (hb hby own_d27_9) rfl ?_
  intro T5 X5 e5
  refine own_ic X5 hx (0 : Int32) 13 (hb hby own_d27_12) rfl rfl ?_
  refine own_aln X5 hx 14 (hb hby own_d27_13) rfl rfl rfl ?_
  refine own_iln X5 hx 15 (hb hby own_d27_14) rfl rfl ?_
  refine own_iln X5 hx 16 (hb hby own_d27_15) rfl rfl ?_
  refine own_ishl X5 hx 17 (hb hby own_d27_16) rfl ?_
  rw [own_shl0]
  show own_Rn p e below _ (T5.setTop (mkF m 17 #[.val (.ref st), .val (.ref bv), .val (.int (Int32.ofNat cs.length)), .val (.int (0 : Int32))] [(.int (Int32.ofNat cs.length)), (.ref bv), (.int (0 : Int32)), (.ref t)]))
  refine own_aln X5 hx 18 (hb hby own_d27_17) rfl rfl rfl ?_
  refine own_gF X5 hx hZ hown (host := "") (Or.inl (hw _ (own_mi 28 rfl))) Via.refl e5 Pm1 21 (hb hby own_d27_18) rfl ?_
  intro T6 X6 e6
  refine own_alen X6 hx hZ e6 Pm3 22 (hb hby own_d27_21) rfl ?_
  have Vp : Arv Z h0 bv kb .byte (16 : Int32) (own_bs cs ++ List.replicate (16 - cs.length) (.int 0)) (.int 0) := Pm4.pad (pad_rep (own_bs cs) (.int 0) (16 - cs.length))
  obtain ⟨T7, h7, L7, X7, e7, N7, Kc7, Ac7, st7⟩ := cpA X6 hx hZ hown (hw _ (own_mi 174 rfl)) (hw _ (own_mi 177 rfl)) (hw _ (own_mi 175 rfl)) (hw _ (own_mi 176 rfl)) e6 Pm3 Vp (sp := (0 : Int32)) (dp := (Int32.ofNat cs.length)) (nn := (Int32.ofNat ds.length)) (us := (own_bs ds)) (Or.inl ⟨rfl, rfl⟩) (by decide) (own_nneg (by omega)) (own_nneg (by omega)) (by rw [own_clampN (by omega)]; exact Nat.le_of_eq (Nat.zero_add _)) (by rw [own_clampN (by omega), own_clampN (by omega)]; show _ ≤ 16; omega) (own_us ds (by omega)) (by rw [own_clampN (by omega), own_clampN (by omega), List.length_append, own_bs_len, List.length_replicate]; omega) N4 gbv (g := (mkF m 22 #[.val (.ref st), .val (.ref bv), .val (.int (Int32.ofNat cs.length)), .val (.int (0 : Int32))] [(.int (Int32.ofNat ds.length)), (.int (Int32.ofNat cs.length)), (.ref bv), (.int (0 : Int32)), (.ref t)])) rfl (by rw [hml]; rfl) rfl (hb hby own_d27_22) (by decide) (W := 0) (by show 2 * 0 + _ ≤ _; exact Nat.le_of_eq rfl) (by decide)
  refine own_go st7 ?_
  have sz8 : h0.size ≤ h7.size := Kc7.1
  have K8 := K0.trans Kc7 (allS (Or.inl (List.mem_of_getElem? (i := 0) rfl)) all0)
  have V7 : Arv Z h7 bv kb .byte (16 : Int32) (own_bs es) (.int 0) := own_cat hes ⟨by omega, by omega⟩ (by omega) rfl rfl Ac7
  show own_Rn p e below _ (T7.setTop (mkF m 25 #[.val (.ref st), .val (.ref bv), .val (.int (Int32.ofNat cs.length)), .val (.int (0 : Int32))] []))
  refine own_gt X7 hx 43 (hb hby own_d27_25) (by decide) (by decide) ?_
  exact own_ret X7 (v := none) (fun _ => rfl) (fun fs hr => X7.returnOut hx Bd.returns (hb hby own_d27_43) hr) (by rw [e7]; exact ⟨rfl, N7, K8, V7⟩) (by decide) (by decide)
theorem own_ef_rmPSA (m : MethodId) (sb : Addr) (st : Addr) (t : Addr) (kt : ClassId) (ds : List Int32) (bv : Addr) (kb : ClassId) (cs : List Int32) (es : List Int32) (G1 : Int32) : entryFrame m #[(.ref sb), (.int (Int32.ofNat cs.length)), (.ref st)] 3 = mkF m 0 #[.val (.ref sb), .val (.int (Int32.ofNat cs.length)), .val (.ref st)] [] := by first | (simp [entryFrame, mkF, argsToLocals, Value.category]; done) | rfl
theorem own_d25_0 : decode jdk_68_method_73_code 0 = .ok (.aload_n 0, 1) := by decide +kernel
theorem own_d25_1 : decode jdk_68_method_73_code 1 = .ok (.aload_n 2, 1) := by decide +kernel
theorem own_d25_2 : decode jdk_68_method_73_code 2 = .ok (.invokevirtual 397, 3) := by decide +kernel
theorem own_pd_28Ljava2flang2fString3b29V : parseMethodDescriptor "(Ljava/lang/String;)V" = some ⟨[(.object "java/lang/String")], none⟩ := by decide +kernel
theorem own_d25_5 : decode jdk_68_method_73_code 5 = .ok (.aload_n 2, 1) := by decide +kernel
theorem own_d25_6 : decode jdk_68_method_73_code 6 = .ok (.aload_n 0, 1) := by decide +kernel
theorem own_d25_7 : decode jdk_68_method_73_code 7 = .ok (.getfield 15, 3) := by decide +kernel
theorem own_d25_10 : decode jdk_68_method_73_code 10 = .ok (.iload_n 1, 1) := by decide +kernel
theorem own_d25_11 : decode jdk_68_method_73_code 11 = .ok (.aload_n 0, 1) := by decide +kernel
theorem own_d25_12 : decode jdk_68_method_73_code 12 = .ok (.getfield 22, 3) := by decide +kernel
theorem own_d25_15 : decode jdk_68_method_73_code 15 = .ok (.invokevirtual 399, 3) := by decide +kernel
theorem own_pd_285bBIB29V : parseMethodDescriptor "([BIB)V" = some ⟨[(.array .byte), .int, .byte], none⟩ := by decide +kernel
theorem own_d25_18 : decode jdk_68_method_73_code 18 = .ok (.return_, 1) := by decide +kernel
def Q_rmPSA (Z : State) (sb : Addr) (st : Addr) (t : Addr) (kt : ClassId) (ds : List Int32) (bv : Addr) (kb : ClassId) (cs : List Int32) (es : List Int32) (G1 : Int32) (h0 : Heap) (n0 : Nat) (vq : Option Value) (hhq : Heap) (Lq : List Loc) : Prop := vq = none ∧ Fr n0 Lq ∧ Keep h0 hhq [bv] ∧ Arv Z hhq bv kb .byte (16 : Int32) (own_bs es) (.int 0)
set_option maxRecDepth 65536 in
set_option maxHeartbeats 40000000 in
theorem rmPSA (l : Launch) (Z : State) (a0 : Array Value) (hw : ∀ d ∈ tables_1, d.before a0 Z = true) (ws : List Jvm.Cond) (sb : Addr) (st : Addr) (t : Addr) (kt : ClassId) (ds : List Int32) (bv : Addr) (kb : ClassId) (cs : List Int32) (es : List Int32) (G1 : Int32) (h0 : Heap) (n0 : Nat) (Z0 : n0 ≤ h0.size) (Pm0 : Exa Z h0 st "java/lang/String") (Pm1 : Fld Z h0 st "java/lang/String" "value" "[B" (.ref t)) (Pm2 : Fld Z h0 st "java/lang/String" "coder" "B" (.int (0 : Int32))) (Pm3 : Arv Z h0 t kt .byte (Int32.ofNat ds.length) (own_bs ds) (.int 0)) (Pm4 : Exa Z h0 sb "java/lang/StringBuilder") (Pm5 : Fld Z h0 sb "java/lang/AbstractStringBuilder" "value" "[B" (.ref bv)) (Pm6 : Fld Z h0 sb "java/lang/AbstractStringBuilder" "coder" "B" (.int (0 : Int32))) (Pm7 : Arv Z h0 bv kb .byte (16 : Int32) (own_bs cs) (.int 0)) (hes : (es = cs ++ ds)) (h15 : (es.length ≤ 15)) (ntb : (t ≠ bv)) (gbv : n0 ≤ bv) (O2 : Sta Z Z.heap "java/lang/String" "COMPACT_STRINGS" "Z" (.int G1)) (P5 : (¬ (G1 = (0 : Int32)))) (X00 : Old Z n0 h0) :
    MetFree l (⟨"java/lang/AbstractStringBuilder", "putStringAt", "(ILjava/lang/String;)V"⟩ : MethodName) (head1 (Jvm.Cond.code (⟨"java/lang/AbstractStringBuilder", "putStringAt", "(ILjava/lang/String;)V"⟩ : MethodName) jdk_68_method_73_code 3 none :: ws) ({ frames := 2, cells := 0, slots := 0, locals := 42 } : Room)) (fun aq U => aq = #[(.ref sb), (.int (Int32.ofNat cs.length)), (.ref st)] ∧ Z.Warmed39 U.vm ∧ U.heap = h0) (fun _ _ _ _ _ => True) (fun _ U oq U' => ∃ vq Lq, oq = .returned vq ∧ Q_rmPSA Z sb st t kt ds bv kb cs es G1 h0 n0 vq U'.heap Lq ∧ FrameEnd U oq U' Lq ({ frames := 2, cells := 0, slots := 0, locals := 42 } : Room).cells ({ frames := 2, cells := 0, slots := 0, locals := 42 } : Room).slots) := by
  refine MetFree.of_bodySF (plainFor_of_name own_pn_java_lang_AbstractStringBuilder) hisR ?_
  intro p e s m args below meth c s₁ Bd hml0 hP hK
  obtain ⟨rfl, hZ, hh⟩ := hP
  have hx := Bd.exec
  have hby := Bd.bytes
  have hml : c.maxLocals = 3 := hml0
  have hown : s.vm.findClass "java/lang/AbstractStringBuilder" = some m.cls := findClass_of_methodNamed Bd.named
  have hnm := (name_of_methodNamed Bd.named Bd.method).1
  have X0 : Stand p l e ({ frames := 2, cells := 0, slots := 0, locals := 42 } : Room) s m #[(.ref sb), (.int (Int32.ofNat cs.length)), (.ref st)] below meth c s₁ [] 0 0 := Stand.of_body Bd
  have e0 : s₁.heap = h0 := by rw [← hh, Bd.state]; rfl
  have N0 := Fr.nil n0
  have K0 : Keep h0 h0 [bv] := Keep.refl _ _
  refine own_go (S' := s₁.setTop (mkF m 0 #[.val (.ref sb), .val (.int (Int32.ofNat cs.length)), .val (.ref st)] [])) (fun tq kq => castTop (own_ef_rmPSA m sb st t kt ds bv kb cs es G1) kq) ?_
  have lt1 : @LT.lt Nat _ st h0.size := Pm0.lt
  have lt2 : @LT.lt Nat _ t h0.size := Pm3.lt
  have lt3 : @LT.lt Nat _ sb h0.size := Pm4.lt
  have lt4 : @LT.lt Nat _ bv h0.size := Pm7.lt
  refine own_aln X0 hx 1 (hb hby own_d25_0) rfl rfl rfl ?_
  refine own_aln X0 hx 2 (hb hby own_d25_1) rfl rfl rfl ?_
  have Zn5 : n0 ≤ h0.size := (Nat.le_trans Z0 (Nat.le_refl _))
  refine own_cP X0 hx hZ (y := (⟨"java/lang/AbstractStringBuilder", "inflateIfNeededFor", "(Ljava/lang/String;)V"⟩ : MethodName)) hown (hw _ (own_mi 163 rfl)) (hw _ (own_mi 164 rfl)) (own_selP (hw _ (own_mi 166 rfl)) (hw _ (own_mi 165 rfl)) (hw _ (own_mi 164 rfl)) (by decide)) (hw _ (own_mi 165 rfl)) (hw _ (own_mi 167 rfl)) (hw _ (own_mi 120 rfl)) (by decide) (rmInf l Z a0 hw [] (sb) (st) (G1) h0 n0 Zn5 Pm6 Pm0 Pm2 (O2) (P5) X00) Pm4 e0 [(.ref st)] [] rfl (by rw [hml]; rfl) (lenOf own_pd_28Ljava2flang2fString3b29V rfl) rfl 0 (Nat.le_of_eq rfl) (by decide) (by decide) (by decide : 0 + 0 ≤ _) (by decide : 0 + 0 ≤ _) 5 (hb hby own_d25_2) rfl 0 0 rfl rfl ?_
  intro rv5 T5 Lc5 X5 hQ5
  obtain ⟨rfl, Nq5, eh5⟩ := hQ5
  have N5 := Fr.app N0 Nq5
  show own_Rn p e below _ (T5.setTop (mkF m 5 #[.val (.ref sb), .val (.int (Int32.ofNat cs.length)), .val (.ref st)] []))
  refine own_aln X5 hx 6 (hb hby own_d25_5) rfl rfl rfl ?_
  refine own_aln X5 hx 7 (hb hby own_d25_6) rfl rfl rfl ?_
  refine own_gF X5 hx hZ hown (host := "") (Or.inl (hw _ (own_mi 124 rfl))) Via.refl eh5 Pm5 10 (hb hby own_d25_7) rfl ?_
  intro T6 X6 e6
  refine own_iln X6 hx 11 (hb hby own_d25_10) rfl rfl ?_
  refine own_aln X6 hx 12 (hb hby own_d25_11) rfl rfl rfl ?_
  refine own_gF X6 hx hZ hown (host := "") (Or.inl (hw _ (own_mi 126 rfl))) Via.refl e6 Pm6 15 (hb hby own_d25_12) rfl ?_
  intro T7 X7 e7
  have Zn8 : n0 ≤ h0.size := (Nat.le_trans Z0 (Nat.le_refl _))
  refine own_cV X7 hx hZ (y := (⟨"java/lang/String", "getBytes", "([BIB)V"⟩ : MethodName)) (z := (⟨"java/lang/String", "getBytes", "([BIB)V"⟩ : MethodName)) hown (hw _ (own_mi 169 rfl)) (hw _ (own_mi 170 rfl)) (notFace_of_selects (args := #[]) (mvT hZ (hw _ (own_mi 172 rfl)))) (hw _ (own_mi 172 rfl)) (hw _ (own_mi 171 rfl)) (hw _ (own_mi 173 rfl)) (hw _ (own_mi 2 rfl)) (by decide) (rmGB l Z a0 hw [] (st) (t) (kt) (ds) (bv) (kb) (cs) (es) (G1) h0 n0 Zn8 Pm0 Pm1 Pm2 Pm3 Pm7 (hes) (h15) (ntb) gbv (O2) (P5) X00) Pm0 e7 [(.ref bv), (.int (Int32.ofNat cs.length)), (.int (0 : Int32))] [] rfl (by rw [hml]; rfl) (lenOf own_pd_285bBIB29V rfl) rfl 0 (Nat.le_of_eq rfl) (by decide) (by decide) (by decide : 0 + 0 ≤ _) (by decide : 0 + 0 ≤ _) 18 (hb hby own_d25_15) rfl 0 0 rfl rfl ?_
  intro rv8 T8 Lc8 X8 hQ8
  obtain ⟨rfl, Nq8, Kq8, G0_8⟩ := hQ8
  have N8 := Fr.app N5 Nq8
  have sz9 : h0.size ≤ T8.heap.size := Kq8.1
  have K9 := K0.trans Kq8 (allS (Or.inl (List.mem_of_getElem? (i := 0) rfl)) all0)
  show own_Rn p e below _ (T8.setTop (mkF m 18 #[.val (.ref sb), .val (.int (Int32.ofNat cs.length)), .val (.ref st)] []))
  exact own_ret X8 (v := none) (fun _ => rfl) (fun fs hr => X8.returnOut hx Bd.returns (hb hby own_d25_18) hr) (⟨rfl, N8, K9, G0_8⟩) (by decide) (by decide)
theorem own_ef_rmAA (m : MethodId) (sb : Addr) (st : Addr) (t : Addr) (kt : ClassId) (ds : List Int32) (bv : Addr) (kb : ClassId) (cs : List Int32) (es : List Int32) (G1 : Int32) : entryFrame m #[(.ref sb), (.ref st)] 3 = mkF m 0 #[.val (.ref sb), .val (.ref st), .unset] [] := by first | (simp [entryFrame, mkF, argsToLocals, Value.category]; done) | rfl
theorem own_d21_0 : decode jdk_68_method_22_code 0 = .ok (.aload_n 1, 1) := by decide +kernel
theorem own_d21_1 : decode jdk_68_method_22_code 1 = .ok (.ifnonnull 8, 3) := by decide +kernel
theorem own_d21_9 : decode jdk_68_method_22_code 9 = .ok (.aload_n 1, 1) := by decide +kernel
theorem own_d21_10 : decode jdk_68_method_22_code 10 = .ok (.invokevirtual 32, 3) := by decide +kernel
theorem own_pd_2829I : parseMethodDescriptor "()I" = some ⟨[], some .int⟩ := by decide +kernel
theorem own_d21_13 : decode jdk_68_method_22_code 13 = .ok (.istore_n 2, 1) := by decide +kernel
theorem own_d21_14 : decode jdk_68_method_22_code 14 = .ok (.aload_n 0, 1) := by decide +kernel
theorem own_d21_15 : decode jdk_68_method_22_code 15 = .ok (.aload_n 0, 1) := by decide +kernel
theorem own_d21_16 : decode jdk_68_method_22_code 16 = .ok (.getfield 79, 3) := by decide +kernel
theorem own_d21_19 : decode jdk_68_method_22_code 19 = .ok (.iload_n 2, 1) := by decide +kernel
theorem own_d21_20 : decode jdk_68_method_22_code 20 = .ok (.iadd, 1) := by decide +kernel
theorem own_d21_21 : decode jdk_68_method_22_code 21 = .ok (.invokevirtual 100, 3) := by decide +kernel
theorem own_d21_24 : decode jdk_68_method_22_code 24 = .ok (.aload_n 0, 1) := by decide +kernel
theorem own_d21_25 : decode jdk_68_method_22_code 25 = .ok (.aload_n 0, 1) := by decide +kernel
theorem own_d21_26 : decode jdk_68_method_22_code 26 = .ok (.getfield 79, 3) := by decide +kernel
theorem own_d21_29 : decode jdk_68_method_22_code 29 = .ok (.aload_n 1, 1) := by decide +kernel
theorem own_d21_30 : decode jdk_68_method_22_code 30 = .ok (.invokevirtual 208, 3) := by decide +kernel
theorem own_pd_28ILjava2flang2fString3b29V : parseMethodDescriptor "(ILjava/lang/String;)V" = some ⟨[.int, (.object "java/lang/String")], none⟩ := by decide +kernel
theorem own_d21_33 : decode jdk_68_method_22_code 33 = .ok (.aload_n 0, 1) := by decide +kernel
theorem own_d21_34 : decode jdk_68_method_22_code 34 = .ok (.dup, 1) := by decide +kernel
theorem own_d21_35 : decode jdk_68_method_22_code 35 = .ok (.getfield 79, 3) := by decide +kernel
theorem own_d21_38 : decode jdk_68_method_22_code 38 = .ok (.iload_n 2, 1) := by decide +kernel
theorem own_d21_39 : decode jdk_68_method_22_code 39 = .ok (.iadd, 1) := by decide +kernel
theorem own_d21_40 : decode jdk_68_method_22_code 40 = .ok (.putfield 79, 3) := by decide +kernel
theorem own_d21_43 : decode jdk_68_method_22_code 43 = .ok (.aload_n 0, 1) := by decide +kernel
theorem own_d21_44 : decode jdk_68_method_22_code 44 = .ok (.areturn, 1) := by decide +kernel
def Q_rmAA (Z : State) (sb : Addr) (st : Addr) (t : Addr) (kt : ClassId) (ds : List Int32) (bv : Addr) (kb : ClassId) (cs : List Int32) (es : List Int32) (G1 : Int32) (h0 : Heap) (n0 : Nat) (vq : Option Value) (hhq : Heap) (Lq : List Loc) : Prop := vq = some (.ref sb) ∧ Fr n0 Lq ∧ Keep h0 hhq [sb, bv] ∧ Fld Z hhq sb "java/lang/AbstractStringBuilder" "value" "[B" (.ref bv) ∧ Fld Z hhq sb "java/lang/AbstractStringBuilder" "coder" "B" (.int (0 : Int32)) ∧ Fld Z hhq sb "java/lang/AbstractStringBuilder" "count" "I" (.int (Int32.ofNat es.length)) ∧ Arv Z hhq bv kb .byte (16 : Int32) (own_bs es) (.int 0)
set_option maxRecDepth 65536 in
set_option maxHeartbeats 40000000 in
theorem rmAA (l : Launch) (Z : State) (a0 : Array Value) (hw : ∀ d ∈ tables_1, d.before a0 Z = true) (ws : List Jvm.Cond) (sb : Addr) (st : Addr) (t : Addr) (kt : ClassId) (ds : List Int32) (bv : Addr) (kb : ClassId) (cs : List Int32) (es : List Int32) (G1 : Int32) (h0 : Heap) (n0 : Nat) (Z0 : n0 ≤ h0.size) (Pm0 : Exa Z h0 st "java/lang/String") (Pm1 : Fld Z h0 st "java/lang/String" "value" "[B" (.ref t)) (Pm2 : Fld Z h0 st "java/lang/String" "coder" "B" (.int (0 : Int32))) (Pm3 : Arv Z h0 t kt .byte (Int32.ofNat ds.length) (own_bs ds) (.int 0)) (Pm4 : Exa Z h0 sb "java/lang/StringBuilder") (Pm5 : Fld Z h0 sb "java/lang/AbstractStringBuilder" "value" "[B" (.ref bv)) (Pm6 : Fld Z h0 sb "java/lang/AbstractStringBuilder" "coder" "B" (.int (0 : Int32))) (Pm7 : Arv Z h0 bv kb .byte (16 : Int32) (own_bs cs) (.int 0)) (Pm8 : Fld Z h0 sb "java/lang/AbstractStringBuilder" "count" "I" (.int (Int32.ofNat cs.length))) (hes : (es = cs ++ ds)) (h15 : (es.length ≤ 15)) (ntb : (t ≠ bv)) (gbv : n0 ≤ bv) (gsb : n0 ≤ sb) (O2 : Sta Z Z.heap "java/lang/String" "COMPACT_STRINGS" "Z" (.int G1)) (P5 : (¬ (G1 = (0 : Int32)))) (X00 : Old Z n0 h0) :
    MetFree l (⟨"java/lang/AbstractStringBuilder", "append", "(Ljava/lang/String;)Ljava/lang/AbstractStringBuilder;"⟩ : MethodName) (head1 (Jvm.Cond.code (⟨"java/lang/AbstractStringBuilder", "append", "(Ljava/lang/String;)Ljava/lang/AbstractStringBuilder;"⟩ : MethodName) jdk_68_method_22_code 3 (some (.object "java/lang/AbstractStringBuilder")) :: ws) ({ frames := 3, cells := 0, slots := 0, locals := 56 } : Room)) (fun aq U => aq = #[(.ref sb), (.ref st)] ∧ Z.Warmed39 U.vm ∧ U.heap = h0) (fun _ _ _ _ _ => True) (fun _ U oq U' => ∃ vq Lq, oq = .returned vq ∧ Q_rmAA Z sb st t kt ds bv kb cs es G1 h0 n0 vq U'.heap Lq ∧ FrameEnd U oq U' Lq ({ frames := 3, cells := 0, slots := 0, locals := 56 } : Room).cells ({ frames := 3, cells := 0, slots := 0, locals := 56 } : Room).slots) := by
  refine MetFree.of_bodySF (plainFor_of_name own_pn_java_lang_AbstractStringBuilder) hisR ?_
  intro p e s m args below meth c s₁ Bd hml0 hP hK
  obtain ⟨rfl, hZ, hh⟩ := hP
  have hx := Bd.exec
  have hby := Bd.bytes
  have hml : c.maxLocals = 3 := hml0
  have hown : s.vm.findClass "java/lang/AbstractStringBuilder" = some m.cls := findClass_of_methodNamed Bd.named
  have hnm := (name_of_methodNamed Bd.named Bd.method).1
  have X0 : Stand p l e ({ frames := 3, cells := 0, slots := 0, locals := 56 } : Room) s m #[(.ref sb), (.ref st)] below meth c s₁ [] 0 0 := Stand.of_body Bd
  have e0 : s₁.heap = h0 := by rw [← hh, Bd.state]; rfl
  have N0 := Fr.nil n0
  have K0 : Keep h0 h0 [sb, bv] := Keep.refl _ _
  refine own_go (S' := s₁.setTop (mkF m 0 #[.val (.ref sb), .val (.ref st), .unset] [])) (fun tq kq => castTop (own_ef_rmAA m sb st t kt ds bv kb cs es G1) kq) ?_
  have lt1 : @LT.lt Nat _ st h0.size := Pm0.lt
  have lt2 : @LT.lt Nat _ t h0.size := Pm3.lt
  have lt3 : @LT.lt Nat _ sb h0.size := Pm4.lt
  have lt4 : @LT.lt Nat _ bv h0.size := Pm7.lt
  refine own_aln X0 hx 1 (hb hby own_d21_0) rfl rfl rfl ?_
  refine own_go (fun tq kq => XS.ifnonnullYes X0.here hx rfl (pc0 := 1) (pc' := 9) rfl (hb hby own_d21_1) rfl (by decide) (by decide) kq) ?_
  show own_Rn p e below _ (s₁.setTop (mkF m 9 #[.val (.ref sb), .val (.ref st), .unset] []))
  refine own_aln X0 hx 10 (hb hby own_d21_9) rfl rfl rfl ?_
  have Zn5 : n0 ≤ h0.size := (Nat.le_trans Z0 (Nat.le_refl _))
  refine own_cV X0 hx hZ (y := (⟨"java/lang/String", "length", "()I"⟩ : MethodName)) (z := (⟨"java/lang/String", "length", "()I"⟩ : MethodName)) hown (hw _ (own_mi 141 rfl)) (hw _ (own_mi 142 rfl)) (notFace_of_selects (args := #[]) (mvT hZ (hw _ (own_mi 144 rfl)))) (hw _ (own_mi 144 rfl)) (hw _ (own_mi 143 rfl)) (hw _ (own_mi 145 rfl)) (hw _ (own_mi 2 rfl)) (by decide) (rmLen l Z a0 hw [] (st) (t) (kt) (ds) (G1) h0 n0 Zn5 Pm0 Pm1 Pm2 Pm3 (O2) (P5) X00) Pm0 e0 [] [] rfl (by rw [hml]; rfl) (lenOf own_pd_2829I rfl) rfl 0 (Nat.le_of_eq rfl) (by decide) (by decide) (by decide : 0 + 0 ≤ _) (by decide : 0 + 0 ≤ _) 13 (hb hby own_d21_10) rfl 0 0 rfl rfl ?_
  intro rv5 T5 Lc5 X5 hQ5
  obtain ⟨rfl, Nq5, eh5⟩ := hQ5
  have N5 := Fr.app N0 Nq5
  show own_Rn p e below _ (T5.setTop (mkF m 13 #[.val (.ref sb), .val (.ref st), .unset] [(.int (Int32.ofNat ds.length))]))
  refine own_isn X5 hx #[.val (.ref sb), .val (.ref st), .val (.int (Int32.ofNat ds.length))] 14 (hb hby own_d21_13) rfl rfl ?_
  refine own_aln X5 hx 15 (hb hby own_d21_14) rfl rfl rfl ?_
  refine own_aln X5 hx 16 (hb hby own_d21_15) rfl rfl rfl ?_
  refine own_gF X5 hx hZ hown (host := "") (Or.inl (hw _ (own_mi 151 rfl))) Via.refl eh5 Pm8 19 (hb hby own_d21_16) rfl ?_
  intro T6 X6 e6
  refine own_iln X6 hx 20 (hb hby own_d21_19) rfl rfl ?_
  refine own_iadd X6 hx 21 (hb hby own_d21_20) rfl ?_
  have hl : cs.length + ds.length ≤ 15 := by rw [hes, List.length_append] at h15; exact h15
  have hsum : Int32.ofNat cs.length + Int32.ofNat ds.length = Int32.ofNat es.length := by rw [hes, List.length_append]; exact (own_ofNat_add _ _).symm
  rw [hsum]
  show own_Rn p e below _ (T6.setTop (mkF m 21 #[.val (.ref sb), .val (.ref st), .val (.int (Int32.ofNat ds.length))] [(.int (Int32.ofNat es.length)), (.ref sb)]))
  have Zn7 : n0 ≤ h0.size := (Nat.le_trans Z0 (Nat.le_refl _))
  refine own_cP X6 hx hZ (y := (⟨"java/lang/AbstractStringBuilder", "ensureCapacityInternal", "(I)V"⟩ : MethodName)) hown (hw _ (own_mi 153 rfl)) (hw _ (own_mi 154 rfl)) (own_selP (hw _ (own_mi 156 rfl)) (hw _ (own_mi 155 rfl)) (hw _ (own_mi 154 rfl)) (by decide)) (hw _ (own_mi 155 rfl)) (hw _ (own_mi 157 rfl)) (hw _ (own_mi 120 rfl)) (by decide) (rmEns l Z a0 hw [] (sb) (bv) (kb) (cs) ((Int32.ofNat es.length)) h0 n0 Zn7 Pm5 Pm6 Pm7 (own_le15 h15)) Pm4 e6 [(.int (Int32.ofNat es.length))] [] rfl (by rw [hml]; rfl) (lenOf own_pd_28I29V rfl) rfl 0 (Nat.le_of_eq rfl) (by decide) (by decide) (by decide : 0 + 0 ≤ _) (by decide : 0 + 0 ≤ _) 24 (hb hby own_d21_21) rfl 0 0 rfl rfl ?_
  intro rv7 T7 Lc7 X7 hQ7
  obtain ⟨rfl, Nq7, eh7⟩ := hQ7
  have N7 := Fr.app N5 Nq7
  show own_Rn p e below _ (T7.setTop (mkF m 24 #[.val (.ref sb), .val (.ref st), .val (.int (Int32.ofNat ds.length))] []))
  refine own_aln X7 hx 25 (hb hby own_d21_24) rfl rfl rfl ?_
  refine own_aln X7 hx 26 (hb hby own_d21_25) rfl rfl rfl ?_
  refine own_gF X7 hx hZ hown (host := "") (Or.inl (hw _ (own_mi 151 rfl))) Via.refl eh7 Pm8 29 (hb hby own_d21_26) rfl ?_
  intro T8 X8 e8
  refine own_aln X8 hx 30 (hb hby own_d21_29) rfl rfl rfl ?_
  have Zn9 : n0 ≤ h0.size := (Nat.le_trans Z0 (Nat.le_refl _))
  refine own_cP X8 hx hZ (y := (⟨"java/lang/AbstractStringBuilder", "putStringAt", "(ILjava/lang/String;)V"⟩ : MethodName)) hown (hw _ (own_mi 158 rfl)) (hw _ (own_mi 159 rfl)) (own_selP (hw _ (own_mi 161 rfl)) (hw _ (own_mi 160 rfl)) (hw _ (own_mi 159 rfl)) (by decide)) (hw _ (own_mi 160 rfl)) (hw _ (own_mi 162 rfl)) (hw _ (own_mi 120 rfl)) (by decide) (rmPSA l Z a0 hw [] (sb) (st) (t) (kt) (ds) (bv) (kb) (cs) (es) (G1) h0 n0 Zn9 Pm0 Pm1 Pm2 Pm3 Pm4 Pm5 Pm6 Pm7 (hes) (h15) (ntb) gbv (O2) (P5) X00) Pm4 e8 [(.int (Int32.ofNat cs.length)), (.ref st)] [] rfl (by rw [hml]; rfl) (lenOf own_pd_28ILjava2flang2fString3b29V rfl) rfl 0 (Nat.le_of_eq rfl) (by decide) (by decide) (by decide : 0 + 0 ≤ _) (by decide : 0 + 0 ≤ _) 33 (hb hby own_d21_30) rfl 0 0 rfl rfl ?_
  intro rv9 T9 Lc9 X9 hQ9
  obtain ⟨rfl, Nq9, Kq9, G0_9⟩ := hQ9
  have N9 := Fr.app N7 Nq9
  have sz10 : h0.size ≤ T9.heap.size := Kq9.1
  have K10 := K0.trans Kq9 (allS (Or.inl (List.mem_of_getElem? (i := 1) rfl)) all0)
  show own_Rn p e below _ (T9.setTop (mkF m 33 #[.val (.ref sb), .val (.ref st), .val (.int (Int32.ofNat ds.length))] []))
  refine own_aln X9 hx 34 (hb hby own_d21_33) rfl rfl rfl ?_
  refine own_dp X9 hx 35 (hb hby own_d21_34) rfl rfl ?_
  have ne11 : sb ≠ bv := Exa.neArv (Pm4.keep Kq9) G0_9 (hw _ (own_mi 111 rfl))
  have F12 : Fld Z T9.heap sb "java/lang/AbstractStringBuilder" "count" "I" (.int (Int32.ofNat cs.length)) := (Pm8.keep Kq9 (ninS ne11 nin0))
  refine own_gF X9 hx hZ hown (host := "") (Or.inl (hw _ (own_mi 151 rfl))) Via.refl rfl F12 38 (hb hby own_d21_35) rfl ?_
  intro T13 X13 e13
  refine own_iln X13 hx 39 (hb hby own_d21_38) rfl rfl ?_
  refine own_iadd X13 hx 40 (hb hby own_d21_39) rfl ?_
  rw [hsum]
  show own_Rn p e below _ (T13.setTop (mkF m 40 #[.val (.ref sb), .val (.ref st), .val (.int (Int32.ofNat ds.length))] [(.int (Int32.ofNat es.length)), (.ref sb)]))
  have F14 : Exa Z T9.heap sb "java/lang/StringBuilder" := (Pm4.keep Kq9)
  obtain ⟨T15, h15, X15, e15, W15, st15⟩ := putF X13 hx hZ hown (host := "") (Or.inl (hw _ (own_mi 151 rfl))) Via.refl e13 F12 F14 (Or.inl (hw _ (own_mi 152 rfl))) (hw _ (own_mi 111 rfl)) (ty := .int) own_fd_I rfl rfl (g := (mkF m 40 #[.val (.ref sb), .val (.ref st), .val (.int (Int32.ofNat ds.length))] [(.int (Int32.ofNat es.length)), (.ref sb)])) rfl rfl (hb hby own_d21_40)
  refine own_go st15 ?_
  have N15 := Fr.snoc X15 N9 gsb
  have Fw15 := F12.same W15
  have sz16 : T9.heap.size ≤ h15.size := Nat.le_of_eq (Wr.size W15).symm
  have K16 := K10.wr W15 (Or.inl (List.mem_of_getElem? (i := 0) rfl))
  show own_Rn p e below _ (T15.setTop (mkF m 43 #[.val (.ref sb), .val (.ref st), .val (.int (Int32.ofNat ds.length))] []))
  refine own_aln X15 hx 44 (hb hby own_d21_43) rfl rfl rfl ?_
  have F17 : Fld Z h15 sb "java/lang/AbstractStringBuilder" "value" "[B" (.ref bv) := ((Pm5.keep Kq9 (ninS ne11 nin0)).other W15 (Or.inr (slot_ne (Or.inl (hw _ (own_mi 125 rfl))) (Or.inl (hw _ (own_mi 152 rfl))) (by decide) (t := (.array .byte)) (t' := .int) own_fd_5bB own_fd_I)))
  have F18 : Fld Z h15 sb "java/lang/AbstractStringBuilder" "coder" "B" (.int (0 : Int32)) := ((Pm6.keep Kq9 (ninS ne11 nin0)).other W15 (Or.inr (slot_ne (Or.inl (hw _ (own_mi 127 rfl))) (Or.inl (hw _ (own_mi 152 rfl))) (by decide) (t := .byte) (t' := .int) own_fd_B own_fd_I)))
  have F19 : Arv Z h15 bv kb .byte (16 : Int32) (own_bs es) (.int 0) := (G0_9.other W15 (Ne.symm ne11))
  exact own_ret X15 (v := some (.ref sb)) (fun h => by rw [Bd.returns] at h; cases h) (fun fs hr => X15.areturnOut hx rfl Bd.returns rfl (hb hby own_d21_44) hr) (by rw [e15]; exact ⟨rfl, N15, K16, F17, F18, Fw15, F19⟩) (by decide) (by decide)
theorem own_ef_rmSA (m : MethodId) (sb : Addr) (st : Addr) (t : Addr) (kt : ClassId) (ds : List Int32) (bv : Addr) (kb : ClassId) (cs : List Int32) (es : List Int32) (G1 : Int32) : entryFrame m #[(.ref sb), (.ref st)] 2 = mkF m 0 #[.val (.ref sb), .val (.ref st)] [] := by first | (simp [entryFrame, mkF, argsToLocals, Value.category]; done) | rfl
theorem own_d20_0 : decode jdk_67_method_7_code 0 = .ok (.aload_n 0, 1) := by decide +kernel
theorem own_d20_1 : decode jdk_67_method_7_code 1 = .ok (.aload_n 1, 1) := by decide +kernel
theorem own_d20_2 : decode jdk_67_method_7_code 2 = .ok (.invokespecial 29, 3) := by decide +kernel
theorem own_pd_28Ljava2flang2fString3b29Ljava2flang2fAbstractStringBuilder3b : parseMethodDescriptor "(Ljava/lang/String;)Ljava/lang/AbstractStringBuilder;" = some ⟨[(.object "java/lang/String")], some (.object "java/lang/AbstractStringBuilder")⟩ := by decide +kernel
theorem own_d20_5 : decode jdk_67_method_7_code 5 = .ok (.pop, 1) := by decide +kernel
theorem own_d20_6 : decode jdk_67_method_7_code 6 = .ok (.aload_n 0, 1) := by decide +kernel
theorem own_d20_7 : decode jdk_67_method_7_code 7 = .ok (.areturn, 1) := by decide +kernel
def Q_rmSA (Z : State) (sb : Addr) (st : Addr) (t : Addr) (kt : ClassId) (ds : List Int32) (bv : Addr) (kb : ClassId) (cs : List Int32) (es : List Int32) (G1 : Int32) (h0 : Heap) (n0 : Nat) (vq : Option Value) (hhq : Heap) (Lq : List Loc) : Prop := vq = some (.ref sb) ∧ Fr n0 Lq ∧ Keep h0 hhq [sb, bv] ∧ Fld Z hhq sb "java/lang/AbstractStringBuilder" "value" "[B" (.ref bv) ∧ Fld Z hhq sb "java/lang/AbstractStringBuilder" "coder" "B" (.int (0 : Int32)) ∧ Fld Z hhq sb "java/lang/AbstractStringBuilder" "count" "I" (.int (Int32.ofNat es.length)) ∧ Arv Z hhq bv kb .byte (16 : Int32) (own_bs es) (.int 0)
set_option maxRecDepth 65536 in
set_option maxHeartbeats 40000000 in
theorem rmSA (l : Launch) (Z : State) (a0 : Array Value) (hw : ∀ d ∈ tables_1, d.before a0 Z = true) (ws : List Jvm.Cond) (sb : Addr) (st : Addr) (t : Addr) (kt : ClassId) (ds : List Int32) (bv : Addr) (kb : ClassId) (cs : List Int32) (es : List Int32) (G1 : Int32) (h0 : Heap) (n0 : Nat) (Z0 : n0 ≤ h0.size) (Pm0 : Exa Z h0 st "java/lang/String") (Pm1 : Fld Z h0 st "java/lang/String" "value" "[B" (.ref t)) (Pm2 : Fld Z h0 st "java/lang/String" "coder" "B" (.int (0 : Int32))) (Pm3 : Arv Z h0 t kt .byte (Int32.ofNat ds.length) (own_bs ds) (.int 0)) (Pm4 : Exa Z h0 sb "java/lang/StringBuilder") (Pm5 : Fld Z h0 sb "java/lang/AbstractStringBuilder" "value" "[B" (.ref bv)) (Pm6 : Fld Z h0 sb "java/lang/AbstractStringBuilder" "coder" "B" (.int (0 : Int32))) (Pm7 : Arv Z h0 bv kb .byte (16 : Int32) (own_bs cs) (.int 0)) (Pm8 : Fld Z h0 sb "java/lang/AbstractStringBuilder" "count" "I" (.int (Int32.ofNat cs.length))) (hes : (es = cs ++ ds)) (h15 : (es.length ≤ 15)) (ntb : (t ≠ bv)) (gbv : n0 ≤ bv) (gsb : n0 ≤ sb) (O2 : Sta Z Z.heap "java/lang/String" "COMPACT_STRINGS" "Z" (.int G1)) (P5 : (¬ (G1 = (0 : Int32)))) (X00 : Old Z n0 h0) :
    MetFree l (⟨"java/lang/StringBuilder", "append", "(Ljava/lang/String;)Ljava/lang/StringBuilder;"⟩ : MethodName) (head1 (Jvm.Cond.code (⟨"java/lang/StringBuilder", "append", "(Ljava/lang/String;)Ljava/lang/StringBuilder;"⟩ : MethodName) jdk_67_method_7_code 2 (some (.object "java/lang/StringBuilder")) :: ws) ({ frames := 4, cells := 0, slots := 0, locals := 70 } : Room)) (fun aq U => aq = #[(.ref sb), (.ref st)] ∧ Z.Warmed39 U.vm ∧ U.heap = h0) (fun _ _ _ _ _ => True) (fun _ U oq U' => ∃ vq Lq, oq = .returned vq ∧ Q_rmSA Z sb st t kt ds bv kb cs es G1 h0 n0 vq U'.heap Lq ∧ FrameEnd U oq U' Lq ({ frames := 4, cells := 0, slots := 0, locals := 70 } : Room).cells ({ frames := 4, cells := 0, slots := 0, locals := 70 } : Room).slots) := by
  refine MetFree.of_bodySF (plainFor_of_name own_pn_java_lang_StringBuilder) hisR ?_
  intro p e s m args below meth c s₁ Bd hml0 hP hK
  obtain ⟨rfl, hZ, hh⟩ := hP
  have hx := Bd.exec
  have hby := Bd.bytes
  have hml : c.maxLocals = 2 := hml0
  have hown : s.vm.findClass "java/lang/StringBuilder" = some m.cls := findClass_of_methodNamed Bd.named
  have hnm := (name_of_methodNamed Bd.named Bd.method).1
  have X0 : Stand p l e ({ frames := 4, cells := 0, slots := 0, locals := 70 } : Room) s m #[(.ref sb), (.ref st)] below meth c s₁ [] 0 0 := Stand.of_body Bd
  have e0 : s₁.heap = h0 := by rw [← hh, Bd.state]; rfl
  have N0 := Fr.nil n0
  have K0 : Keep h0 h0 [sb, bv] := Keep.refl _ _
  refine own_go (S' := s₁.setTop (mkF m 0 #[.val (.ref sb), .val (.ref st)] [])) (fun tq kq => castTop (own_ef_rmSA m sb st t kt ds bv kb cs es G1) kq) ?_
  have lt1 : @LT.lt Nat _ st h0.size := Pm0.lt
  have lt2 : @LT.lt Nat _ t h0.size := Pm3.lt
  have lt3 : @LT.lt Nat _ sb h0.size := Pm4.lt
  have lt4 : @LT.lt Nat _ bv h0.size := Pm7.lt
  refine own_aln X0 hx 1 (hb hby own_d20_0) rfl rfl rfl ?_
  refine own_aln X0 hx 2 (hb hby own_d20_1) rfl rfl rfl ?_
  have Zn5 : n0 ≤ h0.size := (Nat.le_trans Z0 (Nat.le_refl _))
  obtain ⟨rv5, _, ⟨T5, L5, k5, n5⟩, -, X5, ⟨Lc5, hQ5, l5, y5, z5⟩, st5⟩ := superBack X0 hx hZ (y := (⟨"java/lang/AbstractStringBuilder", "append", "(Ljava/lang/String;)Ljava/lang/AbstractStringBuilder;"⟩ : MethodName)) hown (hw _ (own_mi 136 rfl)) (own_sameM (hw _ (own_mi 137 rfl)) (hw _ (own_mi 156 rfl)) rfl (by decide)) (hw _ (own_mi 137 rfl)) (hw _ (own_mi 138 rfl)) (by decide) (backOf (W := 0) (rmAA l Z a0 hw [] (sb) (st) (t) (kt) (ds) (bv) (kb) (cs) (es) (G1) h0 n0 Zn5 Pm0 Pm1 Pm2 Pm3 Pm4 Pm5 Pm6 Pm7 Pm8 (hes) (h15) (ntb) gbv gsb (O2) (P5) X00) hZ (hw _ (own_mi 140 rfl)) (hw _ (own_mi 120 rfl)) (by decide) (by decide)) e0 (Ins.self Pm4) (g := (mkF m 2 #[.val (.ref sb), .val (.ref st)] [(.ref st), (.ref sb)])) rfl (by rw [hml]; rfl) (hw _ (own_mi 140 rfl)) (argsL := [(.ref st)]) (rest := []) (lenOf own_pd_28Ljava2flang2fString3b29Ljava2flang2fAbstractStringBuilder3b rfl) rfl (by show 2 * 0 + _ ≤ _; exact Nat.le_of_eq rfl) (show decode c.code 2 = .ok (.invokespecial 29, 3) from (hb hby own_d20_2)) (fun _ _ => ⟨rfl, e0, (by decide : 0 + 0 ≤ _), (by decide : 0 + 0 ≤ _)⟩)
  dsimp only [Pt.U, Pt.locs, Pt.cells, Pt.slots] at X5 l5 y5 z5 st5 hQ5
  subst l5 y5 z5
  obtain ⟨rfl, Nq5, Kq5, G0_5, G1_5, G2_5, G3_5⟩ := hQ5
  have N5 := Fr.app N0 Nq5
  have sz6 : h0.size ≤ T5.heap.size := Kq5.1
  have K6 := K0.trans Kq5 (allS (Or.inl (List.mem_of_getElem? (i := 0) rfl)) (allS (Or.inl (List.mem_of_getElem? (i := 1) rfl)) all0))
  refine own_go (fun tq kq => st5.trans kq) ?_
  show own_Rn p e below _ (T5.setTop (mkF m 5 #[.val (.ref sb), .val (.ref st)] [(.ref sb)]))
  refine own_go (fun tq kq => XS.pop X5.here hx rfl (hb hby own_d20_5) rfl rfl kq) ?_
  show own_Rn p e below _ (T5.setTop (mkF m 6 #[.val (.ref sb), .val (.ref st)] []))
  refine own_aln X5 hx 7 (hb hby own_d20_6) rfl rfl rfl ?_
  exact own_ret X5 (v := some (.ref sb)) (fun h => by rw [Bd.returns] at h; cases h) (fun fs hr => X5.areturnOut hx rfl Bd.returns rfl (hb hby own_d20_7) hr) (⟨rfl, N5, K6, G0_5, G1_5, G2_5, G3_5⟩) (by decide) (by decide)
theorem own_ef_rmGV (m : MethodId) (sb : Addr) (bv : Addr) : entryFrame m #[(.ref sb)] 1 = mkF m 0 #[.val (.ref sb)] [] := by first | (simp [entryFrame, mkF, argsToLocals, Value.category]; done) | rfl
theorem own_d31_0 : decode jdk_68_method_64_code 0 = .ok (.aload_n 0, 1) := by decide +kernel
theorem own_d31_1 : decode jdk_68_method_64_code 1 = .ok (.getfield 15, 3) := by decide +kernel
theorem own_d31_4 : decode jdk_68_method_64_code 4 = .ok (.areturn, 1) := by decide +kernel
def Q_rmGV (Z : State) (sb : Addr) (bv : Addr) (h0 : Heap) (n0 : Nat) (vq : Option Value) (hhq : Heap) (Lq : List Loc) : Prop := vq = some (.ref bv) ∧ Fr n0 Lq ∧ hhq = h0
set_option maxRecDepth 65536 in
set_option maxHeartbeats 40000000 in
theorem rmGV (l : Launch) (Z : State) (a0 : Array Value) (hw : ∀ d ∈ tables_1, d.before a0 Z = true) (ws : List Jvm.Cond) (sb : Addr) (bv : Addr) (h0 : Heap) (n0 : Nat) (Z0 : n0 ≤ h0.size) (Pm0 : Fld Z h0 sb "java/lang/AbstractStringBuilder" "value" "[B" (.ref bv)) :
    MetFree l (⟨"java/lang/AbstractStringBuilder", "getValue", "()[B"⟩ : MethodName) (head1 (Jvm.Cond.code (⟨"java/lang/AbstractStringBuilder", "getValue", "()[B"⟩ : MethodName) jdk_68_method_64_code 1 (some (.array .byte)) :: ws) ({ frames := 0, cells := 0, slots := 0, locals := 0 } : Room)) (fun aq U => aq = #[(.ref sb)] ∧ Z.Warmed39 U.vm ∧ U.heap = h0) (fun _ _ _ _ _ => True) (fun _ U oq U' => ∃ vq Lq, oq = .returned vq ∧ Q_rmGV Z sb bv h0 n0 vq U'.heap Lq ∧ FrameEnd U oq U' Lq ({ frames := 0, cells := 0, slots := 0, locals := 0 } : Room).cells ({ frames := 0, cells := 0, slots := 0, locals := 0 } : Room).slots) := by
  refine MetFree.of_bodySF (plainFor_of_name own_pn_java_lang_AbstractStringBuilder) hisR ?_
  intro p e s m args below meth c s₁ Bd hml0 hP hK
  obtain ⟨rfl, hZ, hh⟩ := hP
  have hx := Bd.exec
  have hby := Bd.bytes
  have hml : c.maxLocals = 1 := hml0
  have hown : s.vm.findClass "java/lang/AbstractStringBuilder" = some m.cls := findClass_of_methodNamed Bd.named
  have hnm := (name_of_methodNamed Bd.named Bd.method).1
  have X0 : Stand p l e ({ frames := 0, cells := 0, slots := 0, locals := 0 } : Room) s m #[(.ref sb)] below meth c s₁ [] 0 0 := Stand.of_body Bd
  have e0 : s₁.heap = h0 := by rw [← hh, Bd.state]; rfl
  have N0 := Fr.nil n0
  have K0 : Keep h0 h0 [] := Keep.refl _ _
  refine own_go (S' := s₁.setTop (mkF m 0 #[.val (.ref sb)] [])) (fun tq kq => castTop (own_ef_rmGV m sb bv) kq) ?_
  have lt1 : @LT.lt Nat _ sb h0.size := Pm0.lt
  refine own_aln X0 hx 1 (hb hby own_d31_0) rfl rfl rfl ?_
  refine own_gF X0 hx hZ hown (host := "") (Or.inl (hw _ (own_mi 124 rfl))) Via.refl e0 Pm0 4 (hb hby own_d31_1) rfl ?_
  intro T2 X2 e2
  exact own_ret X2 (v := some (.ref bv)) (fun h => by rw [Bd.returns] at h; cases h) (fun fs hr => X2.areturnOut hx rfl Bd.returns rfl (hb hby own_d31_4) hr) (by rw [e2]; exact ⟨rfl, N0, rfl⟩) (by decide) (by decide)
theorem own_ef_rmAL (m : MethodId) (sb : Addr) (nn : Int32) : entryFrame m #[(.ref sb)] 1 = mkF m 0 #[.val (.ref sb)] [] := by first | (simp [entryFrame, mkF, argsToLocals, Value.category]; done) | rfl
theorem own_d33_0 : decode jdk_68_method_6_code 0 = .ok (.aload_n 0, 1) := by decide +kernel
theorem own_d33_1 : decode jdk_68_method_6_code 1 = .ok (.getfield 79, 3) := by decide +kernel
theorem own_d33_4 : decode jdk_68_method_6_code 4 = .ok (.ireturn, 1) := by decide +kernel
def Q_rmAL (Z : State) (sb : Addr) (nn : Int32) (h0 : Heap) (n0 : Nat) (vq : Option Value) (hhq : Heap) (Lq : List Loc) : Prop := vq = some (.int nn) ∧ Fr n0 Lq ∧ hhq = h0
set_option maxRecDepth 65536 in
set_option maxHeartbeats 40000000 in
theorem rmAL (l : Launch) (Z : State) (a0 : Array Value) (hw : ∀ d ∈ tables_1, d.before a0 Z = true) (ws : List Jvm.Cond) (sb : Addr) (nn : Int32) (h0 : Heap) (n0 : Nat) (Z0 : n0 ≤ h0.size) (Pm0 : Fld Z h0 sb "java/lang/AbstractStringBuilder" "count" "I" (.int nn)) :
    MetFree l (⟨"java/lang/AbstractStringBuilder", "length", "()I"⟩ : MethodName) (head1 (Jvm.Cond.code (⟨"java/lang/AbstractStringBuilder", "length", "()I"⟩ : MethodName) jdk_68_method_6_code 1 (some .int) :: ws) ({ frames := 0, cells := 0, slots := 0, locals := 0 } : Room)) (fun aq U => aq = #[(.ref sb)] ∧ Z.Warmed39 U.vm ∧ U.heap = h0) (fun _ _ _ _ _ => True) (fun _ U oq U' => ∃ vq Lq, oq = .returned vq ∧ Q_rmAL Z sb nn h0 n0 vq U'.heap Lq ∧ FrameEnd U oq U' Lq ({ frames := 0, cells := 0, slots := 0, locals := 0 } : Room).cells ({ frames := 0, cells := 0, slots := 0, locals := 0 } : Room).slots) := by
  refine MetFree.of_bodySF (plainFor_of_name own_pn_java_lang_AbstractStringBuilder) hisR ?_
  intro p e s m args below meth c s₁ Bd hml0 hP hK
  obtain ⟨rfl, hZ, hh⟩ := hP
  have hx := Bd.exec
  have hby := Bd.bytes
  have hml : c.maxLocals = 1 := hml0
  have hown : s.vm.findClass "java/lang/AbstractStringBuilder" = some m.cls := findClass_of_methodNamed Bd.named
  have hnm := (name_of_methodNamed Bd.named Bd.method).1
  have X0 : Stand p l e ({ frames := 0, cells := 0, slots := 0, locals := 0 } : Room) s m #[(.ref sb)] below meth c s₁ [] 0 0 := Stand.of_body Bd
  have e0 : s₁.heap = h0 := by rw [← hh, Bd.state]; rfl
  have N0 := Fr.nil n0
  have K0 : Keep h0 h0 [] := Keep.refl _ _
  refine own_go (S' := s₁.setTop (mkF m 0 #[.val (.ref sb)] [])) (fun tq kq => castTop (own_ef_rmAL m sb nn) kq) ?_
  have lt1 : @LT.lt Nat _ sb h0.size := Pm0.lt
  refine own_aln X0 hx 1 (hb hby own_d33_0) rfl rfl rfl ?_
  refine own_gF X0 hx hZ hown (host := "") (Or.inl (hw _ (own_mi 151 rfl))) Via.refl e0 Pm0 4 (hb hby own_d33_1) rfl ?_
  intro T2 X2 e2
  exact own_ret X2 (v := some (.int nn)) (fun h => by rw [Bd.returns] at h; cases h) (fun fs hr => retI X2 hx Bd.returns (hb hby own_d33_4) hr) (by rw [e2]; exact ⟨rfl, N0, rfl⟩) (by decide) (by decide)
theorem own_ef_rmSL (m : MethodId) (sb : Addr) (nn : Int32) : entryFrame m #[(.ref sb)] 1 = mkF m 0 #[.val (.ref sb)] [] := by first | (simp [entryFrame, mkF, argsToLocals, Value.category]; done) | rfl
theorem own_d32_0 : decode jdk_67_method_93_code 0 = .ok (.aload_n 0, 1) := by decide +kernel
theorem own_d32_1 : decode jdk_67_method_93_code 1 = .ok (.invokespecial 343, 3) := by decide +kernel
theorem own_d32_4 : decode jdk_67_method_93_code 4 = .ok (.ireturn, 1) := by decide +kernel
def Q_rmSL (Z : State) (sb : Addr) (nn : Int32) (h0 : Heap) (n0 : Nat) (vq : Option Value) (hhq : Heap) (Lq : List Loc) : Prop := vq = some (.int nn) ∧ Fr n0 Lq ∧ hhq = h0
set_option maxRecDepth 65536 in
set_option maxHeartbeats 40000000 in
theorem rmSL (l : Launch) (Z : State) (a0 : Array Value) (hw : ∀ d ∈ tables_1, d.before a0 Z = true) (ws : List Jvm.Cond) (sb : Addr) (nn : Int32) (h0 : Heap) (n0 : Nat) (Z0 : n0 ≤ h0.size) (Pm0 : Exa Z h0 sb "java/lang/StringBuilder") (Pm1 : Fld Z h0 sb "java/lang/AbstractStringBuilder" "count" "I" (.int nn)) :
    MetFree l (⟨"java/lang/StringBuilder", "length", "()I"⟩ : MethodName) (head1 (Jvm.Cond.code (⟨"java/lang/StringBuilder", "length", "()I"⟩ : MethodName) jdk_67_method_93_code 1 (some .int) :: ws) ({ frames := 1, cells := 0, slots := 0, locals := 12 } : Room)) (fun aq U => aq = #[(.ref sb)] ∧ Z.Warmed39 U.vm ∧ U.heap = h0) (fun _ _ _ _ _ => True) (fun _ U oq U' => ∃ vq Lq, oq = .returned vq ∧ Q_rmSL Z sb nn h0 n0 vq U'.heap Lq ∧ FrameEnd U oq U' Lq ({ frames := 1, cells := 0, slots := 0, locals := 12 } : Room).cells ({ frames := 1, cells := 0, slots := 0, locals := 12 } : Room).slots) := by
  refine MetFree.of_bodySF (plainFor_of_name own_pn_java_lang_StringBuilder) hisR ?_
  intro p e s m args below meth c s₁ Bd hml0 hP hK
  obtain ⟨rfl, hZ, hh⟩ := hP
  have hx := Bd.exec
  have hby := Bd.bytes
  have hml : c.maxLocals = 1 := hml0
  have hown : s.vm.findClass "java/lang/StringBuilder" = some m.cls := findClass_of_methodNamed Bd.named
  have hnm := (name_of_methodNamed Bd.named Bd.method).1
  have X0 : Stand p l e ({ frames := 1, cells := 0, slots := 0, locals := 12 } : Room) s m #[(.ref sb)] below meth c s₁ [] 0 0 := Stand.of_body Bd
  have e0 : s₁.heap = h0 := by rw [← hh, Bd.state]; rfl
  have N0 := Fr.nil n0
  have K0 : Keep h0 h0 [] := Keep.refl _ _
  refine own_go (S' := s₁.setTop (mkF m 0 #[.val (.ref sb)] [])) (fun tq kq => castTop (own_ef_rmSL m sb nn) kq) ?_
  have lt1 : @LT.lt Nat _ sb h0.size := Pm0.lt
  refine own_aln X0 hx 1 (hb hby own_d32_0) rfl rfl rfl ?_
  have Zn2 : n0 ≤ h0.size := (Nat.le_trans Z0 (Nat.le_refl _))
  obtain ⟨rv2, _, ⟨T2, L2, k2, n2⟩, -, X2, ⟨Lc2, hQ2, l2, y2, z2⟩, st2⟩ := superBack X0 hx hZ (y := (⟨"java/lang/AbstractStringBuilder", "length", "()I"⟩ : MethodName)) hown (hw _ (own_mi 202 rfl)) (own_sameM (hw _ (own_mi 198 rfl)) (hw _ (own_mi 156 rfl)) rfl (by decide)) (hw _ (own_mi 198 rfl)) (hw _ (own_mi 138 rfl)) (by decide) (backOf (W := 0) (rmAL l Z a0 hw [] (sb) (nn) h0 n0 Zn2 Pm1) hZ (hw _ (own_mi 203 rfl)) (hw _ (own_mi 120 rfl)) (by decide) (by decide)) e0 (Ins.self Pm0) (g := (mkF m 1 #[.val (.ref sb)] [(.ref sb)])) rfl (by rw [hml]; rfl) (hw _ (own_mi 203 rfl)) (argsL := []) (rest := []) (lenOf own_pd_2829I rfl) rfl (by show 2 * 0 + _ ≤ _; exact Nat.le_of_eq rfl) (show decode c.code 1 = .ok (.invokespecial 343, 3) from (hb hby own_d32_1)) (fun _ _ => ⟨rfl, e0, (by decide : 0 + 0 ≤ _), (by decide : 0 + 0 ≤ _)⟩)
  dsimp only [Pt.U, Pt.locs, Pt.cells, Pt.slots] at X2 l2 y2 z2 st2 hQ2
  subst l2 y2 z2
  obtain ⟨rfl, Nq2, eh2⟩ := hQ2
  have N2 := Fr.app N0 Nq2
  refine own_go (fun tq kq => st2.trans kq) ?_
  show own_Rn p e below _ (T2.setTop (mkF m 4 #[.val (.ref sb)] [(.int nn)]))
  exact own_ret X2 (v := some (.int nn)) (fun h => by rw [Bd.returns] at h; cases h) (fun fs hr => retI X2 hx Bd.returns (hb hby own_d32_4) hr) (by rw [eh2]; exact ⟨rfl, N2, rfl⟩) (by decide) (by decide)
theorem own_ef_rmIL (m : MethodId) (sb : Addr) (G1 : Int32) : entryFrame m #[(.ref sb)] 1 = mkF m 0 #[.val (.ref sb)] [] := by first | (simp [entryFrame, mkF, argsToLocals, Value.category]; done) | rfl
theorem own_d34_0 : decode jdk_68_method_68_code 0 = .ok (.getstatic 18, 3) := by decide +kernel
theorem own_d34_3 : decode jdk_68_method_68_code 3 = .ok (.ifCond .eq 14, 3) := by decide +kernel
theorem own_d34_6 : decode jdk_68_method_68_code 6 = .ok (.aload_n 0, 1) := by decide +kernel
theorem own_d34_7 : decode jdk_68_method_68_code 7 = .ok (.getfield 22, 3) := by decide +kernel
theorem own_d34_10 : decode jdk_68_method_68_code 10 = .ok (.ifCond .ne 7, 3) := by decide +kernel
theorem own_d34_13 : decode jdk_68_method_68_code 13 = .ok (.iconst 1, 1) := by decide +kernel
theorem own_d34_14 : decode jdk_68_method_68_code 14 = .ok (.goto 4, 3) := by decide +kernel
theorem own_d34_18 : decode jdk_68_method_68_code 18 = .ok (.ireturn, 1) := by decide +kernel
def Q_rmIL (Z : State) (sb : Addr) (G1 : Int32) (h0 : Heap) (n0 : Nat) (vq : Option Value) (hhq : Heap) (Lq : List Loc) : Prop := vq = some (.int (1 : Int32)) ∧ Fr n0 Lq ∧ hhq = h0
set_option maxRecDepth 65536 in
set_option maxHeartbeats 40000000 in
theorem rmIL (l : Launch) (Z : State) (a0 : Array Value) (hw : ∀ d ∈ tables_1, d.before a0 Z = true) (ws : List Jvm.Cond) (sb : Addr) (G1 : Int32) (h0 : Heap) (n0 : Nat) (Z0 : n0 ≤ h0.size) (Pm0 : Fld Z h0 sb "java/lang/AbstractStringBuilder" "coder" "B" (.int (0 : Int32))) (O2 : Sta Z Z.heap "java/lang/String" "COMPACT_STRINGS" "Z" (.int G1)) (P5 : (¬ (G1 = (0 : Int32)))) (X00 : Old Z n0 h0) :
    MetFree l (⟨"java/lang/AbstractStringBuilder", "isLatin1", "()Z"⟩ : MethodName) (head1 (Jvm.Cond.code (⟨"java/lang/AbstractStringBuilder", "isLatin1", "()Z"⟩ : MethodName) jdk_68_method_68_code 1 (some .boolean) :: ws) ({ frames := 0, cells := 0, slots := 0, locals := 0 } : Room)) (fun aq U => aq = #[(.ref sb)] ∧ Z.Warmed39 U.vm ∧ U.heap = h0) (fun _ _ _ _ _ => True) (fun _ U oq U' => ∃ vq Lq, oq = .returned vq ∧ Q_rmIL Z sb G1 h0 n0 vq U'.heap Lq ∧ FrameEnd U oq U' Lq ({ frames := 0, cells := 0, slots := 0, locals := 0 } : Room).cells ({ frames := 0, cells := 0, slots := 0, locals := 0 } : Room).slots) := by
  refine MetFree.of_bodySF (plainFor_of_name own_pn_java_lang_AbstractStringBuilder) hisR ?_
  intro p e s m args below meth c s₁ Bd hml0 hP hK
  obtain ⟨rfl, hZ, hh⟩ := hP
  have hx := Bd.exec
  have hby := Bd.bytes
  have hml : c.maxLocals = 1 := hml0
  have hown : s.vm.findClass "java/lang/AbstractStringBuilder" = some m.cls := findClass_of_methodNamed Bd.named
  have hnm := (name_of_methodNamed Bd.named Bd.method).1
  have X0 : Stand p l e ({ frames := 0, cells := 0, slots := 0, locals := 0 } : Room) s m #[(.ref sb)] below meth c s₁ [] 0 0 := Stand.of_body Bd
  have e0 : s₁.heap = h0 := by rw [← hh, Bd.state]; rfl
  have N0 := Fr.nil n0
  have K0 : Keep h0 h0 [] := Keep.refl _ _
  refine own_go (S' := s₁.setTop (mkF m 0 #[.val (.ref sb)] [])) (fun tq kq => castTop (own_ef_rmIL m sb G1) kq) ?_
  have lt1 : @LT.lt Nat _ sb h0.size := Pm0.lt
  refine own_gS X0 hx hZ hown (host := "") (Or.inl (hw _ (own_mi 123 rfl))) Via.refl e0 (O2.ext X00.2) 3 (hb hby own_d34_0) rfl ?_
  intro T2 X2 e2
  refine own_ifN X2 hx 6 (hb hby own_d34_3) rfl ((if0 _ _).trans (feq (P5 : ¬ (G1 = (0 : Int32)))).1) ?_
  refine own_aln X2 hx 7 (hb hby own_d34_6) rfl rfl rfl ?_
  refine own_gF X2 hx hZ hown (host := "") (Or.inl (hw _ (own_mi 126 rfl))) Via.refl e2 Pm0 10 (hb hby own_d34_7) rfl ?_
  intro T3 X3 e3
  refine own_ifN X3 hx 13 (hb hby own_d34_10) rfl ((if0 _ _).trans (teq ((by decide : (0 : Int32) = (0 : Int32)) : (0 : Int32) = (0 : Int32))).2) ?_
  refine own_ic X3 hx (1 : Int32) 14 (hb hby own_d34_13) rfl rfl ?_
  refine own_gt X3 hx 18 (hb hby own_d34_14) (by decide) (by decide) ?_
  exact own_ret X3 (v := some (.int (nar .boolean (1 : Int32)))) (fun h => by rw [Bd.returns] at h; cases h) (fun fs hr => retN X3 hx (t := .boolean) Bd.returns (by simp) (hb hby own_d34_18) hr) (by rw [e3]; exact ⟨rfl, N0, rfl⟩) (by decide) (by decide)
theorem own_ef_rmCL (m : MethodId) (nn : Int32) : entryFrame m #[(.int (0 : Int32)), (.int nn)] 2 = mkF m 0 #[.val (.int (0 : Int32)), .val (.int nn)] [] := by first | (simp [entryFrame, mkF, argsToLocals, Value.category]; done) | rfl
theorem own_pn_java_util_Arrays : plainName "java/util/Arrays" = true := by first | (simp [plainName, overriddenIn]; done) | decide +kernel
theorem own_d37_0 : decode jdk_65_method_131_code 0 = .ok (.iload_n 1, 1) := by decide +kernel
theorem own_d37_1 : decode jdk_65_method_131_code 1 = .ok (.iload_n 0, 1) := by decide +kernel
theorem own_d37_2 : decode jdk_65_method_131_code 2 = .ok (.if_icmp .ge 35, 3) := by decide +kernel
theorem own_d37_37 : decode jdk_65_method_131_code 37 = .ok (.return_, 1) := by decide +kernel
def Q_rmCL (Z : State) (nn : Int32) (h0 : Heap) (n0 : Nat) (vq : Option Value) (hhq : Heap) (Lq : List Loc) : Prop := vq = none ∧ Fr n0 Lq ∧ hhq = h0
set_option maxRecDepth 65536 in
set_option maxHeartbeats 40000000 in
theorem rmCL (l : Launch) (Z : State) (a0 : Array Value) (hw : ∀ d ∈ tables_1, d.before a0 Z = true) (ws : List Jvm.Cond) (nn : Int32) (h0 : Heap) (n0 : Nat) (Z0 : n0 ≤ h0.size) (hn : (¬ nn < (0 : Int32))) :
    MetFree l (⟨"java/util/Arrays", "checkLength", "(II)V"⟩ : MethodName) (head1 (Jvm.Cond.code (⟨"java/util/Arrays", "checkLength", "(II)V"⟩ : MethodName) jdk_65_method_131_code 2 none :: ws) ({ frames := 0, cells := 0, slots := 0, locals := 0 } : Room)) (fun aq U => aq = #[(.int (0 : Int32)), (.int nn)] ∧ Z.Warmed39 U.vm ∧ U.heap = h0) (fun _ _ _ _ _ => True) (fun _ U oq U' => ∃ vq Lq, oq = .returned vq ∧ Q_rmCL Z nn h0 n0 vq U'.heap Lq ∧ FrameEnd U oq U' Lq ({ frames := 0, cells := 0, slots := 0, locals := 0 } : Room).cells ({ frames := 0, cells := 0, slots := 0, locals := 0 } : Room).slots) := by
  refine MetFree.of_bodySF (plainFor_of_name own_pn_java_util_Arrays) hisR ?_
  intro p e s m args below meth c s₁ Bd hml0 hP hK
  obtain ⟨rfl, hZ, hh⟩ := hP
  have hx := Bd.exec
  have hby := Bd.bytes
  have hml : c.maxLocals = 2 := hml0
  have hown : s.vm.findClass "java/util/Arrays" = some m.cls := findClass_of_methodNamed Bd.named
  have hnm := (name_of_methodNamed Bd.named Bd.method).1
  have X0 : Stand p l e ({ frames := 0, cells := 0, slots := 0, locals := 0 } : Room) s m #[(.int (0 : Int32)), (.int nn)] below meth c s₁ [] 0 0 := Stand.of_body Bd
  have e0 : s₁.heap = h0 := by rw [← hh, Bd.state]; rfl
  have N0 := Fr.nil n0
  have K0 : Keep h0 h0 [] := Keep.refl _ _
  refine own_go (S' := s₁.setTop (mkF m 0 #[.val (.int (0 : Int32)), .val (.int nn)] [])) (fun tq kq => castTop (own_ef_rmCL m nn) kq) ?_
  refine own_iln X0 hx 1 (hb hby own_d37_0) rfl rfl ?_
  refine own_iln X0 hx 2 (hb hby own_d37_1) rfl rfl ?_
  refine own_icY X0 hx 37 (hb hby own_d37_2) (flt (hn : ¬ (nn < (0 : Int32)))).2.1 (by decide) (by decide) ?_
  exact own_ret X0 (v := none) (fun _ => rfl) (fun fs hr => X0.returnOut hx Bd.returns (hb hby own_d37_37) hr) (by rw [e0]; exact ⟨rfl, N0, rfl⟩) (by decide) (by decide)
theorem own_ef_rmMin (m : MethodId) (xa : Int32) (xb : Int32) : entryFrame m #[(.int xa), (.int xb)] 2 = mkF m 0 #[.val (.int xa), .val (.int xb)] [] := by first | (simp [entryFrame, mkF, argsToLocals, Value.category]; done) | rfl
theorem own_d38_0 : decode jdk_29_method_69_code 0 = .ok (.iload_n 0, 1) := by decide +kernel
theorem own_d38_1 : decode jdk_29_method_69_code 1 = .ok (.iload_n 1, 1) := by decide +kernel
theorem own_d38_2 : decode jdk_29_method_69_code 2 = .ok (.if_icmp .gt 7, 3) := by decide +kernel
theorem own_d38_9 : decode jdk_29_method_69_code 9 = .ok (.iload_n 1, 1) := by decide +kernel
theorem own_d38_10 : decode jdk_29_method_69_code 10 = .ok (.ireturn, 1) := by decide +kernel
def Q_rmMin (Z : State) (xa : Int32) (xb : Int32) (h0 : Heap) (n0 : Nat) (vq : Option Value) (hhq : Heap) (Lq : List Loc) : Prop := vq = some (.int xb) ∧ Fr n0 Lq ∧ hhq = h0
set_option maxRecDepth 65536 in
set_option maxHeartbeats 40000000 in
theorem rmMin (l : Launch) (Z : State) (a0 : Array Value) (hw : ∀ d ∈ tables_1, d.before a0 Z = true) (ws : List Jvm.Cond) (xa : Int32) (xb : Int32) (h0 : Heap) (n0 : Nat) (Z0 : n0 ≤ h0.size) (hn : (xb < xa)) :
    MetFree l (⟨"java/lang/Math", "min", "(II)I"⟩ : MethodName) (head1 (Jvm.Cond.code (⟨"java/lang/Math", "min", "(II)I"⟩ : MethodName) jdk_29_method_69_code 2 (some .int) :: ws) ({ frames := 0, cells := 0, slots := 0, locals := 0 } : Room)) (fun aq U => aq = #[(.int xa), (.int xb)] ∧ Z.Warmed39 U.vm ∧ U.heap = h0) (fun _ _ _ _ _ => True) (fun _ U oq U' => ∃ vq Lq, oq = .returned vq ∧ Q_rmMin Z xa xb h0 n0 vq U'.heap Lq ∧ FrameEnd U oq U' Lq ({ frames := 0, cells := 0, slots := 0, locals := 0 } : Room).cells ({ frames := 0, cells := 0, slots := 0, locals := 0 } : Room).slots) := by
  refine MetFree.of_bodySF (Jvm.Free.JP.mathPlain rfl (by decide +kernel)) hisR ?_
  intro p e s m args below meth c s₁ Bd hml0 hP hK
  obtain ⟨rfl, hZ, hh⟩ := hP
  have hx := Bd.exec
  have hby := Bd.bytes
  have hml : c.maxLocals = 2 := hml0
  have hown : s.vm.findClass "java/lang/Math" = some m.cls := findClass_of_methodNamed Bd.named
  have hnm := (name_of_methodNamed Bd.named Bd.method).1
  have X0 : Stand p l e ({ frames := 0, cells := 0, slots := 0, locals := 0 } : Room) s m #[(.int xa), (.int xb)] below meth c s₁ [] 0 0 := Stand.of_body Bd
  have e0 : s₁.heap = h0 := by rw [← hh, Bd.state]; rfl
  have N0 := Fr.nil n0
  have K0 : Keep h0 h0 [] := Keep.refl _ _
  refine own_go (S' := s₁.setTop (mkF m 0 #[.val (.int xa), .val (.int xb)] [])) (fun tq kq => castTop (own_ef_rmMin m xa xb) kq) ?_
  refine own_iln X0 hx 1 (hb hby own_d38_0) rfl rfl ?_
  refine own_iln X0 hx 2 (hb hby own_d38_1) rfl rfl ?_
  refine own_icY X0 hx 9 (hb hby own_d38_2) (tlt (hn : xb < xa)).2.2.1 (by decide) (by decide) ?_
  refine own_iln X0 hx 10 (hb hby own_d38_9) rfl rfl ?_
  exact own_ret X0 (v := some (.int xb)) (fun h => by rw [Bd.returns] at h; cases h) (fun fs hr => retI X0 hx Bd.returns (hb hby own_d38_10) hr) (by rw [e0]; exact ⟨rfl, N0, rfl⟩) (by decide) (by decide)
theorem own_ef_rmCRB (m : MethodId) (bv : Addr) (kb : ClassId) (es : List Int32) : entryFrame m #[(.ref bv), (.int (0 : Int32)), (.int (Int32.ofNat es.length))] 5 = mkF m 0 #[.val (.ref bv), .val (.int (0 : Int32)), .val (.int (Int32.ofNat es.length)), .unset, .unset] [] := by first | (simp [entryFrame, mkF, argsToLocals, Value.category]; done) | rfl
theorem own_d36_0 : decode jdk_65_method_133_code 0 = .ok (.iload_n 1, 1) := by decide +kernel
theorem own_d36_1 : decode jdk_65_method_133_code 1 = .ok (.iload_n 2, 1) := by decide +kernel
theorem own_d36_2 : decode jdk_65_method_133_code 2 = .ok (.invokestatic 343, 3) := by decide +kernel
theorem own_pd_28II29V : parseMethodDescriptor "(II)V" = some ⟨[.int, .int], none⟩ := by decide +kernel
theorem own_d36_5 : decode jdk_65_method_133_code 5 = .ok (.iload_n 2, 1) := by decide +kernel
theorem own_d36_6 : decode jdk_65_method_133_code 6 = .ok (.iload_n 1, 1) := by decide +kernel
theorem own_d36_7 : decode jdk_65_method_133_code 7 = .ok (.isub, 1) := by decide +kernel
theorem own_d36_8 : decode jdk_65_method_133_code 8 = .ok (.istore_n 3, 1) := by decide +kernel
theorem own_d36_9 : decode jdk_65_method_133_code 9 = .ok (.iload_n 3, 1) := by decide +kernel
theorem own_d36_10 : decode jdk_65_method_133_code 10 = .ok (.newarray .byte, 2) := by decide +kernel
theorem own_d36_12 : decode jdk_65_method_133_code 12 = .ok (.astore 4, 2) := by decide +kernel
theorem own_d36_14 : decode jdk_65_method_133_code 14 = .ok (.aload_n 0, 1) := by decide +kernel
theorem own_d36_15 : decode jdk_65_method_133_code 15 = .ok (.iload_n 1, 1) := by decide +kernel
theorem own_d36_16 : decode jdk_65_method_133_code 16 = .ok (.aload 4, 2) := by decide +kernel
theorem own_d36_18 : decode jdk_65_method_133_code 18 = .ok (.iconst 0, 1) := by decide +kernel
theorem own_d36_19 : decode jdk_65_method_133_code 19 = .ok (.aload_n 0, 1) := by decide +kernel
theorem own_d36_20 : decode jdk_65_method_133_code 20 = .ok (.arraylength, 1) := by decide +kernel
theorem own_d36_21 : decode jdk_65_method_133_code 21 = .ok (.iload_n 1, 1) := by decide +kernel
theorem own_d36_22 : decode jdk_65_method_133_code 22 = .ok (.isub, 1) := by decide +kernel
theorem own_d36_23 : decode jdk_65_method_133_code 23 = .ok (.iload_n 3, 1) := by decide +kernel
theorem own_d36_24 : decode jdk_65_method_133_code 24 = .ok (.invokestatic 304, 3) := by decide +kernel
theorem own_pd_28II29I : parseMethodDescriptor "(II)I" = some ⟨[.int, .int], some .int⟩ := by decide +kernel
theorem own_d36_27 : decode jdk_65_method_133_code 27 = .ok (.invokestatic 150, 3) := by decide +kernel
theorem own_d36_30 : decode jdk_65_method_133_code 30 = .ok (.aload 4, 2) := by decide +kernel
theorem own_d36_32 : decode jdk_65_method_133_code 32 = .ok (.areturn, 1) := by decide +kernel
def Q_rmCRB (Z : State) (bv : Addr) (kb : ClassId) (es : List Int32) (h0 : Heap) (n0 : Nat) (vq : Option Value) (hhq : Heap) (Lq : List Loc) : Prop := ∃ (t : Addr), ∃ (kt : ClassId), vq = some (.ref t) ∧ Fr n0 Lq ∧ Keep h0 hhq [] ∧ h0.size ≤ t ∧ n0 ≤ t ∧ Arv Z hhq t kt .byte (Int32.ofNat es.length) (own_bs es) (.int 0)
set_option maxRecDepth 65536 in
set_option maxHeartbeats 40000000 in
theorem rmCRB (l : Launch) (Z : State) (a0 : Array Value) (hw : ∀ d ∈ tables_1, d.before a0 Z = true) (ws : List Jvm.Cond) (bv : Addr) (kb : ClassId) (es : List Int32) (h0 : Heap) (n0 : Nat) (Z0 : n0 ≤ h0.size) (Pm0 : Arv Z h0 bv kb .byte (16 : Int32) (own_bs es) (.int 0)) (h15 : (es.length ≤ 15)) :
    MetFree l (⟨"java/util/Arrays", "copyOfRangeByte", "([BII)[B"⟩ : MethodName) (head1 (Jvm.Cond.code (⟨"java/util/Arrays", "copyOfRangeByte", "([BII)[B"⟩ : MethodName) jdk_65_method_133_code 5 (some (.array .byte)) :: ws) ({ frames := 1, cells := 1, slots := 15, locals := 27 } : Room)) (fun aq U => aq = #[(.ref bv), (.int (0 : Int32)), (.int (Int32.ofNat es.length))] ∧ Z.Warmed39 U.vm ∧ U.heap = h0) (fun _ _ _ _ _ => True) (fun _ U oq U' => ∃ vq Lq, oq = .returned vq ∧ Q_rmCRB Z bv kb es h0 n0 vq U'.heap Lq ∧ FrameEnd U oq U' Lq ({ frames := 1, cells := 1, slots := 15, locals := 27 } : Room).cells ({ frames := 1, cells := 1, slots := 15, locals := 27 } : Room).slots) := by
  refine MetFree.of_bodySF (plainFor_of_name own_pn_java_util_Arrays) hisR ?_
  intro p e s m args below meth c s₁ Bd hml0 hP hK
  obtain ⟨rfl, hZ, hh⟩ := hP
  have hx := Bd.exec
  have hby := Bd.bytes
  have hml : c.maxLocals = 5 := hml0
  have hown : s.vm.findClass "java/util/Arrays" = some m.cls := findClass_of_methodNamed Bd.named
  have hnm := (name_of_methodNamed Bd.named Bd.method).1
  have X0 : Stand p l e ({ frames := 1, cells := 1, slots := 15, locals := 27 } : Room) s m #[(.ref bv), (.int (0 : Int32)), (.int (Int32.ofNat es.length))] below meth c s₁ [] 0 0 := Stand.of_body Bd
  have e0 : s₁.heap = h0 := by rw [← hh, Bd.state]; rfl
  have N0 := Fr.nil n0
  have K0 : Keep h0 h0 [] := Keep.refl _ _
  refine own_go (S' := s₁.setTop (mkF m 0 #[.val (.ref bv), .val (.int (0 : Int32)), .val (.int (Int32.ofNat es.length)), .unset, .unset] [])) (fun tq kq => castTop (own_ef_rmCRB m bv kb es) kq) ?_
  have lt1 : @LT.lt Nat _ bv h0.size := Pm0.lt
  refine own_iln X0 hx 1 (hb hby own_d36_0) rfl rfl ?_
  refine own_iln X0 hx 2 (hb hby own_d36_1) rfl rfl ?_
  have Zn2 : n0 ≤ h0.size := (Nat.le_trans Z0 (Nat.le_refl _))
  refine own_cS X0 hx hZ (y := (⟨"java/util/Arrays", "checkLength", "(II)V"⟩ : MethodName)) hown (hw _ (own_mi 216 rfl)) (hw _ (own_mi 217 rfl)) (hw _ (own_mi 211 rfl)) (hw _ (own_mi 218 rfl)) (by decide) (rmCL l Z a0 hw [] ((Int32.ofNat es.length)) h0 n0 Zn2 (own_nneg (by omega))) e0 [(.int (0 : Int32)), (.int (Int32.ofNat es.length))] [] rfl (by rw [hml]; rfl) (lenOf own_pd_28II29V rfl) rfl 0 (Nat.le_of_eq rfl) (by decide) (by decide) (by decide : 0 + 0 ≤ _) (by decide : 0 + 0 ≤ _) 5 (hb hby own_d36_2) rfl 0 0 rfl rfl ?_
  intro rv2 T2 Lc2 X2 hQ2
  obtain ⟨rfl, Nq2, eh2⟩ := hQ2
  have N2 := Fr.app N0 Nq2
  show own_Rn p e below _ (T2.setTop (mkF m 5 #[.val (.ref bv), .val (.int (0 : Int32)), .val (.int (Int32.ofNat es.length)), .unset, .unset] []))
  refine own_iln X2 hx 6 (hb hby own_d36_5) rfl rfl ?_
  refine own_iln X2 hx 7 (hb hby own_d36_6) rfl rfl ?_
  refine own_isub X2 hx 8 (hb hby own_d36_7) rfl ?_
  rw [Int32.sub_zero]
  show own_Rn p e below _ (T2.setTop (mkF m 8 #[.val (.ref bv), .val (.int (0 : Int32)), .val (.int (Int32.ofNat es.length)), .unset, .unset] [(.int (Int32.ofNat es.length))]))
  refine own_isn X2 hx #[.val (.ref bv), .val (.int (0 : Int32)), .val (.int (Int32.ofNat es.length)), .val (.int (Int32.ofNat es.length)), .unset] 9 (hb hby own_d36_8) rfl rfl ?_
  refine own_iln X2 hx 10 (hb hby own_d36_9) rfl rfl ?_
  obtain ⟨T3, h3, k3, X3, e3, E3, A3, st3⟩ := newP X2 hx hZ (hw _ (own_mi 19 rfl)) eh2 (g := (mkF m 10 #[.val (.ref bv), .val (.int (0 : Int32)), .val (.int (Int32.ofNat es.length)), .val (.int (Int32.ofNat es.length)), .unset] [(.int (Int32.ofNat es.length))])) rfl (hb hby own_d36_10) rfl (own_nneg (by omega)) (cap := 15) (by rw [own_clampN (by omega)]; exact h15) (by decide) (by decide) (by decide)
  obtain ⟨b3, g3⟩ : ∃ z, z = h0.size := ⟨_, rfl⟩
  rw [← g3] at A3 st3
  refine own_go st3 ?_
  have sz4 : h0.size ≤ h3.size := E3.1
  have K4 := K0.ext E3
  have gn3 : n0 ≤ b3 := (Nat.le_trans (Nat.le_trans Z0 (Nat.le_refl _)) (Nat.le_of_eq g3.symm))
  have V3 : Arv Z h3 b3 k3 .byte (Int32.ofNat es.length) [] (.int (0 : Int32)) := Arv.new A3 (own_nneg (by omega))
  have lt5 : @LT.lt Nat _ b3 h3.size := V3.lt
  show own_Rn p e below _ (T3.setTop (mkF m 12 #[.val (.ref bv), .val (.int (0 : Int32)), .val (.int (Int32.ofNat es.length)), .val (.int (Int32.ofNat es.length)), .unset] [(.ref b3)]))
  refine own_as X3 hx #[.val (.ref bv), .val (.int (0 : Int32)), .val (.int (Int32.ofNat es.length)), .val (.int (Int32.ofNat es.length)), .val (.ref b3)] 14 (hb hby own_d36_12) rfl rfl rfl ?_
  refine own_aln X3 hx 15 (hb hby own_d36_14) rfl rfl rfl ?_
  refine own_iln X3 hx 16 (hb hby own_d36_15) rfl rfl ?_
  refine own_al X3 hx 18 (hb hby own_d36_16) rfl rfl rfl ?_
  refine own_ic X3 hx (0 : Int32) 19 (hb hby own_d36_18) rfl rfl ?_
  refine own_aln X3 hx 20 (hb hby own_d36_19) rfl rfl rfl ?_
  have F6 : Arv Z h3 bv kb .byte (16 : Int32) (own_bs es) (.int 0) := (Pm0.ext E3)
  refine own_alen X3 hx hZ e3 F6 21 (hb hby own_d36_20) rfl ?_
  refine own_iln X3 hx 22 (hb hby own_d36_21) rfl rfl ?_
  refine own_isub X3 hx 23 (hb hby own_d36_22) rfl ?_
  rw [Int32.sub_zero]
  show own_Rn p e below _ (T3.setTop (mkF m 23 #[.val (.ref bv), .val (.int (0 : Int32)), .val (.int (Int32.ofNat es.length)), .val (.int (Int32.ofNat es.length)), .val (.ref b3)] [(.int (16 : Int32)), (.int (0 : Int32)), (.ref b3), (.int (0 : Int32)), (.ref bv)]))
  refine own_iln X3 hx 24 (hb hby own_d36_23) rfl rfl ?_
  have Zn7 : n0 ≤ h3.size := (Nat.le_trans Z0 sz4)
  refine own_cS X3 hx hZ (y := (⟨"java/lang/Math", "min", "(II)I"⟩ : MethodName)) hown (hw _ (own_mi 219 rfl)) (hw _ (own_mi 220 rfl)) (hw _ (own_mi 221 rfl)) (hw _ (own_mi 222 rfl)) (by decide) (rmMin l Z a0 hw [] ((16 : Int32)) ((Int32.ofNat es.length)) h3 n0 Zn7 (own_lt16 h15)) e3 [(.int (16 : Int32)), (.int (Int32.ofNat es.length))] [(.int (0 : Int32)), (.ref b3), (.int (0 : Int32)), (.ref bv)] rfl (by rw [hml]; rfl) (lenOf own_pd_28II29I rfl) rfl 4 (Nat.le_of_eq rfl) (by decide) (by decide) (by decide : 1 + 0 ≤ _) (by decide : 15 + 0 ≤ _) 27 (hb hby own_d36_24) rfl 1 15 rfl rfl ?_
  intro rv7 T7 Lc7 X7 hQ7
  obtain ⟨rfl, Nq7, eh7⟩ := hQ7
  have N7 := Fr.app N2 Nq7
  show own_Rn p e below _ (T7.setTop (mkF m 27 #[.val (.ref bv), .val (.int (0 : Int32)), .val (.int (Int32.ofNat es.length)), .val (.int (Int32.ofNat es.length)), .val (.ref b3)] [(.int (Int32.ofNat es.length)), (.int (0 : Int32)), (.ref b3), (.int (0 : Int32)), (.ref bv)]))
  have Vp : Arv Z h3 b3 k3 .byte (Int32.ofNat es.length) (own_bs ([] : List Int32) ++ List.replicate es.length (.int 0)) (.int 0) := V3.pad (pad_rep [] (.int 0) es.length)
  obtain ⟨T8, h8, L8, X8, e8, N8, Kc8, Ac8, st8⟩ := cpA X7 hx hZ hown (hw _ (own_mi 223 rfl)) (hw _ (own_mi 177 rfl)) (hw _ (own_mi 175 rfl)) (hw _ (own_mi 176 rfl)) eh7 F6 Vp (sp := (0 : Int32)) (dp := (0 : Int32)) (nn := (Int32.ofNat es.length)) (us := (own_bs es)) (Or.inl ⟨rfl, rfl⟩) (by decide) (by decide) (own_nneg (by omega)) (by rw [own_clampN (by omega)]; show 0 + _ ≤ 16; omega) (by rw [own_clampN (by omega)]; exact Nat.le_of_eq (Nat.zero_add _)) (own_us es (by omega)) (by rw [own_clampN (by omega)]; show 0 + _ ≤ ([] ++ List.replicate es.length (Value.int 0)).length; simp) N7 gn3 (g := (mkF m 27 #[.val (.ref bv), .val (.int (0 : Int32)), .val (.int (Int32.ofNat es.length)), .val (.int (Int32.ofNat es.length)), .val (.ref b3)] [(.int (Int32.ofNat es.length)), (.int (0 : Int32)), (.ref b3), (.int (0 : Int32)), (.ref bv)])) rfl (by rw [hml]; rfl) rfl (hb hby own_d36_27) (by decide) (W := 0) (by show 2 * 0 + _ ≤ _; exact Nat.le_of_eq rfl) (by decide)
  refine own_go st8 ?_
  have sz9 : h3.size ≤ h8.size := Kc8.1
  have K9 := K4.trans Kc8 (allS (Or.inr (Nat.le_trans (Nat.le_refl _) (Nat.le_of_eq g3.symm))) all0)
  have V8 : Arv Z h8 b3 k3 .byte (Int32.ofNat es.length) (own_bs es) (.int (0 : Int32)) := own_cat (cs := []) (List.nil_append _).symm ⟨by show 0 < _; omega, by omega⟩ (Nat.le_refl _) rfl rfl Ac8
  show own_Rn p e below _ (T8.setTop (mkF m 30 #[.val (.ref bv), .val (.int (0 : Int32)), .val (.int (Int32.ofNat es.length)), .val (.int (Int32.ofNat es.length)), .val (.ref b3)] []))
  refine own_al X8 hx 32 (hb hby own_d36_30) rfl rfl rfl ?_
  exact own_ret X8 (v := some (.ref b3)) (fun h => by rw [Bd.returns] at h; cases h) (fun fs hr => X8.areturnOut hx rfl Bd.returns rfl (hb hby own_d36_32) hr) (by rw [e8]; exact ⟨b3, k3, rfl, N8, K9, (Nat.le_trans (Nat.le_refl _) (Nat.le_of_eq g3.symm)), gn3, V8⟩) (by decide) (by decide)
theorem own_ef_rmCR (m : MethodId) (bv : Addr) (kb : ClassId) (es : List Int32) : entryFrame m #[(.ref bv), (.int (0 : Int32)), (.int (Int32.ofNat es.length))] 3 = mkF m 0 #[.val (.ref bv), .val (.int (0 : Int32)), .val (.int (Int32.ofNat es.length))] [] := by first | (simp [entryFrame, mkF, argsToLocals, Value.category]; done) | rfl
theorem own_d35_0 : decode jdk_65_method_132_code 0 = .ok (.iload_n 1, 1) := by decide +kernel
theorem own_d35_1 : decode jdk_65_method_132_code 1 = .ok (.ifCond .ne 9, 3) := by decide +kernel
theorem own_d35_4 : decode jdk_65_method_132_code 4 = .ok (.iload_n 2, 1) := by decide +kernel
theorem own_d35_5 : decode jdk_65_method_132_code 5 = .ok (.aload_n 0, 1) := by decide +kernel
theorem own_d35_6 : decode jdk_65_method_132_code 6 = .ok (.arraylength, 1) := by decide +kernel
theorem own_d35_7 : decode jdk_65_method_132_code 7 = .ok (.if_icmp .eq 10, 3) := by decide +kernel
theorem own_d35_10 : decode jdk_65_method_132_code 10 = .ok (.aload_n 0, 1) := by decide +kernel
theorem own_d35_11 : decode jdk_65_method_132_code 11 = .ok (.iload_n 1, 1) := by decide +kernel
theorem own_d35_12 : decode jdk_65_method_132_code 12 = .ok (.iload_n 2, 1) := by decide +kernel
theorem own_d35_13 : decode jdk_65_method_132_code 13 = .ok (.invokestatic 339, 3) := by decide +kernel
theorem own_pd_285bBII295bB : parseMethodDescriptor "([BII)[B" = some ⟨[(.array .byte), .int, .int], some (.array .byte)⟩ := by decide +kernel
theorem own_d35_16 : decode jdk_65_method_132_code 16 = .ok (.areturn, 1) := by decide +kernel
def Q_rmCR (Z : State) (bv : Addr) (kb : ClassId) (es : List Int32) (h0 : Heap) (n0 : Nat) (vq : Option Value) (hhq : Heap) (Lq : List Loc) : Prop := ∃ (t : Addr), ∃ (kt : ClassId), vq = some (.ref t) ∧ Fr n0 Lq ∧ Keep h0 hhq [] ∧ h0.size ≤ t ∧ n0 ≤ t ∧ Arv Z hhq t kt .byte (Int32.ofNat es.length) (own_bs es) (.int 0)
set_option maxRecDepth 65536 in
set_option maxHeartbeats 40000000 in
theorem rmCR (l : Launch) (Z : State) (a0 : Array Value) (hw : ∀ d ∈ tables_1, d.before a0 Z = true) (ws : List Jvm.Cond) (bv : Addr) (kb : ClassId) (es : List Int32) (h0 : Heap) (n0 : Nat) (Z0 : n0 ≤ h0.size) (Pm0 : Arv Z h0 bv kb .byte (16 : Int32) (own_bs es) (.int 0)) (h15 : (es.length ≤ 15)) :
    MetFree l (⟨"java/util/Arrays", "copyOfRange", "([BII)[B"⟩ : MethodName) (head1 (Jvm.Cond.code (⟨"java/util/Arrays", "copyOfRange", "([BII)[B"⟩ : MethodName) jdk_65_method_132_code 3 (some (.array .byte)) :: ws) ({ frames := 2, cells := 1, slots := 15, locals := 43 } : Room)) (fun aq U => aq = #[(.ref bv), (.int (0 : Int32)), (.int (Int32.ofNat es.length))] ∧ Z.Warmed39 U.vm ∧ U.heap = h0) (fun _ _ _ _ _ => True) (fun _ U oq U' => ∃ vq Lq, oq = .returned vq ∧ Q_rmCR Z bv kb es h0 n0 vq U'.heap Lq ∧ FrameEnd U oq U' Lq ({ frames := 2, cells := 1, slots := 15, locals := 43 } : Room).cells ({ frames := 2, cells := 1, slots := 15, locals := 43 } : Room).slots) := by
  refine MetFree.of_bodySF (plainFor_of_name own_pn_java_util_Arrays) hisR ?_
  intro p e s m args below meth c s₁ Bd hml0 hP hK
  obtain ⟨rfl, hZ, hh⟩ := hP
  have hx := Bd.exec
  have hby := Bd.bytes
  have hml : c.maxLocals = 3 := hml0
  have hown : s.vm.findClass "java/util/Arrays" = some m.cls := findClass_of_methodNamed Bd.named
  have hnm := (name_of_methodNamed Bd.named Bd.method).1
  have X0 : Stand p l e ({ frames := 2, cells := 1, slots := 15, locals := 43 } : Room) s m #[(.ref bv), (.int (0 : Int32)), (.int (Int32.ofNat es.length))] below meth c s₁ [] 0 0 := Stand.of_body Bd
  have e0 : s₁.heap = h0 := by rw [← hh, Bd.state]; rfl
  have N0 := Fr.nil n0
  have K0 : Keep h0 h0 [] := Keep.refl _ _
  refine own_go (S' := s₁.setTop (mkF m 0 #[.val (.ref bv), .val (.int (0 : Int32)), .val (.int (Int32.ofNat es.length))] [])) (fun tq kq => castTop (own_ef_rmCR m bv kb es) kq) ?_
  have lt1 : @LT.lt Nat _ bv h0.size := Pm0.lt
  refine own_iln X0 hx 1 (hb hby own_d35_0) rfl rfl ?_
  refine own_ifN X0 hx 4 (hb hby own_d35_1) rfl ((if0 _ _).trans (teq ((by decide : (0 : Int32) = (0 : Int32)) : (0 : Int32) = (0 : Int32))).2) ?_
  refine own_iln X0 hx 5 (hb hby own_d35_4) rfl rfl ?_
  refine own_aln X0 hx 6 (hb hby own_d35_5) rfl rfl rfl ?_
  refine own_alen X0 hx hZ e0 Pm0 7 (hb hby own_d35_6) rfl ?_
  refine own_icN X0 hx 10 (hb hby own_d35_7) rfl (feq (own_ne16 h15 : ¬ ((Int32.ofNat es.length) = (16 : Int32)))).1 ?_
  refine own_aln X0 hx 11 (hb hby own_d35_10) rfl rfl rfl ?_
  refine own_iln X0 hx 12 (hb hby own_d35_11) rfl rfl ?_
  refine own_iln X0 hx 13 (hb hby own_d35_12) rfl rfl ?_
  have Zn2 : n0 ≤ h0.size := (Nat.le_trans Z0 (Nat.le_refl _))
  refine own_cS X0 hx hZ (y := (⟨"java/util/Arrays", "copyOfRangeByte", "([BII)[B"⟩ : MethodName)) hown (hw _ (own_mi 213 rfl)) (hw _ (own_mi 214 rfl)) (hw _ (own_mi 211 rfl)) (hw _ (own_mi 215 rfl)) (by decide) (rmCRB l Z a0 hw [] (bv) (kb) (es) h0 n0 Zn2 Pm0 (h15)) e0 [(.ref bv), (.int (0 : Int32)), (.int (Int32.ofNat es.length))] [] rfl (by rw [hml]; rfl) (lenOf own_pd_285bBII295bB rfl) rfl 0 (Nat.le_of_eq rfl) (by decide) (by decide) (by decide : 0 + 1 ≤ _) (by decide : 0 + 15 ≤ _) 16 (hb hby own_d35_13) rfl 1 15 rfl rfl ?_
  intro rv2 T2 Lc2 X2 hQ2
  obtain ⟨tt, ktt, rfl, Nq2, Kq2, G0_2, G1_2, G2_2⟩ := hQ2
  have N2 := Fr.app N0 Nq2
  have sz3 : h0.size ≤ T2.heap.size := Kq2.1
  have K3 := K0.trans Kq2 all0
  have lt4 : @LT.lt Nat _ tt T2.heap.size := G2_2.lt
  show own_Rn p e below _ (T2.setTop (mkF m 16 #[.val (.ref bv), .val (.int (0 : Int32)), .val (.int (Int32.ofNat es.length))] [(.ref tt)]))
  exact own_ret X2 (v := some (.ref tt)) (fun h => by rw [Bd.returns] at h; cases h) (fun fs hr => X2.areturnOut hx rfl Bd.returns rfl (hb hby own_d35_16) hr) (⟨tt, ktt, rfl, N2, K3, (Nat.le_trans (Nat.le_refl _) G0_2), G1_2, G2_2⟩) (by decide) (by decide)
theorem own_ef_rmI2 (m : MethodId) (x : Addr) (sb : Addr) (bv : Addr) (kb : ClassId) (es : List Int32) (G1 : Int32) : entryFrame m #[(.ref x), (.ref sb), .null] 5 = mkF m 0 #[.val (.ref x), .val (.ref sb), .val .null, .unset, .unset] [] := by first | (simp [entryFrame, mkF, argsToLocals, Value.category]; done) | rfl
theorem own_d30_0 : decode jdk_42_method_150_code 0 = .ok (.aload_n 0, 1) := by decide +kernel
theorem own_d30_1 : decode jdk_42_method_150_code 1 = .ok (.invokespecial 1, 3) := by decide +kernel
theorem own_d30_4 : decode jdk_42_method_150_code 4 = .ok (.aload_n 1, 1) := by decide +kernel
theorem own_d30_5 : decode jdk_42_method_150_code 5 = .ok (.invokevirtual 552, 3) := by decide +kernel
theorem own_pd_28295bB : parseMethodDescriptor "()[B" = some ⟨[], some (.array .byte)⟩ := by decide +kernel
theorem own_d30_8 : decode jdk_42_method_150_code 8 = .ok (.astore_n 3, 1) := by decide +kernel
theorem own_d30_9 : decode jdk_42_method_150_code 9 = .ok (.aload_n 1, 1) := by decide +kernel
theorem own_d30_10 : decode jdk_42_method_150_code 10 = .ok (.invokevirtual 549, 3) := by decide +kernel
theorem own_d30_13 : decode jdk_42_method_150_code 13 = .ok (.istore 4, 2) := by decide +kernel
theorem own_d30_15 : decode jdk_42_method_150_code 15 = .ok (.aload_n 1, 1) := by decide +kernel
theorem own_d30_16 : decode jdk_42_method_150_code 16 = .ok (.invokevirtual 1047, 3) := by decide +kernel
theorem own_pd_2829Z : parseMethodDescriptor "()Z" = some ⟨[], some .boolean⟩ := by decide +kernel
theorem own_d30_19 : decode jdk_42_method_150_code 19 = .ok (.ifCond .eq 22, 3) := by decide +kernel
theorem own_d30_22 : decode jdk_42_method_150_code 22 = .ok (.aload_n 0, 1) := by decide +kernel
theorem own_d30_23 : decode jdk_42_method_150_code 23 = .ok (.iconst 0, 1) := by decide +kernel
theorem own_d30_24 : decode jdk_42_method_150_code 24 = .ok (.putfield 15, 3) := by decide +kernel
theorem own_d30_27 : decode jdk_42_method_150_code 27 = .ok (.aload_n 0, 1) := by decide +kernel
theorem own_d30_28 : decode jdk_42_method_150_code 28 = .ok (.aload_n 3, 1) := by decide +kernel
theorem own_d30_29 : decode jdk_42_method_150_code 29 = .ok (.iconst 0, 1) := by decide +kernel
theorem own_d30_30 : decode jdk_42_method_150_code 30 = .ok (.iload 4, 2) := by decide +kernel
theorem own_d30_32 : decode jdk_42_method_150_code 32 = .ok (.invokestatic 54, 3) := by decide +kernel
theorem own_d30_35 : decode jdk_42_method_150_code 35 = .ok (.putfield 9, 3) := by decide +kernel
theorem own_d30_38 : decode jdk_42_method_150_code 38 = .ok (.goto 59, 3) := by decide +kernel
theorem own_d30_97 : decode jdk_42_method_150_code 97 = .ok (.return_, 1) := by decide +kernel
def Q_rmI2 (Z : State) (x : Addr) (sb : Addr) (bv : Addr) (kb : ClassId) (es : List Int32) (G1 : Int32) (h0 : Heap) (n0 : Nat) (vq : Option Value) (hhq : Heap) (Lq : List Loc) : Prop := ∃ (t : Addr), ∃ (kt : ClassId), vq = none ∧ Fr n0 Lq ∧ Keep h0 hhq [x] ∧ h0.size ≤ t ∧ n0 ≤ t ∧ Fld Z hhq x "java/lang/String" "value" "[B" (.ref t) ∧ Fld Z hhq x "java/lang/String" "coder" "B" (.int (0 : Int32)) ∧ Arv Z hhq t kt .byte (Int32.ofNat es.length) (own_bs es) (.int 0)
set_option maxRecDepth 65536 in
set_option maxHeartbeats 40000000 in
theorem rmI2 (l : Launch) (Z : State) (a0 : Array Value) (hw : ∀ d ∈ tables_1, d.before a0 Z = true) (ws : List Jvm.Cond) (x : Addr) (sb : Addr) (bv : Addr) (kb : ClassId) (es : List Int32) (G1 : Int32) (h0 : Heap) (n0 : Nat) (Z0 : n0 ≤ h0.size) (Pm0 : Exa Z h0 x "java/lang/String") (Pm1 : Fld Z h0 x "java/lang/String" "value" "[B" .null) (Pm2 : Fld Z h0 x "java/lang/String" "coder" "B" (.int (0 : Int32))) (Pm3 : n0 ≤ x) (Pm4 : Exa Z h0 sb "java/lang/StringBuilder") (Pm5 : Fld Z h0 sb "java/lang/AbstractStringBuilder" "value" "[B" (.ref bv)) (Pm6 : Fld Z h0 sb "java/lang/AbstractStringBuilder" "coder" "B" (.int (0 : Int32))) (Pm7 : Arv Z h0 bv kb .byte (16 : Int32) (own_bs es) (.int 0)) (Pm8 : Fld Z h0 sb "java/lang/AbstractStringBuilder" "count" "I" (.int (Int32.ofNat es.length))) (h15 : (es.length ≤ 15)) (O2 : Sta Z Z.heap "java/lang/String" "COMPACT_STRINGS" "Z" (.int G1)) (P5 : (¬ (G1 = (0 : Int32)))) (X00 : Old Z n0 h0) :
    MetFree l (⟨"java/lang/String", "<init>", "(Ljava/lang/AbstractStringBuilder;Ljava/lang/Void;)V"⟩ : MethodName) (head1 (Jvm.Cond.code (⟨"java/lang/String", "<init>", "(Ljava/lang/AbstractStringBuilder;Ljava/lang/Void;)V"⟩ : MethodName) jdk_42_method_150_code 5 none :: ws) ({ frames := 3, cells := 1, slots := 15, locals := 58 } : Room)) (fun aq U => aq = #[(.ref x), (.ref sb), .null] ∧ Z.Warmed39 U.vm ∧ U.heap = h0) (fun _ _ _ _ _ => True) (fun _ U oq U' => ∃ vq Lq, oq = .returned vq ∧ Q_rmI2 Z x sb bv kb es G1 h0 n0 vq U'.heap Lq ∧ FrameEnd U oq U' Lq ({ frames := 3, cells := 1, slots := 15, locals := 58 } : Room).cells ({ frames := 3, cells := 1, slots := 15, locals := 58 } : Room).slots) := by
  refine MetFree.of_bodySF (plainFor_of_name own_pn_java_lang_String) hisR ?_
  intro p e s m args below meth c s₁ Bd hml0 hP hK
  obtain ⟨rfl, hZ, hh⟩ := hP
  have hx := Bd.exec
  have hby := Bd.bytes
  have hml : c.maxLocals = 5 := hml0
  have hown : s.vm.findClass "java/lang/String" = some m.cls := findClass_of_methodNamed Bd.named
  have hnm := (name_of_methodNamed Bd.named Bd.method).1
  have X0 : Stand p l e ({ frames := 3, cells := 1, slots := 15, locals := 58 } : Room) s m #[(.ref x), (.ref sb), .null] below meth c s₁ [] 0 0 := Stand.of_body Bd
  have e0 : s₁.heap = h0 := by rw [← hh, Bd.state]; rfl
  have N0 := Fr.nil n0
  have K0 : Keep h0 h0 [x] := Keep.refl _ _
  refine own_go (S' := s₁.setTop (mkF m 0 #[.val (.ref x), .val (.ref sb), .val .null, .unset, .unset] [])) (fun tq kq => castTop (own_ef_rmI2 m x sb bv kb es G1) kq) ?_
  have lt1 : @LT.lt Nat _ x h0.size := Pm0.lt
  have lt2 : @LT.lt Nat _ sb h0.size := Pm4.lt
  have lt3 : @LT.lt Nat _ bv h0.size := Pm7.lt
  refine own_aln X0 hx 1 (hb hby own_d30_0) rfl rfl rfl ?_
  obtain ⟨T4, X4, e4, st4⟩ := initO X0 hx hZ hown (hw _ (own_mi 11 rfl)) (hw _ (own_mi 12 rfl)) (hw _ (own_mi 13 rfl)) e0 (g := (mkF m 1 #[.val (.ref x), .val (.ref sb), .val .null, .unset, .unset] [(.ref x)])) rfl (by rw [hml]; rfl) rfl (hb hby own_d30_1) (by decide) (W := 0) (by show 2 * 0 + _ ≤ _; exact Nat.le_of_eq rfl) (by decide)
  refine own_go st4 ?_
  show own_Rn p e below _ (T4.setTop (mkF m 4 #[.val (.ref x), .val (.ref sb), .val .null, .unset, .unset] []))
  refine own_aln X4 hx 5 (hb hby own_d30_4) rfl rfl rfl ?_
  have Zn5 : n0 ≤ h0.size := (Nat.le_trans Z0 (Nat.le_refl _))
  refine own_cV X4 hx hZ (y := (⟨"java/lang/AbstractStringBuilder", "getValue", "()[B"⟩ : MethodName)) (z := (⟨"java/lang/AbstractStringBuilder", "getValue", "()[B"⟩ : MethodName)) hown (hw _ (own_mi 191 rfl)) (hw _ (own_mi 192 rfl)) (notFace_of_selects (args := #[]) (mvT hZ (hw _ (own_mi 194 rfl)))) (hw _ (own_mi 194 rfl)) (hw _ (own_mi 193 rfl)) (hw _ (own_mi 195 rfl)) (hw _ (own_mi 120 rfl)) (by decide) (rmGV l Z a0 hw [] (sb) (bv) h0 n0 Zn5 Pm5) Pm4 e4 [] [] rfl (by rw [hml]; rfl) (lenOf own_pd_28295bB rfl) rfl 0 (Nat.le_of_eq rfl) (by decide) (by decide) (by decide : 0 + 0 ≤ _) (by decide : 0 + 0 ≤ _) 8 (hb hby own_d30_5) rfl 0 0 rfl rfl ?_
  intro rv5 T5 Lc5 X5 hQ5
  obtain ⟨rfl, Nq5, eh5⟩ := hQ5
  have N5 := Fr.app N0 Nq5
  show own_Rn p e below _ (T5.setTop (mkF m 8 #[.val (.ref x), .val (.ref sb), .val .null, .unset, .unset] [(.ref bv)]))
  refine own_asn X5 hx #[.val (.ref x), .val (.ref sb), .val .null, .val (.ref bv), .unset] 9 (hb hby own_d30_8) rfl rfl rfl ?_
  refine own_aln X5 hx 10 (hb hby own_d30_9) rfl rfl rfl ?_
  have Zn6 : n0 ≤ h0.size := (Nat.le_trans Z0 (Nat.le_refl _))
  refine own_cV X5 hx hZ (y := (⟨"java/lang/AbstractStringBuilder", "length", "()I"⟩ : MethodName)) (z := (⟨"java/lang/StringBuilder", "length", "()I"⟩ : MethodName)) hown (hw _ (own_mi 196 rfl)) (hw _ (own_mi 197 rfl)) (own_nf (a0 := #[]) (mvT hZ (hw _ (own_mi 194 rfl))) rfl) (hw _ (own_mi 199 rfl)) (hw _ (own_mi 200 rfl)) (hw _ (own_mi 201 rfl)) (hw _ (own_mi 112 rfl)) (by decide) (rmSL l Z a0 hw [] (sb) ((Int32.ofNat es.length)) h0 n0 Zn6 Pm4 Pm8) Pm4 eh5 [] [] rfl (by rw [hml]; rfl) (lenOf own_pd_2829I rfl) rfl 0 (Nat.le_of_eq rfl) (by decide) (by decide) (by decide : 0 + 0 ≤ _) (by decide : 0 + 0 ≤ _) 13 (hb hby own_d30_10) rfl 0 0 rfl rfl ?_
  intro rv6 T6 Lc6 X6 hQ6
  obtain ⟨rfl, Nq6, eh6⟩ := hQ6
  have N6 := Fr.app N5 Nq6
  show own_Rn p e below _ (T6.setTop (mkF m 13 #[.val (.ref x), .val (.ref sb), .val .null, .val (.ref bv), .unset] [(.int (Int32.ofNat es.length))]))
  refine own_is X6 hx #[.val (.ref x), .val (.ref sb), .val .null, .val (.ref bv), .val (.int (Int32.ofNat es.length))] 15 (hb hby own_d30_13) rfl rfl ?_
  refine own_aln X6 hx 16 (hb hby own_d30_15) rfl rfl rfl ?_
  have Zn7 : n0 ≤ h0.size := (Nat.le_trans Z0 (Nat.le_refl _))
  refine own_cV X6 hx hZ (y := (⟨"java/lang/AbstractStringBuilder", "isLatin1", "()Z"⟩ : MethodName)) (z := (⟨"java/lang/AbstractStringBuilder", "isLatin1", "()Z"⟩ : MethodName)) hown (hw _ (own_mi 204 rfl)) (hw _ (own_mi 205 rfl)) (notFace_of_selects (args := #[]) (mvT hZ (hw _ (own_mi 207 rfl)))) (hw _ (own_mi 207 rfl)) (hw _ (own_mi 206 rfl)) (hw _ (own_mi 208 rfl)) (hw _ (own_mi 120 rfl)) (by decide) (rmIL l Z a0 hw [] (sb) (G1) h0 n0 Zn7 Pm6 (O2) (P5) X00) Pm4 eh6 [] [] rfl (by rw [hml]; rfl) (lenOf own_pd_2829Z rfl) rfl 0 (Nat.le_of_eq rfl) (by decide) (by decide) (by decide : 0 + 0 ≤ _) (by decide : 0 + 0 ≤ _) 19 (hb hby own_d30_16) rfl 0 0 rfl rfl ?_
  intro rv7 T7 Lc7 X7 hQ7
  obtain ⟨rfl, Nq7, eh7⟩ := hQ7
  have N7 := Fr.app N6 Nq7
  show own_Rn p e below _ (T7.setTop (mkF m 19 #[.val (.ref x), .val (.ref sb), .val .null, .val (.ref bv), .val (.int (Int32.ofNat es.length))] [(.int (1 : Int32))]))
  refine own_ifN X7 hx 22 (hb hby own_d30_19) rfl ((if0 _ _).trans (feq ((by decide : ¬ ((1 : Int32) = (0 : Int32))) : ¬ ((1 : Int32) = (0 : Int32)))).1) ?_
  refine own_aln X7 hx 23 (hb hby own_d30_22) rfl rfl rfl ?_
  refine own_ic X7 hx (0 : Int32) 24 (hb hby own_d30_23) rfl rfl ?_
  obtain ⟨T8, h8, X8, e8, W8, st8⟩ := putFN X7 hx hZ hown (hw _ (own_mi 26 rfl)) Via.refl eh7 Pm2 Pm0 (Or.inr ⟨(hw _ (own_mi 27 rfl)), rfl, hnm⟩) (hw _ (own_mi 1 rfl)) (ty := .byte) (v' := (.int ((0 : Int32)))) own_fd_B rfl (by decide) (g := (mkF m 24 #[.val (.ref x), .val (.ref sb), .val .null, .val (.ref bv), .val (.int (Int32.ofNat es.length))] [(.int (0 : Int32)), (.ref x)])) rfl rfl (hb hby own_d30_24)
  refine own_go st8 ?_
  have N8 := Fr.snoc X8 N7 Pm3
  have Fw8 := Pm2.same W8
  have sz9 : h0.size ≤ h8.size := Nat.le_of_eq (Wr.size W8).symm
  have K9 := K0.wr W8 (Or.inl (List.mem_of_getElem? (i := 0) rfl))
  show own_Rn p e below _ (T8.setTop (mkF m 27 #[.val (.ref x), .val (.ref sb), .val .null, .val (.ref bv), .val (.int (Int32.ofNat es.length))] []))
  refine own_aln X8 hx 28 (hb hby own_d30_27) rfl rfl rfl ?_
  refine own_aln X8 hx 29 (hb hby own_d30_28) rfl rfl rfl ?_
  refine own_ic X8 hx (0 : Int32) 30 (hb hby own_d30_29) rfl rfl ?_
  refine own_il X8 hx 32 (hb hby own_d30_30) rfl rfl ?_
  have Zn10 : n0 ≤ h8.size := (Nat.le_trans Z0 sz9)
  have ne11 : bv ≠ x := Ne.symm (Exa.neArv Pm0 Pm7 (hw _ (own_mi 1 rfl)))
  have F12 : Arv Z h8 bv kb .byte (16 : Int32) (own_bs es) (.int 0) := (Pm7.other W8 ne11)
  refine own_cS X8 hx hZ (y := (⟨"java/util/Arrays", "copyOfRange", "([BII)[B"⟩ : MethodName)) hown (hw _ (own_mi 209 rfl)) (hw _ (own_mi 210 rfl)) (hw _ (own_mi 211 rfl)) (hw _ (own_mi 212 rfl)) (by decide) (rmCR l Z a0 hw [] (bv) (kb) (es) h8 n0 Zn10 F12 (h15)) e8 [(.ref bv), (.int (0 : Int32)), (.int (Int32.ofNat es.length))] [(.ref x)] rfl (by rw [hml]; rfl) (lenOf own_pd_285bBII295bB rfl) rfl 1 (Nat.le_of_eq rfl) (by decide) (by decide) (by decide : 0 + 1 ≤ _) (by decide : 0 + 15 ≤ _) 35 (hb hby own_d30_32) rfl 1 15 rfl rfl ?_
  intro rv10 T10 Lc10 X10 hQ10
  obtain ⟨tt, ktt, rfl, Nq10, Kq10, G0_10, G1_10, G2_10⟩ := hQ10
  have N10 := Fr.app N8 Nq10
  have sz13 : h8.size ≤ T10.heap.size := Kq10.1
  have K13 := K9.trans Kq10 all0
  have lt14 : @LT.lt Nat _ tt T10.heap.size := G2_10.lt
  show own_Rn p e below _ (T10.setTop (mkF m 35 #[.val (.ref x), .val (.ref sb), .val .null, .val (.ref bv), .val (.int (Int32.ofNat es.length))] [(.ref tt), (.ref x)]))
  have F15 : Fld Z T10.heap x "java/lang/String" "value" "[B" .null := ((Pm1.other W8 (Or.inr (slot_ne (Or.inr (hw _ (own_mi 29 rfl))) (Or.inr (hw _ (own_mi 27 rfl))) (by decide) (t := (.array .byte)) (t' := .byte) own_fd_5bB own_fd_B))).keep Kq10 nin0)
  have F16 : Exa Z T10.heap x "java/lang/String" := ((Pm0.wr W8).keep Kq10)
  obtain ⟨T17, h17, X17, e17, W17, st17⟩ := putF X10 hx hZ hown (host := "") (Or.inl (hw _ (own_mi 28 rfl))) Via.refl rfl F15 F16 (Or.inr ⟨(hw _ (own_mi 29 rfl)), rfl, hnm⟩) (hw _ (own_mi 1 rfl)) (ty := (.array .byte)) own_fd_5bB rfl rfl (g := (mkF m 35 #[.val (.ref x), .val (.ref sb), .val .null, .val (.ref bv), .val (.int (Int32.ofNat es.length))] [(.ref tt), (.ref x)])) rfl rfl (hb hby own_d30_35)
  refine own_go st17 ?_
  have N17 := Fr.snoc X17 N10 Pm3
  have Fw17 := F15.same W17
  have sz18 : T10.heap.size ≤ h17.size := Nat.le_of_eq (Wr.size W17).symm
  have K18 := K13.wr W17 (Or.inl (List.mem_of_getElem? (i := 0) rfl))
  show own_Rn p e below _ (T17.setTop (mkF m 38 #[.val (.ref x), .val (.ref sb), .val .null, .val (.ref bv), .val (.int (Int32.ofNat es.length))] []))
  refine own_gt X17 hx 97 (hb hby own_d30_38) (by decide) (by decide) ?_
  have F19 : Fld Z h17 x "java/lang/String" "coder" "B" (.int (0 : Int32)) := ((Fw8.keep Kq10 nin0).other W17 (Or.inr (slot_ne (Or.inr (hw _ (own_mi 27 rfl))) (Or.inr (hw _ (own_mi 29 rfl))) (by decide) (t := .byte) (t' := (.array .byte)) own_fd_B own_fd_5bB)))
  have ne20 : tt ≠ x := own_nea (Or.inr (Nat.lt_of_lt_of_le lt1 (Nat.le_trans sz9 G0_10)))
  have F21 : Arv Z h17 tt ktt .byte (Int32.ofNat es.length) (own_bs es) (.int 0) := (G2_10.other W17 ne20)
  exact own_ret X17 (v := none) (fun _ => rfl) (fun fs hr => X17.returnOut hx Bd.returns (hb hby own_d30_97) hr) (by rw [e17]; exact ⟨tt, ktt, rfl, N17, K18, (Nat.le_trans sz9 G0_10), G1_10, Fw17, F19, F21⟩) (by decide) (by decide)
theorem own_ef_rmI1 (m : MethodId) (x : Addr) (sb : Addr) (bv : Addr) (kb : ClassId) (es : List Int32) (G1 : Int32) : entryFrame m #[(.ref x), (.ref sb)] 2 = mkF m 0 #[.val (.ref x), .val (.ref sb)] [] := by first | (simp [entryFrame, mkF, argsToLocals, Value.category]; done) | rfl
theorem own_d29_0 : decode jdk_42_method_53_code 0 = .ok (.aload_n 0, 1) := by decide +kernel
theorem own_d29_1 : decode jdk_42_method_53_code 1 = .ok (.aload_n 1, 1) := by decide +kernel
theorem own_d29_2 : decode jdk_42_method_53_code 2 = .ok (.aconst_null, 1) := by decide +kernel
theorem own_d29_3 : decode jdk_42_method_53_code 3 = .ok (.invokespecial 489, 3) := by decide +kernel
theorem own_pd_28Ljava2flang2fAbstractStringBuilder3bLjava2flang2fVoid3b29V : parseMethodDescriptor "(Ljava/lang/AbstractStringBuilder;Ljava/lang/Void;)V" = some ⟨[(.object "java/lang/AbstractStringBuilder"), (.object "java/lang/Void")], none⟩ := by decide +kernel
theorem own_d29_6 : decode jdk_42_method_53_code 6 = .ok (.return_, 1) := by decide +kernel
def Q_rmI1 (Z : State) (x : Addr) (sb : Addr) (bv : Addr) (kb : ClassId) (es : List Int32) (G1 : Int32) (h0 : Heap) (n0 : Nat) (vq : Option Value) (hhq : Heap) (Lq : List Loc) : Prop := ∃ (t : Addr), ∃ (kt : ClassId), vq = none ∧ Fr n0 Lq ∧ Keep h0 hhq [x] ∧ h0.size ≤ t ∧ n0 ≤ t ∧ Fld Z hhq x "java/lang/String" "value" "[B" (.ref t) ∧ Fld Z hhq x "java/lang/String" "coder" "B" (.int (0 : Int32)) ∧ Arv Z hhq t kt .byte (Int32.ofNat es.length) (own_bs es) (.int 0)
set_option maxRecDepth 65536 in
set_option maxHeartbeats 40000000 in
theorem rmI1 (l : Launch) (Z : State) (a0 : Array Value) (hw : ∀ d ∈ tables_1, d.before a0 Z = true) (ws : List Jvm.Cond) (x : Addr) (sb : Addr) (bv : Addr) (kb : ClassId) (es : List Int32) (G1 : Int32) (h0 : Heap) (n0 : Nat) (Z0 : n0 ≤ h0.size) (Pm0 : Exa Z h0 x "java/lang/String") (Pm1 : Fld Z h0 x "java/lang/String" "value" "[B" .null) (Pm2 : Fld Z h0 x "java/lang/String" "coder" "B" (.int (0 : Int32))) (Pm3 : n0 ≤ x) (Pm4 : Exa Z h0 sb "java/lang/StringBuilder") (Pm5 : Fld Z h0 sb "java/lang/AbstractStringBuilder" "value" "[B" (.ref bv)) (Pm6 : Fld Z h0 sb "java/lang/AbstractStringBuilder" "coder" "B" (.int (0 : Int32))) (Pm7 : Arv Z h0 bv kb .byte (16 : Int32) (own_bs es) (.int 0)) (Pm8 : Fld Z h0 sb "java/lang/AbstractStringBuilder" "count" "I" (.int (Int32.ofNat es.length))) (h15 : (es.length ≤ 15)) (O2 : Sta Z Z.heap "java/lang/String" "COMPACT_STRINGS" "Z" (.int G1)) (P5 : (¬ (G1 = (0 : Int32)))) (X00 : Old Z n0 h0) :
    MetFree l (⟨"java/lang/String", "<init>", "(Ljava/lang/StringBuilder;)V"⟩ : MethodName) (head1 (Jvm.Cond.code (⟨"java/lang/String", "<init>", "(Ljava/lang/StringBuilder;)V"⟩ : MethodName) jdk_42_method_53_code 2 none :: ws) ({ frames := 4, cells := 1, slots := 15, locals := 74 } : Room)) (fun aq U => aq = #[(.ref x), (.ref sb)] ∧ Z.Warmed39 U.vm ∧ U.heap = h0) (fun _ _ _ _ _ => True) (fun _ U oq U' => ∃ vq Lq, oq = .returned vq ∧ Q_rmI1 Z x sb bv kb es G1 h0 n0 vq U'.heap Lq ∧ FrameEnd U oq U' Lq ({ frames := 4, cells := 1, slots := 15, locals := 74 } : Room).cells ({ frames := 4, cells := 1, slots := 15, locals := 74 } : Room).slots) := by
  refine MetFree.of_bodySF (plainFor_of_name own_pn_java_lang_String) hisR ?_
  intro p e s m args below meth c s₁ Bd hml0 hP hK
  obtain ⟨rfl, hZ, hh⟩ := hP
  have hx := Bd.exec
  have hby := Bd.bytes
  have hml : c.maxLocals = 2 := hml0
  have hown : s.vm.findClass "java/lang/String" = some m.cls := findClass_of_methodNamed Bd.named
  have hnm := (name_of_methodNamed Bd.named Bd.method).1
  have X0 : Stand p l e ({ frames := 4, cells := 1, slots := 15, locals := 74 } : Room) s m #[(.ref x), (.ref sb)] below meth c s₁ [] 0 0 := Stand.of_body Bd
  have e0 : s₁.heap = h0 := by rw [← hh, Bd.state]; rfl
  have N0 := Fr.nil n0
  have K0 : Keep h0 h0 [x] := Keep.refl _ _
  refine own_go (S' := s₁.setTop (mkF m 0 #[.val (.ref x), .val (.ref sb)] [])) (fun tq kq => castTop (own_ef_rmI1 m x sb bv kb es G1) kq) ?_
  have lt1 : @LT.lt Nat _ x h0.size := Pm0.lt
  have lt2 : @LT.lt Nat _ sb h0.size := Pm4.lt
  have lt3 : @LT.lt Nat _ bv h0.size := Pm7.lt
  refine own_aln X0 hx 1 (hb hby own_d29_0) rfl rfl rfl ?_
  refine own_aln X0 hx 2 (hb hby own_d29_1) rfl rfl rfl ?_
  refine own_go (fun tq kq => XS.aconstNull X0.here hx rfl (hb hby own_d29_2) kq) ?_
  show own_Rn p e below _ (s₁.setTop (mkF m 3 #[.val (.ref x), .val (.ref sb)] [.null, (.ref sb), (.ref x)]))
  have Zn4 : n0 ≤ h0.size := (Nat.le_trans Z0 (Nat.le_refl _))
  refine own_cI X0 hx hZ (y := (⟨"java/lang/String", "<init>", "(Ljava/lang/AbstractStringBuilder;Ljava/lang/Void;)V"⟩ : MethodName)) rfl hown (hw _ (own_mi 188 rfl)) (hw _ (own_mi 189 rfl)) (hw _ (own_mi 190 rfl)) (hw _ (own_mi 2 rfl)) (by decide) (rmI2 l Z a0 hw [] (x) (sb) (bv) (kb) (es) (G1) h0 n0 Zn4 Pm0 Pm1 Pm2 Pm3 Pm4 Pm5 Pm6 Pm7 Pm8 (h15) (O2) (P5) X00) e0 [(.ref sb), .null] [] rfl (by rw [hml]; rfl) (lenOf own_pd_28Ljava2flang2fAbstractStringBuilder3bLjava2flang2fVoid3b29V rfl) rfl 0 (Nat.le_of_eq rfl) (by decide) (by decide) (by decide : 0 + 1 ≤ _) (by decide : 0 + 15 ≤ _) 6 (hb hby own_d29_3) rfl 1 15 rfl rfl ?_
  intro rv4 T4 Lc4 X4 hQ4
  obtain ⟨tt, ktt, rfl, Nq4, Kq4, G0_4, G1_4, G2_4, G3_4, G4_4⟩ := hQ4
  have N4 := Fr.app N0 Nq4
  have sz5 : h0.size ≤ T4.heap.size := Kq4.1
  have K5 := K0.trans Kq4 (allS (Or.inl (List.mem_of_getElem? (i := 0) rfl)) all0)
  have lt6 : @LT.lt Nat _ tt T4.heap.size := G4_4.lt
  show own_Rn p e below _ (T4.setTop (mkF m 6 #[.val (.ref x), .val (.ref sb)] []))
  exact own_ret X4 (v := none) (fun _ => rfl) (fun fs hr => X4.returnOut hx Bd.returns (hb hby own_d29_6) hr) (⟨tt, ktt, rfl, N4, K5, (Nat.le_trans (Nat.le_refl _) G0_4), G1_4, G2_4, G3_4, G4_4⟩) (by decide) (by decide)
theorem own_ef_rmTS (m : MethodId) (sb : Addr) (bv : Addr) (kb : ClassId) (es : List Int32) (G1 : Int32) : entryFrame m #[(.ref sb)] 1 = mkF m 0 #[.val (.ref sb)] [] := by first | (simp [entryFrame, mkF, argsToLocals, Value.category]; done) | rfl
theorem own_d28_0 : decode jdk_67_method_42_code 0 = .ok (.new 18, 3) := by decide +kernel
theorem own_d28_3 : decode jdk_67_method_42_code 3 = .ok (.dup, 1) := by decide +kernel
theorem own_d28_4 : decode jdk_67_method_42_code 4 = .ok (.aload_n 0, 1) := by decide +kernel
theorem own_d28_5 : decode jdk_67_method_42_code 5 = .ok (.invokespecial 137, 3) := by decide +kernel
theorem own_pd_28Ljava2flang2fStringBuilder3b29V : parseMethodDescriptor "(Ljava/lang/StringBuilder;)V" = some ⟨[(.object "java/lang/StringBuilder")], none⟩ := by decide +kernel
theorem own_d28_8 : decode jdk_67_method_42_code 8 = .ok (.areturn, 1) := by decide +kernel
def Q_rmTS (Z : State) (sb : Addr) (bv : Addr) (kb : ClassId) (es : List Int32) (G1 : Int32) (h0 : Heap) (n0 : Nat) (vq : Option Value) (hhq : Heap) (Lq : List Loc) : Prop := ∃ (x : Addr), ∃ (t : Addr), ∃ (kt : ClassId), vq = some (.ref x) ∧ Fr n0 Lq ∧ Keep h0 hhq [] ∧ h0.size ≤ x ∧ n0 ≤ x ∧ h0.size ≤ t ∧ n0 ≤ t ∧ Fld Z hhq x "java/lang/String" "value" "[B" (.ref t) ∧ Fld Z hhq x "java/lang/String" "coder" "B" (.int (0 : Int32)) ∧ Arv Z hhq t kt .byte (Int32.ofNat es.length) (own_bs es) (.int 0) ∧ Exa Z hhq x "java/lang/String"
set_option maxRecDepth 65536 in
set_option maxHeartbeats 40000000 in
theorem rmTS (l : Launch) (Z : State) (a0 : Array Value) (hw : ∀ d ∈ tables_1, d.before a0 Z = true) (ws : List Jvm.Cond) (sb : Addr) (bv : Addr) (kb : ClassId) (es : List Int32) (G1 : Int32) (h0 : Heap) (n0 : Nat) (Z0 : n0 ≤ h0.size) (Pm0 : Exa Z h0 sb "java/lang/StringBuilder") (Pm1 : Fld Z h0 sb "java/lang/AbstractStringBuilder" "value" "[B" (.ref bv)) (Pm2 : Fld Z h0 sb "java/lang/AbstractStringBuilder" "coder" "B" (.int (0 : Int32))) (Pm3 : Arv Z h0 bv kb .byte (16 : Int32) (own_bs es) (.int 0)) (Pm4 : Fld Z h0 sb "java/lang/AbstractStringBuilder" "count" "I" (.int (Int32.ofNat es.length))) (h15 : (es.length ≤ 15)) (O2 : Sta Z Z.heap "java/lang/String" "COMPACT_STRINGS" "Z" (.int G1)) (P5 : (¬ (G1 = (0 : Int32)))) (X00 : Old Z n0 h0) :
    MetFree l (⟨"java/lang/StringBuilder", "toString", "()Ljava/lang/String;"⟩ : MethodName) (head1 (Jvm.Cond.code (⟨"java/lang/StringBuilder", "toString", "()Ljava/lang/String;"⟩ : MethodName) jdk_67_method_42_code 1 (some (.object "java/lang/String")) :: ws) ({ frames := 5, cells := 2, slots := 19, locals := 88 } : Room)) (fun aq U => aq = #[(.ref sb)] ∧ Z.Warmed39 U.vm ∧ U.heap = h0) (fun _ _ _ _ _ => True) (fun _ U oq U' => ∃ vq Lq, oq = .returned vq ∧ Q_rmTS Z sb bv kb es G1 h0 n0 vq U'.heap Lq ∧ FrameEnd U oq U' Lq ({ frames := 5, cells := 2, slots := 19, locals := 88 } : Room).cells ({ frames := 5, cells := 2, slots := 19, locals := 88 } : Room).slots) := by
  refine MetFree.of_bodySF (plainFor_of_name own_pn_java_lang_StringBuilder) hisR ?_
  intro p e s m args below meth c s₁ Bd hml0 hP hK
  obtain ⟨rfl, hZ, hh⟩ := hP
  have hx := Bd.exec
  have hby := Bd.bytes
  have hml : c.maxLocals = 1 := hml0
  have hown : s.vm.findClass "java/lang/StringBuilder" = some m.cls := findClass_of_methodNamed Bd.named
  have hnm := (name_of_methodNamed Bd.named Bd.method).1
  have X0 : Stand p l e ({ frames := 5, cells := 2, slots := 19, locals := 88 } : Room) s m #[(.ref sb)] below meth c s₁ [] 0 0 := Stand.of_body Bd
  have e0 : s₁.heap = h0 := by rw [← hh, Bd.state]; rfl
  have N0 := Fr.nil n0
  have K0 : Keep h0 h0 [] := Keep.refl _ _
  refine own_go (S' := s₁.setTop (mkF m 0 #[.val (.ref sb)] [])) (fun tq kq => castTop (own_ef_rmTS m sb bv kb es G1) kq) ?_
  have lt1 : @LT.lt Nat _ sb h0.size := Pm0.lt
  have lt2 : @LT.lt Nat _ bv h0.size := Pm3.lt
  obtain ⟨T3, h3, X3, e3, E3, A3, D3, -, st3⟩ := newO X0 hx hZ hown (hw _ (own_mi 184 rfl)) (hw _ (own_mi 1 rfl)) (hw _ (own_mi 2 rfl)) e0 (g := (mkF m 0 #[.val (.ref sb)] [])) rfl (hb hby own_d28_0) (by decide) (by decide)
  obtain ⟨b3, g3⟩ : ∃ z, z = h0.size := ⟨_, rfl⟩
  rw [← g3] at A3 D3 st3
  refine own_go st3 ?_
  have sz4 : h0.size ≤ h3.size := E3.1
  have K4 := K0.ext E3
  have lt5 : @LT.lt Nat _ b3 h3.size := A3.lt
  have gn3 : n0 ≤ b3 := (Nat.le_trans (Nat.le_trans Z0 (Nat.le_refl _)) (Nat.le_of_eq g3.symm))
  have D3_coder : Fld Z h3 b3 "java/lang/String" "coder" "B" (.int (0 : Int32)) := D3 (Or.inr (hw _ (own_mi 27 rfl))) (ty := .byte) own_fd_B
  have D3_value : Fld Z h3 b3 "java/lang/String" "value" "[B" .null := D3 (Or.inr (hw _ (own_mi 29 rfl))) (ty := (.array .byte)) own_fd_5bB
  show own_Rn p e below _ (T3.setTop (mkF m 3 #[.val (.ref sb)] [(.ref b3)]))
  refine own_dp X3 hx 4 (hb hby own_d28_3) rfl rfl ?_
  refine own_aln X3 hx 5 (hb hby own_d28_4) rfl rfl rfl ?_
  have Zn6 : n0 ≤ h3.size := (Nat.le_trans Z0 sz4)
  have F7 : Exa Z h3 sb "java/lang/StringBuilder" := (Pm0.ext E3)
  have F8 : Fld Z h3 sb "java/lang/AbstractStringBuilder" "value" "[B" (.ref bv) := (Pm1.ext E3)
  have F9 : Fld Z h3 sb "java/lang/AbstractStringBuilder" "coder" "B" (.int (0 : Int32)) := (Pm2.ext E3)
  have F10 : Arv Z h3 bv kb .byte (16 : Int32) (own_bs es) (.int 0) := (Pm3.ext E3)
  have F11 : Fld Z h3 sb "java/lang/AbstractStringBuilder" "count" "I" (.int (Int32.ofNat es.length)) := (Pm4.ext E3)
  have F12 : Old Z n0 h3 := (X00.ext E3)
  refine own_cI X3 hx hZ (y := (⟨"java/lang/String", "<init>", "(Ljava/lang/StringBuilder;)V"⟩ : MethodName)) rfl hown (hw _ (own_mi 185 rfl)) (hw _ (own_mi 186 rfl)) (hw _ (own_mi 187 rfl)) (hw _ (own_mi 2 rfl)) (by decide) (rmI1 l Z a0 hw [] (b3) (sb) (bv) (kb) (es) (G1) h3 n0 Zn6 A3 D3_value D3_coder gn3 F7 F8 F9 F10 F11 (h15) (O2) (P5) F12) e3 [(.ref sb)] [(.ref b3)] rfl (by rw [hml]; rfl) (lenOf own_pd_28Ljava2flang2fStringBuilder3b29V rfl) rfl 1 (Nat.le_of_eq rfl) (by decide) (by decide) (by decide : 1 + 1 ≤ _) (by decide : 4 + 15 ≤ _) 8 (hb hby own_d28_5) rfl 2 19 rfl rfl ?_
  intro rv6 T6 Lc6 X6 hQ6
  obtain ⟨tt, ktt, rfl, Nq6, Kq6, G0_6, G1_6, G2_6, G3_6, G4_6⟩ := hQ6
  have N6 := Fr.app N0 Nq6
  have sz13 : h3.size ≤ T6.heap.size := Kq6.1
  have K13 := K4.trans Kq6 (allS (Or.inr (Nat.le_trans (Nat.le_refl _) (Nat.le_of_eq g3.symm))) all0)
  have lt14 : @LT.lt Nat _ tt T6.heap.size := G4_6.lt
  show own_Rn p e below _ (T6.setTop (mkF m 8 #[.val (.ref sb)] [(.ref b3)]))
  have F15 : Exa Z T6.heap b3 "java/lang/String" := (A3.keep Kq6)
  exact own_ret X6 (v := some (.ref b3)) (fun h => by rw [Bd.returns] at h; cases h) (fun fs hr => X6.areturnOut hx rfl Bd.returns rfl (hb hby own_d28_8) hr) (⟨b3, tt, ktt, rfl, N6, K13, (Nat.le_trans (Nat.le_refl _) (Nat.le_of_eq g3.symm)), gn3, (Nat.le_trans sz4 G0_6), G1_6, G2_6, G3_6, G4_6, F15⟩) (by decide) (by decide)
theorem own_ef_rmPI (m : MethodId) (o : Addr) (k : Addr) (a : Addr) (b : Addr) (dd : Addr) : entryFrame m #[(.ref o), (.ref k), (.ref a), (.ref b), (.int (1 : Int32)), (.int (0 : Int32)), (.int (0 : Int32)), (.int (0 : Int32)), (.ref dd)] 9 = mkF m 0 #[.val (.ref o), .val (.ref k), .val (.ref a), .val (.ref b), .val (.int (1 : Int32)), .val (.int (0 : Int32)), .val (.int (0 : Int32)), .val (.int (0 : Int32)), .val (.ref dd)] [] := by first | (simp [entryFrame, mkF, argsToLocals, Value.category]; done) | rfl
theorem own_pn_com_example_elodea_elodea_cli_Parameter : plainName "com/example/elodea/elodea/cli/Parameter" = true := by first | (simp [plainName, overriddenIn]; done) | decide +kernel
theorem own_d7_0 : decode prog_4_method_1_code 0 = .ok (.aload_n 0, 1) := by decide +kernel
theorem own_d7_1 : decode prog_4_method_1_code 1 = .ok (.invokespecial 1, 3) := by decide +kernel
theorem own_d7_4 : decode prog_4_method_1_code 4 = .ok (.aload_n 0, 1) := by decide +kernel
theorem own_d7_5 : decode prog_4_method_1_code 5 = .ok (.aload_n 1, 1) := by decide +kernel
theorem own_d7_6 : decode prog_4_method_1_code 6 = .ok (.putfield 7, 3) := by decide +kernel
theorem own_fd_Lcom2fexample2felodea2felodea2fcli2fParameter24Kind3b : parseFieldDescriptor "Lcom/example/elodea/elodea/cli/Parameter$Kind;" = some (.object "com/example/elodea/elodea/cli/Parameter$Kind") := by decide +kernel
theorem own_d7_9 : decode prog_4_method_1_code 9 = .ok (.aload_n 0, 1) := by decide +kernel
theorem own_d7_10 : decode prog_4_method_1_code 10 = .ok (.aload_n 2, 1) := by decide +kernel
theorem own_d7_11 : decode prog_4_method_1_code 11 = .ok (.putfield 13, 3) := by decide +kernel
theorem own_fd_Ljava2flang2fString3b : parseFieldDescriptor "Ljava/lang/String;" = some (.object "java/lang/String") := by decide +kernel
theorem own_d7_14 : decode prog_4_method_1_code 14 = .ok (.aload_n 0, 1) := by decide +kernel
theorem own_d7_15 : decode prog_4_method_1_code 15 = .ok (.aload_n 3, 1) := by decide +kernel
theorem own_d7_16 : decode prog_4_method_1_code 16 = .ok (.putfield 17, 3) := by decide +kernel
theorem own_d7_19 : decode prog_4_method_1_code 19 = .ok (.aload_n 0, 1) := by decide +kernel
theorem own_d7_20 : decode prog_4_method_1_code 20 = .ok (.iload 4, 2) := by decide +kernel
theorem own_d7_22 : decode prog_4_method_1_code 22 = .ok (.putfield 20, 3) := by decide +kernel
theorem own_fd_Z : parseFieldDescriptor "Z" = some .boolean := by decide +kernel
theorem own_d7_25 : decode prog_4_method_1_code 25 = .ok (.aload_n 0, 1) := by decide +kernel
theorem own_d7_26 : decode prog_4_method_1_code 26 = .ok (.iload 5, 2) := by decide +kernel
theorem own_d7_28 : decode prog_4_method_1_code 28 = .ok (.putfield 24, 3) := by decide +kernel
theorem own_d7_31 : decode prog_4_method_1_code 31 = .ok (.aload_n 0, 1) := by decide +kernel
theorem own_d7_32 : decode prog_4_method_1_code 32 = .ok (.iload 6, 2) := by decide +kernel
theorem own_d7_34 : decode prog_4_method_1_code 34 = .ok (.putfield 28, 3) := by decide +kernel
theorem own_d7_37 : decode prog_4_method_1_code 37 = .ok (.aload_n 0, 1) := by decide +kernel
theorem own_d7_38 : decode prog_4_method_1_code 38 = .ok (.iload 7, 2) := by decide +kernel
theorem own_d7_40 : decode prog_4_method_1_code 40 = .ok (.putfield 31, 3) := by decide +kernel
theorem own_d7_43 : decode prog_4_method_1_code 43 = .ok (.aload_n 0, 1) := by decide +kernel
theorem own_d7_44 : decode prog_4_method_1_code 44 = .ok (.aload 8, 2) := by decide +kernel
theorem own_d7_46 : decode prog_4_method_1_code 46 = .ok (.putfield 34, 3) := by decide +kernel
theorem own_d7_49 : decode prog_4_method_1_code 49 = .ok (.return_, 1) := by decide +kernel
def Q_rmPI (Z : State) (o : Addr) (k : Addr) (a : Addr) (b : Addr) (dd : Addr) (h0 : Heap) (n0 : Nat) (vq : Option Value) (hhq : Heap) (Lq : List Loc) : Prop := vq = none ∧ Fr n0 Lq ∧ Keep h0 hhq [o] ∧ Fld Z hhq o "com/example/elodea/elodea/cli/Parameter" "kind" "Lcom/example/elodea/elodea/cli/Parameter$Kind;" (.ref k) ∧ Fld Z hhq o "com/example/elodea/elodea/cli/Parameter" "name" "Ljava/lang/String;" (.ref a) ∧ Fld Z hhq o "com/example/elodea/elodea/cli/Parameter" "placeholder" "Ljava/lang/String;" (.ref b) ∧ Fld Z hhq o "com/example/elodea/elodea/cli/Parameter" "required" "Z" (.int (1 : Int32)) ∧ Fld Z hhq o "com/example/elodea/elodea/cli/Parameter" "least" "I" (.int (0 : Int32)) ∧ Fld Z hhq o "com/example/elodea/elodea/cli/Parameter" "repeated" "Z" (.int (0 : Int32)) ∧ Fld Z hhq o "com/example/elodea/elodea/cli/Parameter" "standIn" "Z" (.int (0 : Int32)) ∧ Fld Z hhq o "com/example/elodea/elodea/cli/Parameter" "description" "Ljava/lang/String;" (.ref dd)
set_option maxRecDepth 65536 in
set_option maxHeartbeats 40000000 in
theorem rmPI (l : Launch) (Z : State) (a0 : Array Value) (hw : ∀ d ∈ tables_1, d.before a0 Z = true) (ws : List Jvm.Cond) (o : Addr) (k : Addr) (a : Addr) (b : Addr) (dd : Addr) (h0 : Heap) (n0 : Nat) (Z0 : n0 ≤ h0.size) (Pm0 : Exa Z h0 o "com/example/elodea/elodea/cli/Parameter") (Pm1 : n0 ≤ o) (Pm2 : Fld Z h0 o "com/example/elodea/elodea/cli/Parameter" "kind" "Lcom/example/elodea/elodea/cli/Parameter$Kind;" .null) (Pm3 : Fld Z h0 o "com/example/elodea/elodea/cli/Parameter" "name" "Ljava/lang/String;" .null) (Pm4 : Fld Z h0 o "com/example/elodea/elodea/cli/Parameter" "placeholder" "Ljava/lang/String;" .null) (Pm5 : Fld Z h0 o "com/example/elodea/elodea/cli/Parameter" "required" "Z" (.int (0 : Int32))) (Pm6 : Fld Z h0 o "com/example/elodea/elodea/cli/Parameter" "least" "I" (.int (0 : Int32))) (Pm7 : Fld Z h0 o "com/example/elodea/elodea/cli/Parameter" "repeated" "Z" (.int (0 : Int32))) (Pm8 : Fld Z h0 o "com/example/elodea/elodea/cli/Parameter" "standIn" "Z" (.int (0 : Int32))) (Pm9 : Fld Z h0 o "com/example/elodea/elodea/cli/Parameter" "description" "Ljava/lang/String;" .null) :
    MetFree l (⟨"com/example/elodea/elodea/cli/Parameter", "<init>", "(Lcom/example/elodea/elodea/cli/Parameter$Kind;Ljava/lang/String;Ljava/lang/String;ZIZZLjava/lang/String;)V"⟩ : MethodName) (head1 (Jvm.Cond.code (⟨"com/example/elodea/elodea/cli/Parameter", "<init>", "(Lcom/example/elodea/elodea/cli/Parameter$Kind;Ljava/lang/String;Ljava/lang/String;ZIZZLjava/lang/String;)V"⟩ : MethodName) prog_4_method_1_code 9 none :: ws) ({ frames := 1, cells := 0, slots := 0, locals := 12 } : Room)) (fun aq U => aq = #[(.ref o), (.ref k), (.ref a), (.ref b), (.int (1 : Int32)), (.int (0 : Int32)), (.int (0 : Int32)), (.int (0 : Int32)), (.ref dd)] ∧ Z.Warmed39 U.vm ∧ U.heap = h0) (fun _ _ _ _ _ => True) (fun _ U oq U' => ∃ vq Lq, oq = .returned vq ∧ Q_rmPI Z o k a b dd h0 n0 vq U'.heap Lq ∧ FrameEnd U oq U' Lq ({ frames := 1, cells := 0, slots := 0, locals := 12 } : Room).cells ({ frames := 1, cells := 0, slots := 0, locals := 12 } : Room).slots) := by
  refine MetFree.of_bodySF (plainFor_of_name own_pn_com_example_elodea_elodea_cli_Parameter) hisR ?_
  intro p e s m args below meth c s₁ Bd hml0 hP hK
  obtain ⟨rfl, hZ, hh⟩ := hP
  have hx := Bd.exec
  have hby := Bd.bytes
  have hml : c.maxLocals = 9 := hml0
  have hown : s.vm.findClass "com/example/elodea/elodea/cli/Parameter" = some m.cls := findClass_of_methodNamed Bd.named
  have hnm := (name_of_methodNamed Bd.named Bd.method).1
  have X0 : Stand p l e ({ frames := 1, cells := 0, slots := 0, locals := 12 } : Room) s m #[(.ref o), (.ref k), (.ref a), (.ref b), (.int (1 : Int32)), (.int (0 : Int32)), (.int (0 : Int32)), (.int (0 : Int32)), (.ref dd)] below meth c s₁ [] 0 0 := Stand.of_body Bd
  have e0 : s₁.heap = h0 := by rw [← hh, Bd.state]; rfl
  have N0 := Fr.nil n0
  have K0 : Keep h0 h0 [o] := Keep.refl _ _
  refine own_go (S' := s₁.setTop (mkF m 0 #[.val (.ref o), .val (.ref k), .val (.ref a), .val (.ref b), .val (.int (1 : Int32)), .val (.int (0 : Int32)), .val (.int (0 : Int32)), .val (.int (0 : Int32)), .val (.ref dd)] [])) (fun tq kq => castTop (own_ef_rmPI m o k a b dd) kq) ?_
  have lt1 : @LT.lt Nat _ o h0.size := Pm0.lt
  refine own_aln X0 hx 1 (hb hby own_d7_0) rfl rfl rfl ?_
  obtain ⟨T2, X2, e2, st2⟩ := initO X0 hx hZ hown (hw _ (own_mi 42 rfl)) (hw _ (own_mi 12 rfl)) (hw _ (own_mi 13 rfl)) e0 (g := (mkF m 1 #[.val (.ref o), .val (.ref k), .val (.ref a), .val (.ref b), .val (.int (1 : Int32)), .val (.int (0 : Int32)), .val (.int (0 : Int32)), .val (.int (0 : Int32)), .val (.ref dd)] [(.ref o)])) rfl (by rw [hml]; rfl) rfl (hb hby own_d7_1) (by decide) (W := 0) (by show 2 * 0 + _ ≤ _; exact Nat.le_of_eq rfl) (by decide)
  refine own_go st2 ?_
  show own_Rn p e below _ (T2.setTop (mkF m 4 #[.val (.ref o), .val (.ref k), .val (.ref a), .val (.ref b), .val (.int (1 : Int32)), .val (.int (0 : Int32)), .val (.int (0 : Int32)), .val (.int (0 : Int32)), .val (.ref dd)] []))
  refine own_aln X2 hx 5 (hb hby own_d7_4) rfl rfl rfl ?_
  refine own_aln X2 hx 6 (hb hby own_d7_5) rfl rfl rfl ?_
  obtain ⟨T3, h3, X3, e3, W3, st3⟩ := putF X2 hx hZ hown (host := "") (Or.inl (hw _ (own_mi 43 rfl))) Via.refl e2 Pm2 Pm0 (Or.inr ⟨(hw _ (own_mi 44 rfl)), rfl, hnm⟩) (hw _ (own_mi 35 rfl)) (ty := (.object "com/example/elodea/elodea/cli/Parameter$Kind")) own_fd_Lcom2fexample2felodea2felodea2fcli2fParameter24Kind3b rfl rfl (g := (mkF m 6 #[.val (.ref o), .val (.ref k), .val (.ref a), .val (.ref b), .val (.int (1 : Int32)), .val (.int (0 : Int32)), .val (.int (0 : Int32)), .val (.int (0 : Int32)), .val (.ref dd)] [(.ref k), (.ref o)])) rfl rfl (hb hby own_d7_6)
  refine own_go st3 ?_
  have N3 := Fr.snoc X3 N0 Pm1
  have Fw3 := Pm2.same W3
  have sz4 : h0.size ≤ h3.size := Nat.le_of_eq (Wr.size W3).symm
  have K4 := K0.wr W3 (Or.inl (List.mem_of_getElem? (i := 0) rfl))
  show own_Rn p e below _ (T3.setTop (mkF m 9 #[.val (.ref o), .val (.ref k), .val (.ref a), .val (.ref b), .val (.int (1 : Int32)), .val (.int (0 : Int32)), .val (.int (0 : Int32)), .val (.int (0 : Int32)), .val (.ref dd)] []))
  refine own_aln X3 hx 10 (hb hby own_d7_9) rfl rfl rfl ?_
  refine own_aln X3 hx 11 (hb hby own_d7_10) rfl rfl rfl ?_
  have F5 : Fld Z h3 o "com/example/elodea/elodea/cli/Parameter" "name" "Ljava/lang/String;" .null := (Pm3.other W3 (Or.inr (slot_ne (Or.inr (hw _ (own_mi 46 rfl))) (Or.inr (hw _ (own_mi 44 rfl))) (by decide) (t := (.object "java/lang/String")) (t' := (.object "com/example/elodea/elodea/cli/Parameter$Kind")) own_fd_Ljava2flang2fString3b own_fd_Lcom2fexample2felodea2felodea2fcli2fParameter24Kind3b)))
  have F6 : Exa Z h3 o "com/example/elodea/elodea/cli/Parameter" := (Pm0.wr W3)
  obtain ⟨T7, h7, X7, e7, W7, st7⟩ := putF X3 hx hZ hown (host := "") (Or.inl (hw _ (own_mi 45 rfl))) Via.refl e3 F5 F6 (Or.inr ⟨(hw _ (own_mi 46 rfl)), rfl, hnm⟩) (hw _ (own_mi 35 rfl)) (ty := (.object "java/lang/String")) own_fd_Ljava2flang2fString3b rfl rfl (g := (mkF m 11 #[.val (.ref o), .val (.ref k), .val (.ref a), .val (.ref b), .val (.int (1 : Int32)), .val (.int (0 : Int32)), .val (.int (0 : Int32)), .val (.int (0 : Int32)), .val (.ref dd)] [(.ref a), (.ref o)])) rfl rfl (hb hby own_d7_11)
  refine own_go st7 ?_
  have N7 := Fr.snoc X7 N3 Pm1
  have Fw7 := F5.same W7
  have sz8 : h3.size ≤ h7.size := Nat.le_of_eq (Wr.size W7).symm
  have K8 := K4.wr W7 (Or.inl (List.mem_of_getElem? (i := 0) rfl))
  show own_Rn p e below _ (T7.setTop (mkF m 14 #[.val (.ref o), .val (.ref k), .val (.ref a), .val (.ref b), .val (.int (1 : Int32)), .val (.int (0 : Int32)), .val (.int (0 : Int32)), .val (.int (0 : Int32)), .val (.ref dd)] []))
  refine own_aln X7 hx 15 (hb hby own_d7_14) rfl rfl rfl ?_
  refine own_aln X7 hx 16 (hb hby own_d7_15) rfl rfl rfl ?_
  have F9 : Fld Z h7 o "com/example/elodea/elodea/cli/Parameter" "placeholder" "Ljava/lang/String;" .null := ((Pm4.other W3 (Or.inr (slot_ne (Or.inr (hw _ (own_mi 48 rfl))) (Or.inr (hw _ (own_mi 44 rfl))) (by decide) (t := (.object "java/lang/String")) (t' := (.object "com/example/elodea/elodea/cli/Parameter$Kind")) own_fd_Ljava2flang2fString3b own_fd_Lcom2fexample2felodea2felodea2fcli2fParameter24Kind3b))).other W7 (Or.inr (slot_ne (Or.inr (hw _ (own_mi 48 rfl))) (Or.inr (hw _ (own_mi 46 rfl))) (by decide) (t := (.object "java/lang/String")) (t' := (.object "java/lang/String")) own_fd_Ljava2flang2fString3b own_fd_Ljava2flang2fString3b)))
  have F10 : Exa Z h7 o "com/example/elodea/elodea/cli/Parameter" := (F6.wr W7)
  obtain ⟨T11, h11, X11, e11, W11, st11⟩ := putF X7 hx hZ hown (host := "") (Or.inl (hw _ (own_mi 47 rfl))) Via.refl e7 F9 F10 (Or.inr ⟨(hw _ (own_mi 48 rfl)), rfl, hnm⟩) (hw _ (own_mi 35 rfl)) (ty := (.object "java/lang/String")) own_fd_Ljava2flang2fString3b rfl rfl (g := (mkF m 16 #[.val (.ref o), .val (.ref k), .val (.ref a), .val (.ref b), .val (.int (1 : Int32)), .val (.int (0 : Int32)), .val (.int (0 : Int32)), .val (.int (0 : Int32)), .val (.ref dd)] [(.ref b), (.ref o)])) rfl rfl (hb hby own_d7_16)
  refine own_go st11 ?_
  have N11 := Fr.snoc X11 N7 Pm1
  have Fw11 := F9.same W11
  have sz12 : h7.size ≤ h11.size := Nat.le_of_eq (Wr.size W11).symm
  have K12 := K8.wr W11 (Or.inl (List.mem_of_getElem? (i := 0) rfl))
  show own_Rn p e below _ (T11.setTop (mkF m 19 #[.val (.ref o), .val (.ref k), .val (.ref a), .val (.ref b), .val (.int (1 : Int32)), .val (.int (0 : Int32)), .val (.int (0 : Int32)), .val (.int (0 : Int32)), .val (.ref dd)] []))
  refine own_aln X11 hx 20 (hb hby own_d7_19) rfl rfl rfl ?_
  refine own_il X11 hx 22 (hb hby own_d7_20) rfl rfl ?_
  have F13 : Fld Z h11 o "com/example/elodea/elodea/cli/Parameter" "required" "Z" (.int (0 : Int32)) := (((Pm5.other W3 (Or.inr (slot_ne (Or.inr (hw _ (own_mi 50 rfl))) (Or.inr (hw _ (own_mi 44 rfl))) (by decide) (t := .boolean) (t' := (.object "com/example/elodea/elodea/cli/Parameter$Kind")) own_fd_Z own_fd_Lcom2fexample2felodea2felodea2fcli2fParameter24Kind3b))).other W7 (Or.inr (slot_ne (Or.inr (hw _ (own_mi 50 rfl))) (Or.inr (hw _ (own_mi 46 rfl))) (by decide) (t := .boolean) (t' := (.object "java/lang/String")) own_fd_Z own_fd_Ljava2flang2fString3b))).other W11 (Or.inr (slot_ne (Or.inr (hw _ (own_mi 50 rfl))) (Or.inr (hw _ (own_mi 48 rfl))) (by decide) (t := .boolean) (t' := (.object "java/lang/String")) own_fd_Z own_fd_Ljava2flang2fString3b)))
  have F14 : Exa Z h11 o "com/example/elodea/elodea/cli/Parameter" := (F10.wr W11)
  obtain ⟨T15, h15, X15, e15, W15, st15⟩ := putFN X11 hx hZ hown (hw _ (own_mi 49 rfl)) Via.refl e11 F13 F14 (Or.inr ⟨(hw _ (own_mi 50 rfl)), rfl, hnm⟩) (hw _ (own_mi 35 rfl)) (ty := .boolean) (v' := (.int ((1 : Int32)))) own_fd_Z rfl (by decide) (g := (mkF m 22 #[.val (.ref o), .val (.ref k), .val (.ref a), .val (.ref b), .val (.int (1 : Int32)), .val (.int (0 : Int32)), .val (.int (0 : Int32)), .val (.int (0 : Int32)), .val (.ref dd)] [(.int (1 : Int32)), (.ref o)])) rfl rfl (hb hby own_d7_22)
  refine own_go st15 ?_
  have N15 := Fr.snoc X15 N11 Pm1
  have Fw15 := F13.same W15
  have sz16 : h11.size ≤ h15.size := Nat.le_of_eq (Wr.size W15).symm
  have K16 := K12.wr W15 (Or.inl (List.mem_of_getElem? (i := 0) rfl))
  show own_Rn p e below _ (T15.setTop (mkF m 25 #[.val (.ref o), .val (.ref k), .val (.ref a), .val (.ref b), .val (.int (1 : Int32)), .val (.int (0 : Int32)), .val (.int (0 : Int32)), .val (.int (0 : Int32)), .val (.ref dd)] []))
  refine own_aln X15 hx 26 (hb hby own_d7_25) rfl rfl rfl ?_
  refine own_il X15 hx 28 (hb hby own_d7_26) rfl rfl ?_
  have F17 : Fld Z h15 o "com/example/elodea/elodea/cli/Parameter" "least" "I" (.int (0 : Int32)) := ((((Pm6.other W3 (Or.inr (slot_ne (Or.inr (hw _ (own_mi 52 rfl))) (Or.inr (hw _ (own_mi 44 rfl))) (by decide) (t := .int) (t' := (.object "com/example/elodea/elodea/cli/Parameter$Kind")) own_fd_I own_fd_Lcom2fexample2felodea2felodea2fcli2fParameter24Kind3b))).other W7 (Or.inr (slot_ne (Or.inr (hw _ (own_mi 52 rfl))) (Or.inr (hw _ (own_mi 46 rfl))) (by decide) (t := .int) (t' := (.object "java/lang/String")) own_fd_I own_fd_Ljava2flang2fString3b))).other W11 (Or.inr (slot_ne (Or.inr (hw _ (own_mi 52 rfl))) (Or.inr (hw _ (own_mi 48 rfl))) (by decide) (t := .int) (t' := (.object "java/lang/String")) own_fd_I own_fd_Ljava2flang2fString3b))).other W15 (Or.inr (slot_ne (Or.inr (hw _ (own_mi 52 rfl))) (Or.inr (hw _ (own_mi 50 rfl))) (by decide) (t := .int) (t' := .boolean) own_fd_I own_fd_Z)))
  have F18 : Exa Z h15 o "com/example/elodea/elodea/cli/Parameter" := (F14.wr W15)
  obtain ⟨T19, h19, X19, e19, W19, st19⟩ := putF X15 hx hZ hown (host := "") (Or.inl (hw _ (own_mi 51 rfl))) Via.refl e15 F17 F18 (Or.inr ⟨(hw _ (own_mi 52 rfl)), rfl, hnm⟩) (hw _ (own_mi 35 rfl)) (ty := .int) own_fd_I rfl rfl (g := (mkF m 28 #[.val (.ref o), .val (.ref k), .val (.ref a), .val (.ref b), .val (.int (1 : Int32)), .val (.int (0 : Int32)), .val (.int (0 : Int32)), .val (.int (0 : Int32)), .val (.ref dd)] [(.int (0 : Int32)), (.ref o)])) rfl rfl (hb hby own_d7_28)
  refine own_go st19 ?_
  have N19 := Fr.snoc X19 N15 Pm1
  have Fw19 := F17.same W19
  have sz20 : h15.size ≤ h19.size := Nat.le_of_eq (Wr.size W19).symm
  have K20 := K16.wr W19 (Or.inl (List.mem_of_getElem? (i := 0) rfl))
  show own_Rn p e below _ (T19.setTop (mkF m 31 #[.val (.ref o), .val (.ref k), .val (.ref a), .val (.ref b), .val (.int (1 : Int32)), .val (.int (0 : Int32)), .val (.int (0 : Int32)), .val (.int (0 : Int32)), .val (.ref dd)] []))
  refine own_aln X19 hx 32 (hb hby own_d7_31) rfl rfl rfl ?_
  refine own_il X19 hx 34 (hb hby own_d7_32) rfl rfl ?_
  have F21 : Fld Z h19 o "com/example/elodea/elodea/cli/Parameter" "repeated" "Z" (.int (0 : Int32)) := (((((Pm7.other W3 (Or.inr (slot_ne (Or.inr (hw _ (own_mi 54 rfl))) (Or.inr (hw _ (own_mi 44 rfl))) (by decide) (t := .boolean) (t' := (.object "com/example/elodea/elodea/cli/Parameter$Kind")) own_fd_Z own_fd_Lcom2fexample2felodea2felodea2fcli2fParameter24Kind3b))).other W7 (Or.inr (slot_ne (Or.inr (hw _ (own_mi 54 rfl))) (Or.inr (hw _ (own_mi 46 rfl))) (by decide) (t := .boolean) (t' := (.object "java/lang/String")) own_fd_Z own_fd_Ljava2flang2fString3b))).other W11 (Or.inr (slot_ne (Or.inr (hw _ (own_mi 54 rfl))) (Or.inr (hw _ (own_mi 48 rfl))) (by decide) (t := .boolean) (t' := (.object "java/lang/String")) own_fd_Z own_fd_Ljava2flang2fString3b))).other W15 (Or.inr (slot_ne (Or.inr (hw _ (own_mi 54 rfl))) (Or.inr (hw _ (own_mi 50 rfl))) (by decide) (t := .boolean) (t' := .boolean) own_fd_Z own_fd_Z))).other W19 (Or.inr (slot_ne (Or.inr (hw _ (own_mi 54 rfl))) (Or.inr (hw _ (own_mi 52 rfl))) (by decide) (t := .boolean) (t' := .int) own_fd_Z own_fd_I)))
  have F22 : Exa Z h19 o "com/example/elodea/elodea/cli/Parameter" := (F18.wr W19)
  obtain ⟨T23, h23, X23, e23, W23, st23⟩ := putFN X19 hx hZ hown (hw _ (own_mi 53 rfl)) Via.refl e19 F21 F22 (Or.inr ⟨(hw _ (own_mi 54 rfl)), rfl, hnm⟩) (hw _ (own_mi 35 rfl)) (ty := .boolean) (v' := (.int ((0 : Int32)))) own_fd_Z rfl (by decide) (g := (mkF m 34 #[.val (.ref o), .val (.ref k), .val (.ref a), .val (.ref b), .val (.int (1 : Int32)), .val (.int (0 : Int32)), .val (.int (0 : Int32)), .val (.int (0 : Int32)), .val (.ref dd)] [(.int (0 : Int32)), (.ref o)])) rfl rfl (hb hby own_d7_34)
  refine own_go st23 ?_
  have N23 := Fr.snoc X23 N19 Pm1
  have Fw23 := F21.same W23
  have sz24 : h19.size ≤ h23.size := Nat.le_of_eq (Wr.size W23).symm
  have K24 := K20.wr W23 (Or.inl (List.mem_of_getElem? (i := 0) rfl))
  show own_Rn p e below _ (T23.setTop (mkF m 37 #[.val (.ref o), .val (.ref k), .val (.ref a), .val (.ref b), .val (.int (1 : Int32)), .val (.int (0 : Int32)), .val (.int (0 : Int32)), .val (.int (0 : Int32)), .val (.ref dd)] []))
  refine own_aln X23 hx 38 (hb hby own_d7_37) rfl rfl rfl ?_
  refine own_il X23 hx 40 (hb hby own_d7_38) rfl rfl ?_
  have F25 : Fld Z h23 o "com/example/elodea/elodea/cli/Parameter" "standIn" "Z" (.int (0 : Int32)) := ((((((Pm8.other W3 (Or.inr (slot_ne (Or.inr (hw _ (own_mi 56 rfl))) (Or.inr (hw _ (own_mi 44 rfl))) (by decide) (t := .boolean) (t' := (.object "com/example/elodea/elodea/cli/Parameter$Kind")) own_fd_Z own_fd_Lcom2fexample2felodea2felodea2fcli2fParameter24Kind3b))).other W7 (Or.inr (slot_ne (Or.inr (hw _ (own_mi 56 rfl))) (Or.inr (hw _ (own_mi 46 rfl))) (by decide) (t := .boolean) (t' := (.object "java/lang/String")) own_fd_Z own_fd_Ljava2flang2fString3b))).other W11 (Or.inr (slot_ne (Or.inr (hw _ (own_mi 56 rfl))) (Or.inr (hw _ (own_mi 48 rfl))) (by decide) (t := .boolean) (t' := (.object "java/lang/String")) own_fd_Z own_fd_Ljava2flang2fString3b))).other W15 (Or.inr (slot_ne (Or.inr (hw _ (own_mi 56 rfl))) (Or.inr (hw _ (own_mi 50 rfl))) (by decide) (t := .boolean) (t' := .boolean) own_fd_Z own_fd_Z))).other W19 (Or.inr (slot_ne (Or.inr (hw _ (own_mi 56 rfl))) (Or.inr (hw _ (own_mi 52 rfl))) (by decide) (t := .boolean) (t' := .int) own_fd_Z own_fd_I))).other W23 (Or.inr (slot_ne (Or.inr (hw _ (own_mi 56 rfl))) (Or.inr (hw _ (own_mi 54 rfl))) (by decide) (t := .boolean) (t' := .boolean) own_fd_Z own_fd_Z)))
  have F26 : Exa Z h23 o "com/example/elodea/elodea/cli/Parameter" := (F22.wr W23)
  obtain ⟨T27, h27, X27, e27, W27, st27⟩ := putFN X23 hx hZ hown (hw _ (own_mi 55 rfl)) Via.refl e23 F25 F26 (Or.inr ⟨(hw _ (own_mi 56 rfl)), rfl, hnm⟩) (hw _ (own_mi 35 rfl)) (ty := .boolean) (v' := (.int ((0 : Int32)))) own_fd_Z rfl (by decide) (g := (mkF m 40 #[.val (.ref o), .val (.ref k), .val (.ref a), .val (.ref b), .val (.int (1 : Int32)), .val (.int (0 : Int32)), .val (.int (0 : Int32)), .val (.int (0 : Int32)), .val (.ref dd)] [(.int (0 : Int32)), (.ref o)])) rfl rfl (hb hby own_d7_40)
  refine own_go st27 ?_
  have N27 := Fr.snoc X27 N23 Pm1
  have Fw27 := F25.same W27
  have sz28 : h23.size ≤ h27.size := Nat.le_of_eq (Wr.size W27).symm
  have K28 := K24.wr W27 (Or.inl (List.mem_of_getElem? (i := 0) rfl))
  show own_Rn p e below _ (T27.setTop (mkF m 43 #[.val (.ref o), .val (.ref k), .val (.ref a), .val (.ref b), .val (.int (1 : Int32)), .val (.int (0 : Int32)), .val (.int (0 : Int32)), .val (.int (0 : Int32)), .val (.ref dd)] []))
  refine own_aln X27 hx 44 (hb hby own_d7_43) rfl rfl rfl ?_
  refine own_al X27 hx 46 (hb hby own_d7_44) rfl rfl rfl ?_
  have F29 : Fld Z h27 o "com/example/elodea/elodea/cli/Parameter" "description" "Ljava/lang/String;" .null := (((((((Pm9.other W3 (Or.inr (slot_ne (Or.inr (hw _ (own_mi 58 rfl))) (Or.inr (hw _ (own_mi 44 rfl))) (by decide) (t := (.object "java/lang/String")) (t' := (.object "com/example/elodea/elodea/cli/Parameter$Kind")) own_fd_Ljava2flang2fString3b own_fd_Lcom2fexample2felodea2felodea2fcli2fParameter24Kind3b))).other W7 (Or.inr (slot_ne (Or.inr (hw _ (own_mi 58 rfl))) (Or.inr (hw _ (own_mi 46 rfl))) (by decide) (t := (.object "java/lang/String")) (t' := (.object "java/lang/String")) own_fd_Ljava2flang2fString3b own_fd_Ljava2flang2fString3b))).other W11 (Or.inr (slot_ne (Or.inr (hw _ (own_mi 58 rfl))) (Or.inr (hw _ (own_mi 48 rfl))) (by decide) (t := (.object "java/lang/String")) (t' := (.object "java/lang/String")) own_fd_Ljava2flang2fString3b own_fd_Ljava2flang2fString3b))).other W15 (Or.inr (slot_ne (Or.inr (hw _ (own_mi 58 rfl))) (Or.inr (hw _ (own_mi 50 rfl))) (by decide) (t := (.object "java/lang/String")) (t' := .boolean) own_fd_Ljava2flang2fString3b own_fd_Z))).other W19 (Or.inr (slot_ne (Or.inr (hw _ (own_mi 58 rfl))) (Or.inr (hw _ (own_mi 52 rfl))) (by decide) (t := (.object "java/lang/String")) (t' := .int) own_fd_Ljava2flang2fString3b own_fd_I))).other W23 (Or.inr (slot_ne (Or.inr (hw _ (own_mi 58 rfl))) (Or.inr (hw _ (own_mi 54 rfl))) (by decide) (t := (.object "java/lang/String")) (t' := .boolean) own_fd_Ljava2flang2fString3b own_fd_Z))).other W27 (Or.inr (slot_ne (Or.inr (hw _ (own_mi 58 rfl))) (Or.inr (hw _ (own_mi 56 rfl))) (by decide) (t := (.object "java/lang/String")) (t' := .boolean) own_fd_Ljava2flang2fString3b own_fd_Z)))
  have F30 : Exa Z h27 o "com/example/elodea/elodea/cli/Parameter" := (F26.wr W27)
  obtain ⟨T31, h31, X31, e31, W31, st31⟩ := putF X27 hx hZ hown (host := "") (Or.inl (hw _ (own_mi 57 rfl))) Via.refl e27 F29 F30 (Or.inr ⟨(hw _ (own_mi 58 rfl)), rfl, hnm⟩) (hw _ (own_mi 35 rfl)) (ty := (.object "java/lang/String")) own_fd_Ljava2flang2fString3b rfl rfl (g := (mkF m 46 #[.val (.ref o), .val (.ref k), .val (.ref a), .val (.ref b), .val (.int (1 : Int32)), .val (.int (0 : Int32)), .val (.int (0 : Int32)), .val (.int (0 : Int32)), .val (.ref dd)] [(.ref dd), (.ref o)])) rfl rfl (hb hby own_d7_46)
  refine own_go st31 ?_
  have N31 := Fr.snoc X31 N27 Pm1
  have Fw31 := F29.same W31
  have sz32 : h27.size ≤ h31.size := Nat.le_of_eq (Wr.size W31).symm
  have K32 := K28.wr W31 (Or.inl (List.mem_of_getElem? (i := 0) rfl))
  show own_Rn p e below _ (T31.setTop (mkF m 49 #[.val (.ref o), .val (.ref k), .val (.ref a), .val (.ref b), .val (.int (1 : Int32)), .val (.int (0 : Int32)), .val (.int (0 : Int32)), .val (.int (0 : Int32)), .val (.ref dd)] []))
  have F33 : Fld Z h31 o "com/example/elodea/elodea/cli/Parameter" "kind" "Lcom/example/elodea/elodea/cli/Parameter$Kind;" (.ref k) := (((((((Fw3.other W7 (Or.inr (slot_ne (Or.inr (hw _ (own_mi 44 rfl))) (Or.inr (hw _ (own_mi 46 rfl))) (by decide) (t := (.object "com/example/elodea/elodea/cli/Parameter$Kind")) (t' := (.object "java/lang/String")) own_fd_Lcom2fexample2felodea2felodea2fcli2fParameter24Kind3b own_fd_Ljava2flang2fString3b))).other W11 (Or.inr (slot_ne (Or.inr (hw _ (own_mi 44 rfl))) (Or.inr (hw _ (own_mi 48 rfl))) (by decide) (t := (.object "com/example/elodea/elodea/cli/Parameter$Kind")) (t' := (.object "java/lang/String")) own_fd_Lcom2fexample2felodea2felodea2fcli2fParameter24Kind3b own_fd_Ljava2flang2fString3b))).other W15 (Or.inr (slot_ne (Or.inr (hw _ (own_mi 44 rfl))) (Or.inr (hw _ (own_mi 50 rfl))) (by decide) (t := (.object "com/example/elodea/elodea/cli/Parameter$Kind")) (t' := .boolean) own_fd_Lcom2fexample2felodea2felodea2fcli2fParameter24Kind3b own_fd_Z))).other W19 (Or.inr (slot_ne (Or.inr (hw _ (own_mi 44 rfl))) (Or.inr (hw _ (own_mi 52 rfl))) (by decide) (t := (.object "com/example/elodea/elodea/cli/Parameter$Kind")) (t' := .int) own_fd_Lcom2fexample2felodea2felodea2fcli2fParameter24Kind3b own_fd_I))).other W23 (Or.inr (slot_ne (Or.inr (hw _ (own_mi 44 rfl))) (Or.inr (hw _ (own_mi 54 rfl))) (by decide) (t := (.object "com/example/elodea/elodea/cli/Parameter$Kind")) (t' := .boolean) own_fd_Lcom2fexample2felodea2felodea2fcli2fParameter24Kind3b own_fd_Z))).other W27 (Or.inr (slot_ne (Or.inr (hw _ (own_mi 44 rfl))) (Or.inr (hw _ (own_mi 56 rfl))) (by decide) (t := (.object "com/example/elodea/elodea/cli/Parameter$Kind")) (t' := .boolean) own_fd_Lcom2fexample2felodea2felodea2fcli2fParameter24Kind3b own_fd_Z))).other W31 (Or.inr (slot_ne (Or.inr (hw _ (own_mi 44 rfl))) (Or.inr (hw _ (own_mi 58 rfl))) (by decide) (t := (.object "com/example/elodea/elodea/cli/Parameter$Kind")) (t' := (.object "java/lang/String")) own_fd_Lcom2fexample2felodea2felodea2fcli2fParameter24Kind3b own_fd_Ljava2flang2fString3b)))
  have F34 : Fld Z h31 o "com/example/elodea/elodea/cli/Parameter" "name" "Ljava/lang/String;" (.ref a) := ((((((Fw7.other W11 (Or.inr (slot_ne (Or.inr (hw _ (own_mi 46 rfl))) (Or.inr (hw _ (own_mi 48 rfl))) (by decide) (t := (.object "java/lang/String")) (t' := (.object "java/lang/String")) own_fd_Ljava2flang2fString3b own_fd_Ljava2flang2fString3b))).other W15 (Or.inr (slot_ne (Or.inr (hw _ (own_mi 46 rfl))) (Or.inr (hw _ (own_mi 50 rfl))) (by decide) (t := (.object "java/lang/String")) (t' := .boolean) own_fd_Ljava2flang2fString3b own_fd_Z))).other W19 (Or.inr (slot_ne (Or.inr (hw _ (own_mi 46 rfl))) (Or.inr (hw _ (own_mi 52 rfl))) (by decide) (t := (.object "java/lang/String")) (t' := .int) own_fd_Ljava2flang2fString3b own_fd_I))).other W23 (Or.inr (slot_ne (Or.inr (hw _ (own_mi 46 rfl))) (Or.inr (hw _ (own_mi 54 rfl))) (by decide) (t := (.object "java/lang/String")) (t' := .boolean) own_fd_Ljava2flang2fString3b own_fd_Z))).other W27 (Or.inr (slot_ne (Or.inr (hw _ (own_mi 46 rfl))) (Or.inr (hw _ (own_mi 56 rfl))) (by decide) (t := (.object "java/lang/String")) (t' := .boolean) own_fd_Ljava2flang2fString3b own_fd_Z))).other W31 (Or.inr (slot_ne (Or.inr (hw _ (own_mi 46 rfl))) (Or.inr (hw _ (own_mi 58 rfl))) (by decide) (t := (.object "java/lang/String")) (t' := (.object "java/lang/String")) own_fd_Ljava2flang2fString3b own_fd_Ljava2flang2fString3b)))
  have F35 : Fld Z h31 o "com/example/elodea/elodea/cli/Parameter" "placeholder" "Ljava/lang/String;" (.ref b) := (((((Fw11.other W15 (Or.inr (slot_ne (Or.inr (hw _ (own_mi 48 rfl))) (Or.inr (hw _ (own_mi 50 rfl))) (by decide) (t := (.object "java/lang/String")) (t' := .boolean) own_fd_Ljava2flang2fString3b own_fd_Z))).other W19 (Or.inr (slot_ne (Or.inr (hw _ (own_mi 48 rfl))) (Or.inr (hw _ (own_mi 52 rfl))) (by decide) (t := (.object "java/lang/String")) (t' := .int) own_fd_Ljava2flang2fString3b own_fd_I))).other W23 (Or.inr (slot_ne (Or.inr (hw _ (own_mi 48 rfl))) (Or.inr (hw _ (own_mi 54 rfl))) (by decide) (t := (.object "java/lang/String")) (t' := .boolean) own_fd_Ljava2flang2fString3b own_fd_Z))).other W27 (Or.inr (slot_ne (Or.inr (hw _ (own_mi 48 rfl))) (Or.inr (hw _ (own_mi 56 rfl))) (by decide) (t := (.object "java/lang/String")) (t' := .boolean) own_fd_Ljava2flang2fString3b own_fd_Z))).other W31 (Or.inr (slot_ne (Or.inr (hw _ (own_mi 48 rfl))) (Or.inr (hw _ (own_mi 58 rfl))) (by decide) (t := (.object "java/lang/String")) (t' := (.object "java/lang/String")) own_fd_Ljava2flang2fString3b own_fd_Ljava2flang2fString3b)))
  have F36 : Fld Z h31 o "com/example/elodea/elodea/cli/Parameter" "required" "Z" (.int (1 : Int32)) := ((((Fw15.other W19 (Or.inr (slot_ne (Or.inr (hw _ (own_mi 50 rfl))) (Or.inr (hw _ (own_mi 52 rfl))) (by decide) (t := .boolean) (t' := .int) own_fd_Z own_fd_I))).other W23 (Or.inr (slot_ne (Or.inr (hw _ (own_mi 50 rfl))) (Or.inr (hw _ (own_mi 54 rfl))) (by decide) (t := .boolean) (t' := .boolean) own_fd_Z own_fd_Z))).other W27 (Or.inr (slot_ne (Or.inr (hw _ (own_mi 50 rfl))) (Or.inr (hw _ (own_mi 56 rfl))) (by decide) (t := .boolean) (t' := .boolean) own_fd_Z own_fd_Z))).other W31 (Or.inr (slot_ne (Or.inr (hw _ (own_mi 50 rfl))) (Or.inr (hw _ (own_mi 58 rfl))) (by decide) (t := .boolean) (t' := (.object "java/lang/String")) own_fd_Z own_fd_Ljava2flang2fString3b)))
  have F37 : Fld Z h31 o "com/example/elodea/elodea/cli/Parameter" "least" "I" (.int (0 : Int32)) := (((Fw19.other W23 (Or.inr (slot_ne (Or.inr (hw _ (own_mi 52 rfl))) (Or.inr (hw _ (own_mi 54 rfl))) (by decide) (t := .int) (t' := .boolean) own_fd_I own_fd_Z))).other W27 (Or.inr (slot_ne (Or.inr (hw _ (own_mi 52 rfl))) (Or.inr (hw _ (own_mi 56 rfl))) (by decide) (t := .int) (t' := .boolean) own_fd_I own_fd_Z))).other W31 (Or.inr (slot_ne (Or.inr (hw _ (own_mi 52 rfl))) (Or.inr (hw _ (own_mi 58 rfl))) (by decide) (t := .int) (t' := (.object "java/lang/String")) own_fd_I own_fd_Ljava2flang2fString3b)))
  have F38 : Fld Z h31 o "com/example/elodea/elodea/cli/Parameter" "repeated" "Z" (.int (0 : Int32)) := ((Fw23.other W27 (Or.inr (slot_ne (Or.inr (hw _ (own_mi 54 rfl))) (Or.inr (hw _ (own_mi 56 rfl))) (by decide) (t := .boolean) (t' := .boolean) own_fd_Z own_fd_Z))).other W31 (Or.inr (slot_ne (Or.inr (hw _ (own_mi 54 rfl))) (Or.inr (hw _ (own_mi 58 rfl))) (by decide) (t := .boolean) (t' := (.object "java/lang/String")) own_fd_Z own_fd_Ljava2flang2fString3b)))
  have F39 : Fld Z h31 o "com/example/elodea/elodea/cli/Parameter" "standIn" "Z" (.int (0 : Int32)) := (Fw27.other W31 (Or.inr (slot_ne (Or.inr (hw _ (own_mi 56 rfl))) (Or.inr (hw _ (own_mi 58 rfl))) (by decide) (t := .boolean) (t' := (.object "java/lang/String")) own_fd_Z own_fd_Ljava2flang2fString3b)))
  exact own_ret X31 (v := none) (fun _ => rfl) (fun fs hr => X31.returnOut hx Bd.returns (hb hby own_d7_49) hr) (by rw [e31]; exact ⟨rfl, N31, K32, F33, F34, F35, F36, F37, F38, F39, Fw31⟩) (by decide) (by decide)
theorem own_ef_rmOpt (m : MethodId) (a : Addr) (b : Addr) (dd : Addr) (ko : Addr) : entryFrame m #[(.ref a), (.ref b), (.ref dd)] 3 = mkF m 0 #[.val (.ref a), .val (.ref b), .val (.ref dd)] [] := by first | (simp [entryFrame, mkF, argsToLocals, Value.category]; done) | rfl
theorem own_d6_0 : decode prog_4_method_2_code 0 = .ok (.new 8, 3) := by decide +kernel
theorem own_d6_3 : decode prog_4_method_2_code 3 = .ok (.dup, 1) := by decide +kernel
theorem own_d6_4 : decode prog_4_method_2_code 4 = .ok (.getstatic 37, 3) := by decide +kernel
theorem own_d6_7 : decode prog_4_method_2_code 7 = .ok (.aload_n 0, 1) := by decide +kernel
theorem own_d6_8 : decode prog_4_method_2_code 8 = .ok (.aload_n 1, 1) := by decide +kernel
theorem own_d6_9 : decode prog_4_method_2_code 9 = .ok (.iconst 1, 1) := by decide +kernel
theorem own_d6_10 : decode prog_4_method_2_code 10 = .ok (.iconst 0, 1) := by decide +kernel
theorem own_d6_11 : decode prog_4_method_2_code 11 = .ok (.iconst 0, 1) := by decide +kernel
theorem own_d6_12 : decode prog_4_method_2_code 12 = .ok (.iconst 0, 1) := by decide +kernel
theorem own_d6_13 : decode prog_4_method_2_code 13 = .ok (.aload_n 2, 1) := by decide +kernel
theorem own_d6_14 : decode prog_4_method_2_code 14 = .ok (.invokespecial 42, 3) := by decide +kernel
theorem own_pd_28Lcom2fexample2felodea2felodea2fcli2fParameter24Kind3bLjava2flang2fString3bLjava2flang2fString3bZIZZLjava2flang2fString3b29V : parseMethodDescriptor "(Lcom/example/elodea/elodea/cli/Parameter$Kind;Ljava/lang/String;Ljava/lang/String;ZIZZLjava/lang/String;)V" = some ⟨[(.object "com/example/elodea/elodea/cli/Parameter$Kind"), (.object "java/lang/String"), (.object "java/lang/String"), .boolean, .int, .boolean, .boolean, (.object "java/lang/String")], none⟩ := by decide +kernel
theorem own_d6_17 : decode prog_4_method_2_code 17 = .ok (.areturn, 1) := by decide +kernel
def Q_rmOpt (Z : State) (a : Addr) (b : Addr) (dd : Addr) (ko : Addr) (h0 : Heap) (n0 : Nat) (vq : Option Value) (hhq : Heap) (Lq : List Loc) : Prop := ∃ (o : Addr), vq = some (.ref o) ∧ Fr n0 Lq ∧ Keep h0 hhq [] ∧ Exa Z hhq o "com/example/elodea/elodea/cli/Parameter" ∧ Fld Z hhq o "com/example/elodea/elodea/cli/Parameter" "kind" "Lcom/example/elodea/elodea/cli/Parameter$Kind;" (.ref ko) ∧ Fld Z hhq o "com/example/elodea/elodea/cli/Parameter" "name" "Ljava/lang/String;" (.ref a) ∧ Fld Z hhq o "com/example/elodea/elodea/cli/Parameter" "placeholder" "Ljava/lang/String;" (.ref b) ∧ Fld Z hhq o "com/example/elodea/elodea/cli/Parameter" "required" "Z" (.int (1 : Int32)) ∧ Fld Z hhq o "com/example/elodea/elodea/cli/Parameter" "least" "I" (.int (0 : Int32)) ∧ Fld Z hhq o "com/example/elodea/elodea/cli/Parameter" "repeated" "Z" (.int (0 : Int32)) ∧ Fld Z hhq o "com/example/elodea/elodea/cli/Parameter" "standIn" "Z" (.int (0 : Int32)) ∧ Fld Z hhq o "com/example/elodea/elodea/cli/Parameter" "description" "Ljava/lang/String;" (.ref dd)
set_option maxRecDepth 65536 in
set_option maxHeartbeats 40000000 in
theorem rmOpt (l : Launch) (Z : State) (a0 : Array Value) (hw : ∀ d ∈ tables_1, d.before a0 Z = true) (ws : List Jvm.Cond) (a : Addr) (b : Addr) (dd : Addr) (ko : Addr) (h0 : Heap) (n0 : Nat) (Z0 : n0 ≤ h0.size) (OO : Sta Z Z.heap "com/example/elodea/elodea/cli/Parameter$Kind" "OPTION" "Lcom/example/elodea/elodea/cli/Parameter$Kind;" (.ref ko)) (X00 : Old Z n0 h0) :
    MetFree l (⟨"com/example/elodea/elodea/cli/Parameter", "option", "(Ljava/lang/String;Ljava/lang/String;Ljava/lang/String;)Lcom/example/elodea/elodea/cli/Parameter;"⟩ : MethodName) (head1 (Jvm.Cond.code (⟨"com/example/elodea/elodea/cli/Parameter", "option", "(Ljava/lang/String;Ljava/lang/String;Ljava/lang/String;)Lcom/example/elodea/elodea/cli/Parameter;"⟩ : MethodName) prog_4_method_2_code 3 (some (.object "com/example/elodea/elodea/cli/Parameter")) :: ws) ({ frames := 2, cells := 1, slots := 8, locals := 33 } : Room)) (fun aq U => aq = #[(.ref a), (.ref b), (.ref dd)] ∧ Z.Warmed39 U.vm ∧ U.heap = h0) (fun _ _ _ _ _ => True) (fun _ U oq U' => ∃ vq Lq, oq = .returned vq ∧ Q_rmOpt Z a b dd ko h0 n0 vq U'.heap Lq ∧ FrameEnd U oq U' Lq ({ frames := 2, cells := 1, slots := 8, locals := 33 } : Room).cells ({ frames := 2, cells := 1, slots := 8, locals := 33 } : Room).slots) := by
  refine MetFree.of_bodySF (plainFor_of_name own_pn_com_example_elodea_elodea_cli_Parameter) hisR ?_
  intro p e s m args below meth c s₁ Bd hml0 hP hK
  obtain ⟨rfl, hZ, hh⟩ := hP
  have hx := Bd.exec
  have hby := Bd.bytes
  have hml : c.maxLocals = 3 := hml0
  have hown : s.vm.findClass "com/example/elodea/elodea/cli/Parameter" = some m.cls := findClass_of_methodNamed Bd.named
  have hnm := (name_of_methodNamed Bd.named Bd.method).1
  have X0 : Stand p l e ({ frames := 2, cells := 1, slots := 8, locals := 33 } : Room) s m #[(.ref a), (.ref b), (.ref dd)] below meth c s₁ [] 0 0 := Stand.of_body Bd
  have e0 : s₁.heap = h0 := by rw [← hh, Bd.state]; rfl
  have N0 := Fr.nil n0
  have K0 : Keep h0 h0 [] := Keep.refl _ _
  refine own_go (S' := s₁.setTop (mkF m 0 #[.val (.ref a), .val (.ref b), .val (.ref dd)] [])) (fun tq kq => castTop (own_ef_rmOpt m a b dd ko) kq) ?_
  obtain ⟨T1, h1, X1, e1, E1, A1, D1, -, st1⟩ := newO X0 hx hZ hown (hw _ (own_mi 34 rfl)) (hw _ (own_mi 35 rfl)) (hw _ (own_mi 32 rfl)) e0 (g := (mkF m 0 #[.val (.ref a), .val (.ref b), .val (.ref dd)] [])) rfl (hb hby own_d6_0) (by decide) (by decide)
  obtain ⟨b1, g1⟩ : ∃ z, z = h0.size := ⟨_, rfl⟩
  rw [← g1] at A1 D1 st1
  refine own_go st1 ?_
  have sz2 : h0.size ≤ h1.size := E1.1
  have K2 := K0.ext E1
  have lt3 : @LT.lt Nat _ b1 h1.size := A1.lt
  have gn1 : n0 ≤ b1 := (Nat.le_trans (Nat.le_trans Z0 (Nat.le_refl _)) (Nat.le_of_eq g1.symm))
  have D1_kind : Fld Z h1 b1 "com/example/elodea/elodea/cli/Parameter" "kind" "Lcom/example/elodea/elodea/cli/Parameter$Kind;" .null := D1 (Or.inr (hw _ (own_mi 44 rfl))) (ty := (.object "com/example/elodea/elodea/cli/Parameter$Kind")) own_fd_Lcom2fexample2felodea2felodea2fcli2fParameter24Kind3b
  have D1_name : Fld Z h1 b1 "com/example/elodea/elodea/cli/Parameter" "name" "Ljava/lang/String;" .null := D1 (Or.inr (hw _ (own_mi 46 rfl))) (ty := (.object "java/lang/String")) own_fd_Ljava2flang2fString3b
  have D1_placeholder : Fld Z h1 b1 "com/example/elodea/elodea/cli/Parameter" "placeholder" "Ljava/lang/String;" .null := D1 (Or.inr (hw _ (own_mi 48 rfl))) (ty := (.object "java/lang/String")) own_fd_Ljava2flang2fString3b
  have D1_required : Fld Z h1 b1 "com/example/elodea/elodea/cli/Parameter" "required" "Z" (.int (0 : Int32)) := D1 (Or.inr (hw _ (own_mi 50 rfl))) (ty := .boolean) own_fd_Z
  have D1_least : Fld Z h1 b1 "com/example/elodea/elodea/cli/Parameter" "least" "I" (.int (0 : Int32)) := D1 (Or.inr (hw _ (own_mi 52 rfl))) (ty := .int) own_fd_I
  have D1_repeated : Fld Z h1 b1 "com/example/elodea/elodea/cli/Parameter" "repeated" "Z" (.int (0 : Int32)) := D1 (Or.inr (hw _ (own_mi 54 rfl))) (ty := .boolean) own_fd_Z
  have D1_standIn : Fld Z h1 b1 "com/example/elodea/elodea/cli/Parameter" "standIn" "Z" (.int (0 : Int32)) := D1 (Or.inr (hw _ (own_mi 56 rfl))) (ty := .boolean) own_fd_Z
  have D1_description : Fld Z h1 b1 "com/example/elodea/elodea/cli/Parameter" "description" "Ljava/lang/String;" .null := D1 (Or.inr (hw _ (own_mi 58 rfl))) (ty := (.object "java/lang/String")) own_fd_Ljava2flang2fString3b
  show own_Rn p e below _ (T1.setTop (mkF m 3 #[.val (.ref a), .val (.ref b), .val (.ref dd)] [(.ref b1)]))
  refine own_dp X1 hx 4 (hb hby own_d6_3) rfl rfl ?_
  have F4 : Old Z n0 h1 := (X00.ext E1)
  refine own_gS X1 hx hZ hown (host := "") (Or.inl (hw _ (own_mi 36 rfl))) Via.refl e1 (OO.ext F4.2) 7 (hb hby own_d6_4) rfl ?_
  intro T5 X5 e5
  refine own_aln X5 hx 8 (hb hby own_d6_7) rfl rfl rfl ?_
  refine own_aln X5 hx 9 (hb hby own_d6_8) rfl rfl rfl ?_
  refine own_ic X5 hx (1 : Int32) 10 (hb hby own_d6_9) rfl rfl ?_
  refine own_ic X5 hx (0 : Int32) 11 (hb hby own_d6_10) rfl rfl ?_
  refine own_ic X5 hx (0 : Int32) 12 (hb hby own_d6_11) rfl rfl ?_
  refine own_ic X5 hx (0 : Int32) 13 (hb hby own_d6_12) rfl rfl ?_
  refine own_aln X5 hx 14 (hb hby own_d6_13) rfl rfl rfl ?_
  have Zn6 : n0 ≤ h1.size := (Nat.le_trans Z0 sz2)
  refine own_cI X5 hx hZ (y := (⟨"com/example/elodea/elodea/cli/Parameter", "<init>", "(Lcom/example/elodea/elodea/cli/Parameter$Kind;Ljava/lang/String;Ljava/lang/String;ZIZZLjava/lang/String;)V"⟩ : MethodName)) rfl hown (hw _ (own_mi 39 rfl)) (hw _ (own_mi 40 rfl)) (hw _ (own_mi 41 rfl)) (hw _ (own_mi 32 rfl)) (by decide) (rmPI l Z a0 hw [] (b1) (ko) (a) (b) (dd) h1 n0 Zn6 A1 gn1 D1_kind D1_name D1_placeholder D1_required D1_least D1_repeated D1_standIn D1_description) e5 [(.ref ko), (.ref a), (.ref b), (.int (1 : Int32)), (.int (0 : Int32)), (.int (0 : Int32)), (.int (0 : Int32)), (.ref dd)] [(.ref b1)] rfl (by rw [hml]; rfl) (lenOf own_pd_28Lcom2fexample2felodea2felodea2fcli2fParameter24Kind3bLjava2flang2fString3bLjava2flang2fString3bZIZZLjava2flang2fString3b29V rfl) rfl 1 (Nat.le_of_eq rfl) (by decide) (by decide) (by decide : 1 + 0 ≤ _) (by decide : 8 + 0 ≤ _) 17 (hb hby own_d6_14) rfl 1 8 rfl rfl ?_
  intro rv6 T6 Lc6 X6 hQ6
  obtain ⟨rfl, Nq6, Kq6, G0_6, G1_6, G2_6, G3_6, G4_6, G5_6, G6_6, G7_6⟩ := hQ6
  have N6 := Fr.app N0 Nq6
  have sz7 : h1.size ≤ T6.heap.size := Kq6.1
  have K7 := K2.trans Kq6 (allS (Or.inr (Nat.le_trans (Nat.le_refl _) (Nat.le_of_eq g1.symm))) all0)
  show own_Rn p e below _ (T6.setTop (mkF m 17 #[.val (.ref a), .val (.ref b), .val (.ref dd)] [(.ref b1)]))
  have F8 : Exa Z T6.heap b1 "com/example/elodea/elodea/cli/Parameter" := (A1.keep Kq6)
  exact own_ret X6 (v := some (.ref b1)) (fun h => by rw [Bd.returns] at h; cases h) (fun fs hr => X6.areturnOut hx rfl Bd.returns rfl (hb hby own_d6_17) hr) (⟨b1, rfl, N6, K7, F8, G0_6, G1_6, G2_6, G3_6, G4_6, G5_6, G6_6, G7_6⟩) (by decide) (by decide)
theorem own_ef_rmGK (m : MethodId) (o : Addr) (v : Addr) : entryFrame m #[(.ref o)] 1 = mkF m 0 #[.val (.ref o)] [] := by first | (simp [entryFrame, mkF, argsToLocals, Value.category]; done) | rfl
theorem own_d8_0 : decode prog_4_method_8_code 0 = .ok (.aload_n 0, 1) := by decide +kernel
theorem own_d8_1 : decode prog_4_method_8_code 1 = .ok (.getfield 7, 3) := by decide +kernel
theorem own_d8_4 : decode prog_4_method_8_code 4 = .ok (.areturn, 1) := by decide +kernel
def Q_rmGK (Z : State) (o : Addr) (v : Addr) (h0 : Heap) (n0 : Nat) (vq : Option Value) (hhq : Heap) (Lq : List Loc) : Prop := vq = some (.ref v) ∧ Fr n0 Lq ∧ hhq = h0
set_option maxRecDepth 65536 in
set_option maxHeartbeats 40000000 in
theorem rmGK (l : Launch) (Z : State) (a0 : Array Value) (hw : ∀ d ∈ tables_1, d.before a0 Z = true) (ws : List Jvm.Cond) (o : Addr) (v : Addr) (h0 : Heap) (n0 : Nat) (Z0 : n0 ≤ h0.size) (Pm0 : Fld Z h0 o "com/example/elodea/elodea/cli/Parameter" "kind" "Lcom/example/elodea/elodea/cli/Parameter$Kind;" (.ref v)) :
    MetFree l (⟨"com/example/elodea/elodea/cli/Parameter", "getKind", "()Lcom/example/elodea/elodea/cli/Parameter$Kind;"⟩ : MethodName) (head1 (Jvm.Cond.code (⟨"com/example/elodea/elodea/cli/Parameter", "getKind", "()Lcom/example/elodea/elodea/cli/Parameter$Kind;"⟩ : MethodName) prog_4_method_8_code 1 (some (.object "com/example/elodea/elodea/cli/Parameter$Kind")) :: ws) ({ frames := 0, cells := 0, slots := 0, locals := 0 } : Room)) (fun aq U => aq = #[(.ref o)] ∧ Z.Warmed39 U.vm ∧ U.heap = h0) (fun _ _ _ _ _ => True) (fun _ U oq U' => ∃ vq Lq, oq = .returned vq ∧ Q_rmGK Z o v h0 n0 vq U'.heap Lq ∧ FrameEnd U oq U' Lq ({ frames := 0, cells := 0, slots := 0, locals := 0 } : Room).cells ({ frames := 0, cells := 0, slots := 0, locals := 0 } : Room).slots) := by
  refine MetFree.of_bodySF (plainFor_of_name own_pn_com_example_elodea_elodea_cli_Parameter) hisR ?_
  intro p e s m args below meth c s₁ Bd hml0 hP hK
  obtain ⟨rfl, hZ, hh⟩ := hP
  have hx := Bd.exec
  have hby := Bd.bytes
  have hml : c.maxLocals = 1 := hml0
  have hown : s.vm.findClass "com/example/elodea/elodea/cli/Parameter" = some m.cls := findClass_of_methodNamed Bd.named
  have hnm := (name_of_methodNamed Bd.named Bd.method).1
  have X0 : Stand p l e ({ frames := 0, cells := 0, slots := 0, locals := 0 } : Room) s m #[(.ref o)] below meth c s₁ [] 0 0 := Stand.of_body Bd
  have e0 : s₁.heap = h0 := by rw [← hh, Bd.state]; rfl
  have N0 := Fr.nil n0
  have K0 : Keep h0 h0 [] := Keep.refl _ _
  refine own_go (S' := s₁.setTop (mkF m 0 #[.val (.ref o)] [])) (fun tq kq => castTop (own_ef_rmGK m o v) kq) ?_
  have lt1 : @LT.lt Nat _ o h0.size := Pm0.lt
  refine own_aln X0 hx 1 (hb hby own_d8_0) rfl rfl rfl ?_
  refine own_gF X0 hx hZ hown (host := "") (Or.inl (hw _ (own_mi 43 rfl))) Via.refl e0 Pm0 4 (hb hby own_d8_1) rfl ?_
  intro T2 X2 e2
  exact own_ret X2 (v := some (.ref v)) (fun h => by rw [Bd.returns] at h; cases h) (fun fs hr => X2.areturnOut hx rfl Bd.returns rfl (hb hby own_d8_4) hr) (by rw [e2]; exact ⟨rfl, N0, rfl⟩) (by decide) (by decide)
theorem own_ef_rmGN (m : MethodId) (o : Addr) (v : Addr) : entryFrame m #[(.ref o)] 1 = mkF m 0 #[.val (.ref o)] [] := by first | (simp [entryFrame, mkF, argsToLocals, Value.category]; done) | rfl
theorem own_d9_0 : decode prog_4_method_9_code 0 = .ok (.aload_n 0, 1) := by decide +kernel
theorem own_d9_1 : decode prog_4_method_9_code 1 = .ok (.getfield 13, 3) := by decide +kernel
theorem own_d9_4 : decode prog_4_method_9_code 4 = .ok (.areturn, 1) := by decide +kernel
def Q_rmGN (Z : State) (o : Addr) (v : Addr) (h0 : Heap) (n0 : Nat) (vq : Option Value) (hhq : Heap) (Lq : List Loc) : Prop := vq = some (.ref v) ∧ Fr n0 Lq ∧ hhq = h0
set_option maxRecDepth 65536 in
set_option maxHeartbeats 40000000 in
theorem rmGN (l : Launch) (Z : State) (a0 : Array Value) (hw : ∀ d ∈ tables_1, d.before a0 Z = true) (ws : List Jvm.Cond) (o : Addr) (v : Addr) (h0 : Heap) (n0 : Nat) (Z0 : n0 ≤ h0.size) (Pm0 : Fld Z h0 o "com/example/elodea/elodea/cli/Parameter" "name" "Ljava/lang/String;" (.ref v)) :
    MetFree l (⟨"com/example/elodea/elodea/cli/Parameter", "getName", "()Ljava/lang/String;"⟩ : MethodName) (head1 (Jvm.Cond.code (⟨"com/example/elodea/elodea/cli/Parameter", "getName", "()Ljava/lang/String;"⟩ : MethodName) prog_4_method_9_code 1 (some (.object "java/lang/String")) :: ws) ({ frames := 0, cells := 0, slots := 0, locals := 0 } : Room)) (fun aq U => aq = #[(.ref o)] ∧ Z.Warmed39 U.vm ∧ U.heap = h0) (fun _ _ _ _ _ => True) (fun _ U oq U' => ∃ vq Lq, oq = .returned vq ∧ Q_rmGN Z o v h0 n0 vq U'.heap Lq ∧ FrameEnd U oq U' Lq ({ frames := 0, cells := 0, slots := 0, locals := 0 } : Room).cells ({ frames := 0, cells := 0, slots := 0, locals := 0 } : Room).slots) := by
  refine MetFree.of_bodySF (plainFor_of_name own_pn_com_example_elodea_elodea_cli_Parameter) hisR ?_
  intro p e s m args below meth c s₁ Bd hml0 hP hK
  obtain ⟨rfl, hZ, hh⟩ := hP
  have hx := Bd.exec
  have hby := Bd.bytes
  have hml : c.maxLocals = 1 := hml0
  have hown : s.vm.findClass "com/example/elodea/elodea/cli/Parameter" = some m.cls := findClass_of_methodNamed Bd.named
  have hnm := (name_of_methodNamed Bd.named Bd.method).1
  have X0 : Stand p l e ({ frames := 0, cells := 0, slots := 0, locals := 0 } : Room) s m #[(.ref o)] below meth c s₁ [] 0 0 := Stand.of_body Bd
  have e0 : s₁.heap = h0 := by rw [← hh, Bd.state]; rfl
  have N0 := Fr.nil n0
  have K0 : Keep h0 h0 [] := Keep.refl _ _
  refine own_go (S' := s₁.setTop (mkF m 0 #[.val (.ref o)] [])) (fun tq kq => castTop (own_ef_rmGN m o v) kq) ?_
  have lt1 : @LT.lt Nat _ o h0.size := Pm0.lt
  refine own_aln X0 hx 1 (hb hby own_d9_0) rfl rfl rfl ?_
  refine own_gF X0 hx hZ hown (host := "") (Or.inl (hw _ (own_mi 45 rfl))) Via.refl e0 Pm0 4 (hb hby own_d9_1) rfl ?_
  intro T2 X2 e2
  exact own_ret X2 (v := some (.ref v)) (fun h => by rw [Bd.returns] at h; cases h) (fun fs hr => X2.areturnOut hx rfl Bd.returns rfl (hb hby own_d9_4) hr) (by rw [e2]; exact ⟨rfl, N0, rfl⟩) (by decide) (by decide)
theorem own_ef_rmGD (m : MethodId) (o : Addr) (v : Addr) : entryFrame m #[(.ref o)] 1 = mkF m 0 #[.val (.ref o)] [] := by first | (simp [entryFrame, mkF, argsToLocals, Value.category]; done) | rfl
theorem own_d11_0 : decode prog_4_method_13_code 0 = .ok (.aload_n 0, 1) := by decide +kernel
theorem own_d11_1 : decode prog_4_method_13_code 1 = .ok (.getfield 34, 3) := by decide +kernel
theorem own_d11_4 : decode prog_4_method_13_code 4 = .ok (.areturn, 1) := by decide +kernel
def Q_rmGD (Z : State) (o : Addr) (v : Addr) (h0 : Heap) (n0 : Nat) (vq : Option Value) (hhq : Heap) (Lq : List Loc) : Prop := vq = some (.ref v) ∧ Fr n0 Lq ∧ hhq = h0
set_option maxRecDepth 65536 in
set_option maxHeartbeats 40000000 in
theorem rmGD (l : Launch) (Z : State) (a0 : Array Value) (hw : ∀ d ∈ tables_1, d.before a0 Z = true) (ws : List Jvm.Cond) (o : Addr) (v : Addr) (h0 : Heap) (n0 : Nat) (Z0 : n0 ≤ h0.size) (Pm0 : Fld Z h0 o "com/example/elodea/elodea/cli/Parameter" "description" "Ljava/lang/String;" (.ref v)) :
    MetFree l (⟨"com/example/elodea/elodea/cli/Parameter", "getDescription", "()Ljava/lang/String;"⟩ : MethodName) (head1 (Jvm.Cond.code (⟨"com/example/elodea/elodea/cli/Parameter", "getDescription", "()Ljava/lang/String;"⟩ : MethodName) prog_4_method_13_code 1 (some (.object "java/lang/String")) :: ws) ({ frames := 0, cells := 0, slots := 0, locals := 0 } : Room)) (fun aq U => aq = #[(.ref o)] ∧ Z.Warmed39 U.vm ∧ U.heap = h0) (fun _ _ _ _ _ => True) (fun _ U oq U' => ∃ vq Lq, oq = .returned vq ∧ Q_rmGD Z o v h0 n0 vq U'.heap Lq ∧ FrameEnd U oq U' Lq ({ frames := 0, cells := 0, slots := 0, locals := 0 } : Room).cells ({ frames := 0, cells := 0, slots := 0, locals := 0 } : Room).slots) := by
  refine MetFree.of_bodySF (plainFor_of_name own_pn_com_example_elodea_elodea_cli_Parameter) hisR ?_
  intro p e s m args below meth c s₁ Bd hml0 hP hK
  obtain ⟨rfl, hZ, hh⟩ := hP
  have hx := Bd.exec
  have hby := Bd.bytes
  have hml : c.maxLocals = 1 := hml0
  have hown : s.vm.findClass "com/example/elodea/elodea/cli/Parameter" = some m.cls := findClass_of_methodNamed Bd.named
  have hnm := (name_of_methodNamed Bd.named Bd.method).1
  have X0 : Stand p l e ({ frames := 0, cells := 0, slots := 0, locals := 0 } : Room) s m #[(.ref o)] below meth c s₁ [] 0 0 := Stand.of_body Bd
  have e0 : s₁.heap = h0 := by rw [← hh, Bd.state]; rfl
  have N0 := Fr.nil n0
  have K0 : Keep h0 h0 [] := Keep.refl _ _
  refine own_go (S' := s₁.setTop (mkF m 0 #[.val (.ref o)] [])) (fun tq kq => castTop (own_ef_rmGD m o v) kq) ?_
  have lt1 : @LT.lt Nat _ o h0.size := Pm0.lt
  refine own_aln X0 hx 1 (hb hby own_d11_0) rfl rfl rfl ?_
  refine own_gF X0 hx hZ hown (host := "") (Or.inl (hw _ (own_mi 57 rfl))) Via.refl e0 Pm0 4 (hb hby own_d11_1) rfl ?_
  intro T2 X2 e2
  exact own_ret X2 (v := some (.ref v)) (fun h => by rw [Bd.returns] at h; cases h) (fun fs hr => X2.areturnOut hx rfl Bd.returns rfl (hb hby own_d11_4) hr) (by rw [e2]; exact ⟨rfl, N0, rfl⟩) (by decide) (by decide)
theorem own_ef_rmGL (m : MethodId) (o : Addr) : entryFrame m #[(.ref o)] 1 = mkF m 0 #[.val (.ref o)] [] := by first | (simp [entryFrame, mkF, argsToLocals, Value.category]; done) | rfl
theorem own_d12_0 : decode prog_4_method_10_code 0 = .ok (.aload_n 0, 1) := by decide +kernel
theorem own_d12_1 : decode prog_4_method_10_code 1 = .ok (.getfield 24, 3) := by decide +kernel
theorem own_d12_4 : decode prog_4_method_10_code 4 = .ok (.ireturn, 1) := by decide +kernel
def Q_rmGL (Z : State) (o : Addr) (h0 : Heap) (n0 : Nat) (vq : Option Value) (hhq : Heap) (Lq : List Loc) : Prop := vq = some (.int (0 : Int32)) ∧ Fr n0 Lq ∧ hhq = h0
set_option maxRecDepth 65536 in
set_option maxHeartbeats 40000000 in
theorem rmGL (l : Launch) (Z : State) (a0 : Array Value) (hw : ∀ d ∈ tables_1, d.before a0 Z = true) (ws : List Jvm.Cond) (o : Addr) (h0 : Heap) (n0 : Nat) (Z0 : n0 ≤ h0.size) (Pm0 : Fld Z h0 o "com/example/elodea/elodea/cli/Parameter" "least" "I" (.int (0 : Int32))) :
    MetFree l (⟨"com/example/elodea/elodea/cli/Parameter", "getLeast", "()I"⟩ : MethodName) (head1 (Jvm.Cond.code (⟨"com/example/elodea/elodea/cli/Parameter", "getLeast", "()I"⟩ : MethodName) prog_4_method_10_code 1 (some .int) :: ws) ({ frames := 0, cells := 0, slots := 0, locals := 0 } : Room)) (fun aq U => aq = #[(.ref o)] ∧ Z.Warmed39 U.vm ∧ U.heap = h0) (fun _ _ _ _ _ => True) (fun _ U oq U' => ∃ vq Lq, oq = .returned vq ∧ Q_rmGL Z o h0 n0 vq U'.heap Lq ∧ FrameEnd U oq U' Lq ({ frames := 0, cells := 0, slots := 0, locals := 0 } : Room).cells ({ frames := 0, cells := 0, slots := 0, locals := 0 } : Room).slots) := by
  refine MetFree.of_bodySF (plainFor_of_name own_pn_com_example_elodea_elodea_cli_Parameter) hisR ?_
  intro p e s m args below meth c s₁ Bd hml0 hP hK
  obtain ⟨rfl, hZ, hh⟩ := hP
  have hx := Bd.exec
  have hby := Bd.bytes
  have hml : c.maxLocals = 1 := hml0
  have hown : s.vm.findClass "com/example/elodea/elodea/cli/Parameter" = some m.cls := findClass_of_methodNamed Bd.named
  have hnm := (name_of_methodNamed Bd.named Bd.method).1
  have X0 : Stand p l e ({ frames := 0, cells := 0, slots := 0, locals := 0 } : Room) s m #[(.ref o)] below meth c s₁ [] 0 0 := Stand.of_body Bd
  have e0 : s₁.heap = h0 := by rw [← hh, Bd.state]; rfl
  have N0 := Fr.nil n0
  have K0 : Keep h0 h0 [] := Keep.refl _ _
  refine own_go (S' := s₁.setTop (mkF m 0 #[.val (.ref o)] [])) (fun tq kq => castTop (own_ef_rmGL m o) kq) ?_
  have lt1 : @LT.lt Nat _ o h0.size := Pm0.lt
  refine own_aln X0 hx 1 (hb hby own_d12_0) rfl rfl rfl ?_
  refine own_gF X0 hx hZ hown (host := "") (Or.inl (hw _ (own_mi 51 rfl))) Via.refl e0 Pm0 4 (hb hby own_d12_1) rfl ?_
  intro T2 X2 e2
  exact own_ret X2 (v := some (.int (0 : Int32))) (fun h => by rw [Bd.returns] at h; cases h) (fun fs hr => retI X2 hx Bd.returns (hb hby own_d12_4) hr) (by rw [e2]; exact ⟨rfl, N0, rfl⟩) (by decide) (by decide)
theorem own_ef_rmGR (m : MethodId) (o : Addr) : entryFrame m #[(.ref o)] 1 = mkF m 0 #[.val (.ref o)] [] := by first | (simp [entryFrame, mkF, argsToLocals, Value.category]; done) | rfl
theorem own_d13_0 : decode prog_4_method_11_code 0 = .ok (.aload_n 0, 1) := by decide +kernel
theorem own_d13_1 : decode prog_4_method_11_code 1 = .ok (.getfield 28, 3) := by decide +kernel
theorem own_d13_4 : decode prog_4_method_11_code 4 = .ok (.ireturn, 1) := by decide +kernel
def Q_rmGR (Z : State) (o : Addr) (h0 : Heap) (n0 : Nat) (vq : Option Value) (hhq : Heap) (Lq : List Loc) : Prop := vq = some (.int (0 : Int32)) ∧ Fr n0 Lq ∧ hhq = h0
set_option maxRecDepth 65536 in
set_option maxHeartbeats 40000000 in
theorem rmGR (l : Launch) (Z : State) (a0 : Array Value) (hw : ∀ d ∈ tables_1, d.before a0 Z = true) (ws : List Jvm.Cond) (o : Addr) (h0 : Heap) (n0 : Nat) (Z0 : n0 ≤ h0.size) (Pm0 : Fld Z h0 o "com/example/elodea/elodea/cli/Parameter" "repeated" "Z" (.int (0 : Int32))) :
    MetFree l (⟨"com/example/elodea/elodea/cli/Parameter", "isRepeated", "()Z"⟩ : MethodName) (head1 (Jvm.Cond.code (⟨"com/example/elodea/elodea/cli/Parameter", "isRepeated", "()Z"⟩ : MethodName) prog_4_method_11_code 1 (some .boolean) :: ws) ({ frames := 0, cells := 0, slots := 0, locals := 0 } : Room)) (fun aq U => aq = #[(.ref o)] ∧ Z.Warmed39 U.vm ∧ U.heap = h0) (fun _ _ _ _ _ => True) (fun _ U oq U' => ∃ vq Lq, oq = .returned vq ∧ Q_rmGR Z o h0 n0 vq U'.heap Lq ∧ FrameEnd U oq U' Lq ({ frames := 0, cells := 0, slots := 0, locals := 0 } : Room).cells ({ frames := 0, cells := 0, slots := 0, locals := 0 } : Room).slots) := by
  refine MetFree.of_bodySF (plainFor_of_name own_pn_com_example_elodea_elodea_cli_Parameter) hisR ?_
  intro p e s m args below meth c s₁ Bd hml0 hP hK
  obtain ⟨rfl, hZ, hh⟩ := hP
  have hx := Bd.exec
  have hby := Bd.bytes
  have hml : c.maxLocals = 1 := hml0
  have hown : s.vm.findClass "com/example/elodea/elodea/cli/Parameter" = some m.cls := findClass_of_methodNamed Bd.named
  have hnm := (name_of_methodNamed Bd.named Bd.method).1
  have X0 : Stand p l e ({ frames := 0, cells := 0, slots := 0, locals := 0 } : Room) s m #[(.ref o)] below meth c s₁ [] 0 0 := Stand.of_body Bd
  have e0 : s₁.heap = h0 := by rw [← hh, Bd.state]; rfl
  have N0 := Fr.nil n0
  have K0 : Keep h0 h0 [] := Keep.refl _ _
  refine own_go (S' := s₁.setTop (mkF m 0 #[.val (.ref o)] [])) (fun tq kq => castTop (own_ef_rmGR m o) kq) ?_
  have lt1 : @LT.lt Nat _ o h0.size := Pm0.lt
  refine own_aln X0 hx 1 (hb hby own_d13_0) rfl rfl rfl ?_
  refine own_gF X0 hx hZ hown (host := "") (Or.inl (hw _ (own_mi 53 rfl))) Via.refl e0 Pm0 4 (hb hby own_d13_1) rfl ?_
  intro T2 X2 e2
  exact own_ret X2 (v := some (.int (nar .boolean (0 : Int32)))) (fun h => by rw [Bd.returns] at h; cases h) (fun fs hr => retN X2 hx (t := .boolean) Bd.returns (by simp) (hb hby own_d13_4) hr) (by rw [e2]; exact ⟨rfl, N0, rfl⟩) (by decide) (by decide)
theorem own_ef_rmGS (m : MethodId) (o : Addr) : entryFrame m #[(.ref o)] 1 = mkF m 0 #[.val (.ref o)] [] := by first | (simp [entryFrame, mkF, argsToLocals, Value.category]; done) | rfl
theorem own_d14_0 : decode prog_4_method_12_code 0 = .ok (.aload_n 0, 1) := by decide +kernel
theorem own_d14_1 : decode prog_4_method_12_code 1 = .ok (.getfield 31, 3) := by decide +kernel
theorem own_d14_4 : decode prog_4_method_12_code 4 = .ok (.ireturn, 1) := by decide +kernel
def Q_rmGS (Z : State) (o : Addr) (h0 : Heap) (n0 : Nat) (vq : Option Value) (hhq : Heap) (Lq : List Loc) : Prop := vq = some (.int (0 : Int32)) ∧ Fr n0 Lq ∧ hhq = h0
set_option maxRecDepth 65536 in
set_option maxHeartbeats 40000000 in
theorem rmGS (l : Launch) (Z : State) (a0 : Array Value) (hw : ∀ d ∈ tables_1, d.before a0 Z = true) (ws : List Jvm.Cond) (o : Addr) (h0 : Heap) (n0 : Nat) (Z0 : n0 ≤ h0.size) (Pm0 : Fld Z h0 o "com/example/elodea/elodea/cli/Parameter" "standIn" "Z" (.int (0 : Int32))) :
    MetFree l (⟨"com/example/elodea/elodea/cli/Parameter", "isStandIn", "()Z"⟩ : MethodName) (head1 (Jvm.Cond.code (⟨"com/example/elodea/elodea/cli/Parameter", "isStandIn", "()Z"⟩ : MethodName) prog_4_method_12_code 1 (some .boolean) :: ws) ({ frames := 0, cells := 0, slots := 0, locals := 0 } : Room)) (fun aq U => aq = #[(.ref o)] ∧ Z.Warmed39 U.vm ∧ U.heap = h0) (fun _ _ _ _ _ => True) (fun _ U oq U' => ∃ vq Lq, oq = .returned vq ∧ Q_rmGS Z o h0 n0 vq U'.heap Lq ∧ FrameEnd U oq U' Lq ({ frames := 0, cells := 0, slots := 0, locals := 0 } : Room).cells ({ frames := 0, cells := 0, slots := 0, locals := 0 } : Room).slots) := by
  refine MetFree.of_bodySF (plainFor_of_name own_pn_com_example_elodea_elodea_cli_Parameter) hisR ?_
  intro p e s m args below meth c s₁ Bd hml0 hP hK
  obtain ⟨rfl, hZ, hh⟩ := hP
  have hx := Bd.exec
  have hby := Bd.bytes
  have hml : c.maxLocals = 1 := hml0
  have hown : s.vm.findClass "com/example/elodea/elodea/cli/Parameter" = some m.cls := findClass_of_methodNamed Bd.named
  have hnm := (name_of_methodNamed Bd.named Bd.method).1
  have X0 : Stand p l e ({ frames := 0, cells := 0, slots := 0, locals := 0 } : Room) s m #[(.ref o)] below meth c s₁ [] 0 0 := Stand.of_body Bd
  have e0 : s₁.heap = h0 := by rw [← hh, Bd.state]; rfl
  have N0 := Fr.nil n0
  have K0 : Keep h0 h0 [] := Keep.refl _ _
  refine own_go (S' := s₁.setTop (mkF m 0 #[.val (.ref o)] [])) (fun tq kq => castTop (own_ef_rmGS m o) kq) ?_
  have lt1 : @LT.lt Nat _ o h0.size := Pm0.lt
  refine own_aln X0 hx 1 (hb hby own_d14_0) rfl rfl rfl ?_
  refine own_gF X0 hx hZ hown (host := "") (Or.inl (hw _ (own_mi 55 rfl))) Via.refl e0 Pm0 4 (hb hby own_d14_1) rfl ?_
  intro T2 X2 e2
  exact own_ret X2 (v := some (.int (nar .boolean (0 : Int32)))) (fun h => by rw [Bd.returns] at h; cases h) (fun fs hr => retN X2 hx (t := .boolean) Bd.returns (by simp) (hb hby own_d14_4) hr) (by rw [e2]; exact ⟨rfl, N0, rfl⟩) (by decide) (by decide)
theorem own_ef_rmWN (m : MethodId) (o : Addr) (v : Addr) (ix : Int32) : entryFrame m #[(.ref o), (.int ix)] 2 = mkF m 0 #[.val (.ref o), .val (.int ix)] [] := by first | (simp [entryFrame, mkF, argsToLocals, Value.category]; done) | rfl
theorem own_d15_0 : decode prog_4_method_15_code 0 = .ok (.aload_n 0, 1) := by decide +kernel
theorem own_d15_1 : decode prog_4_method_15_code 1 = .ok (.getfield 28, 3) := by decide +kernel
theorem own_d15_4 : decode prog_4_method_15_code 4 = .ok (.ifCond .eq 29, 3) := by decide +kernel
theorem own_d15_33 : decode prog_4_method_15_code 33 = .ok (.aload_n 0, 1) := by decide +kernel
theorem own_d15_34 : decode prog_4_method_15_code 34 = .ok (.getfield 17, 3) := by decide +kernel
theorem own_d15_37 : decode prog_4_method_15_code 37 = .ok (.areturn, 1) := by decide +kernel
def Q_rmWN (Z : State) (o : Addr) (v : Addr) (ix : Int32) (h0 : Heap) (n0 : Nat) (vq : Option Value) (hhq : Heap) (Lq : List Loc) : Prop := vq = some (.ref v) ∧ Fr n0 Lq ∧ hhq = h0
set_option maxRecDepth 65536 in
set_option maxHeartbeats 40000000 in
theorem rmWN (l : Launch) (Z : State) (a0 : Array Value) (hw : ∀ d ∈ tables_1, d.before a0 Z = true) (ws : List Jvm.Cond) (o : Addr) (v : Addr) (ix : Int32) (h0 : Heap) (n0 : Nat) (Z0 : n0 ≤ h0.size) (Pm0 : Fld Z h0 o "com/example/elodea/elodea/cli/Parameter" "repeated" "Z" (.int (0 : Int32))) (Pm1 : Fld Z h0 o "com/example/elodea/elodea/cli/Parameter" "placeholder" "Ljava/lang/String;" (.ref v)) :
    MetFree l (⟨"com/example/elodea/elodea/cli/Parameter", "getWordName", "(I)Ljava/lang/String;"⟩ : MethodName) (head1 (Jvm.Cond.code (⟨"com/example/elodea/elodea/cli/Parameter", "getWordName", "(I)Ljava/lang/String;"⟩ : MethodName) prog_4_method_15_code 2 (some (.object "java/lang/String")) :: ws) ({ frames := 0, cells := 0, slots := 0, locals := 0 } : Room)) (fun aq U => aq = #[(.ref o), (.int ix)] ∧ Z.Warmed39 U.vm ∧ U.heap = h0) (fun _ _ _ _ _ => True) (fun _ U oq U' => ∃ vq Lq, oq = .returned vq ∧ Q_rmWN Z o v ix h0 n0 vq U'.heap Lq ∧ FrameEnd U oq U' Lq ({ frames := 0, cells := 0, slots := 0, locals := 0 } : Room).cells ({ frames := 0, cells := 0, slots := 0, locals := 0 } : Room).slots) := by
  refine MetFree.of_bodySF (plainFor_of_name own_pn_com_example_elodea_elodea_cli_Parameter) hisR ?_
  intro p e s m args below meth c s₁ Bd hml0 hP hK
  obtain ⟨rfl, hZ, hh⟩ := hP
  have hx := Bd.exec
  have hby := Bd.bytes
  have hml : c.maxLocals = 2 := hml0
  have hown : s.vm.findClass "com/example/elodea/elodea/cli/Parameter" = some m.cls := findClass_of_methodNamed Bd.named
  have hnm := (name_of_methodNamed Bd.named Bd.method).1
  have X0 : Stand p l e ({ frames := 0, cells := 0, slots := 0, locals := 0 } : Room) s m #[(.ref o), (.int ix)] below meth c s₁ [] 0 0 := Stand.of_body Bd
  have e0 : s₁.heap = h0 := by rw [← hh, Bd.state]; rfl
  have N0 := Fr.nil n0
  have K0 : Keep h0 h0 [] := Keep.refl _ _
  refine own_go (S' := s₁.setTop (mkF m 0 #[.val (.ref o), .val (.int ix)] [])) (fun tq kq => castTop (own_ef_rmWN m o v ix) kq) ?_
  have lt1 : @LT.lt Nat _ o h0.size := Pm0.lt
  refine own_aln X0 hx 1 (hb hby own_d15_0) rfl rfl rfl ?_
  refine own_gF X0 hx hZ hown (host := "") (Or.inl (hw _ (own_mi 53 rfl))) Via.refl e0 Pm0 4 (hb hby own_d15_1) rfl ?_
  intro T2 X2 e2
  refine own_ifY X2 hx 33 (hb hby own_d15_4) ((if0 _ _).trans (teq ((by decide : (0 : Int32) = (0 : Int32)) : (0 : Int32) = (0 : Int32))).1) (by decide) (by decide) ?_
  refine own_aln X2 hx 34 (hb hby own_d15_33) rfl rfl rfl ?_
  refine own_gF X2 hx hZ hown (host := "") (Or.inl (hw _ (own_mi 47 rfl))) Via.refl e2 Pm1 37 (hb hby own_d15_34) rfl ?_
  intro T3 X3 e3
  exact own_ret X3 (v := some (.ref v)) (fun h => by rw [Bd.returns] at h; cases h) (fun fs hr => X3.areturnOut hx rfl Bd.returns rfl (hb hby own_d15_37) hr) (by rw [e3]; exact ⟨rfl, N0, rfl⟩) (by decide) (by decide)
theorem own_ef_rmLab (m : MethodId) (o : Addr) (na : Addr) (tn : Addr) (kn : ClassId) (pl : Addr) (tp : Addr) (kp : ClassId) (c0 : Int32) (c1 : Int32) (v0 : Int32) (v1 : Int32) (ko : Addr) (G1 : Int32) : entryFrame m #[(.ref o)] 2 = mkF m 0 #[.val (.ref o), .unset] [] := by first | (simp [entryFrame, mkF, argsToLocals, Value.category]; done) | rfl
theorem own_d17_0 : decode prog_4_method_14_code 0 = .ok (.aload_n 0, 1) := by decide +kernel
theorem own_d17_1 : decode prog_4_method_14_code 1 = .ok (.getfield 7, 3) := by decide +kernel
theorem own_d17_4 : decode prog_4_method_14_code 4 = .ok (.getstatic 37, 3) := by decide +kernel
theorem own_d17_7 : decode prog_4_method_14_code 7 = .ok (.if_acmp .ne 41, 3) := by decide +kernel
theorem own_d17_10 : decode prog_4_method_14_code 10 = .ok (.new 53, 3) := by decide +kernel
theorem own_d17_13 : decode prog_4_method_14_code 13 = .ok (.dup, 1) := by decide +kernel
theorem own_d17_14 : decode prog_4_method_14_code 14 = .ok (.invokespecial 55, 3) := by decide +kernel
theorem own_pd_2829V : parseMethodDescriptor "()V" = some ⟨[], none⟩ := by decide +kernel
theorem own_d17_17 : decode prog_4_method_14_code 17 = .ok (.ldc 74, 2) := by decide +kernel
theorem own_d17_19 : decode prog_4_method_14_code 19 = .ok (.invokevirtual 58, 3) := by decide +kernel
theorem own_pd_28Ljava2flang2fString3b29Ljava2flang2fStringBuilder3b : parseMethodDescriptor "(Ljava/lang/String;)Ljava/lang/StringBuilder;" = some ⟨[(.object "java/lang/String")], some (.object "java/lang/StringBuilder")⟩ := by decide +kernel
theorem own_d17_22 : decode prog_4_method_14_code 22 = .ok (.aload_n 0, 1) := by decide +kernel
theorem own_d17_23 : decode prog_4_method_14_code 23 = .ok (.getfield 13, 3) := by decide +kernel
theorem own_d17_26 : decode prog_4_method_14_code 26 = .ok (.invokevirtual 58, 3) := by decide +kernel
theorem own_d17_29 : decode prog_4_method_14_code 29 = .ok (.ldc 76, 2) := by decide +kernel
theorem own_d17_31 : decode prog_4_method_14_code 31 = .ok (.invokevirtual 58, 3) := by decide +kernel
theorem own_d17_34 : decode prog_4_method_14_code 34 = .ok (.aload_n 0, 1) := by decide +kernel
theorem own_d17_35 : decode prog_4_method_14_code 35 = .ok (.getfield 17, 3) := by decide +kernel
theorem own_d17_38 : decode prog_4_method_14_code 38 = .ok (.invokevirtual 58, 3) := by decide +kernel
theorem own_d17_41 : decode prog_4_method_14_code 41 = .ok (.invokevirtual 65, 3) := by decide +kernel
theorem own_pd_2829Ljava2flang2fString3b : parseMethodDescriptor "()Ljava/lang/String;" = some ⟨[], some (.object "java/lang/String")⟩ := by decide +kernel
theorem own_d17_44 : decode prog_4_method_14_code 44 = .ok (.astore_n 1, 1) := by decide +kernel
theorem own_d17_45 : decode prog_4_method_14_code 45 = .ok (.goto 105, 3) := by decide +kernel
theorem own_d17_150 : decode prog_4_method_14_code 150 = .ok (.aload_n 1, 1) := by decide +kernel
theorem own_d17_151 : decode prog_4_method_14_code 151 = .ok (.areturn, 1) := by decide +kernel
def Q_rmLab (Z : State) (o : Addr) (na : Addr) (tn : Addr) (kn : ClassId) (pl : Addr) (tp : Addr) (kp : ClassId) (c0 : Int32) (c1 : Int32) (v0 : Int32) (v1 : Int32) (ko : Addr) (G1 : Int32) (h0 : Heap) (n0 : Nat) (vq : Option Value) (hhq : Heap) (Lq : List Loc) : Prop := ∃ (x : Addr), ∃ (t : Addr), ∃ (kt : ClassId), vq = some (.ref x) ∧ Fr n0 Lq ∧ Keep h0 hhq [] ∧ Exa Z hhq x "java/lang/String" ∧ Fld Z hhq x "java/lang/String" "value" "[B" (.ref t) ∧ Fld Z hhq x "java/lang/String" "coder" "B" (.int (0 : Int32)) ∧ Arv Z hhq t kt .byte (Int32.ofNat ([45, 45, c0, c1, 32, v0, v1] : List Int32).length) (own_bs ([45, 45, c0, c1, 32, v0, v1] : List Int32)) (.int 0)
set_option maxRecDepth 65536 in
set_option maxHeartbeats 40000000 in
theorem rmLab (l : Launch) (Z : State) (a0 : Array Value) (hw : ∀ d ∈ tables_1, d.before a0 Z = true) (ws : List Jvm.Cond) (o : Addr) (na : Addr) (tn : Addr) (kn : ClassId) (pl : Addr) (tp : Addr) (kp : ClassId) (c0 : Int32) (c1 : Int32) (v0 : Int32) (v1 : Int32) (ko : Addr) (G1 : Int32) (h0 : Heap) (n0 : Nat) (Z0 : n0 ≤ h0.size) (hEL : EW Z a0 consts_1) (Pm0 : Fld Z h0 o "com/example/elodea/elodea/cli/Parameter" "kind" "Lcom/example/elodea/elodea/cli/Parameter$Kind;" (.ref ko)) (Pm1 : Fld Z h0 o "com/example/elodea/elodea/cli/Parameter" "name" "Ljava/lang/String;" (.ref na)) (Pm2 : Fld Z h0 o "com/example/elodea/elodea/cli/Parameter" "placeholder" "Ljava/lang/String;" (.ref pl)) (Pm3 : Exa Z h0 na "java/lang/String") (Pm4 : Fld Z h0 na "java/lang/String" "value" "[B" (.ref tn)) (Pm5 : Fld Z h0 na "java/lang/String" "coder" "B" (.int (0 : Int32))) (Pm6 : Arv Z h0 tn kn .byte (Int32.ofNat ([c0, c1] : List Int32).length) (own_bs ([c0, c1] : List Int32)) (.int 0)) (Pm7 : Exa Z h0 pl "java/lang/String") (Pm8 : Fld Z h0 pl "java/lang/String" "value" "[B" (.ref tp)) (Pm9 : Fld Z h0 pl "java/lang/String" "coder" "B" (.int (0 : Int32))) (Pm10 : Arv Z h0 tp kp .byte (Int32.ofNat ([v0, v1] : List Int32).length) (own_bs ([v0, v1] : List Int32)) (.int 0)) (OO : Sta Z Z.heap "com/example/elodea/elodea/cli/Parameter$Kind" "OPTION" "Lcom/example/elodea/elodea/cli/Parameter$Kind;" (.ref ko)) (O2 : Sta Z Z.heap "java/lang/String" "COMPACT_STRINGS" "Z" (.int G1)) (P5 : (¬ (G1 = (0 : Int32)))) (X00 : Old Z n0 h0) :
    MetFree l (⟨"com/example/elodea/elodea/cli/Parameter", "getLabel", "()Ljava/lang/String;"⟩ : MethodName) (head1 (Jvm.Cond.code (⟨"com/example/elodea/elodea/cli/Parameter", "getLabel", "()Ljava/lang/String;"⟩ : MethodName) prog_4_method_14_code 2 (some (.object "java/lang/String")) :: ws) ({ frames := 6, cells := 8, slots := 59, locals := 100 } : Room)) (fun aq U => aq = #[(.ref o)] ∧ Z.Warmed39 U.vm ∧ U.heap = h0 ∧ CHv Z consts_1 U.vm h0 ∧ ∀ ax ∈ ([] : List Addr), Safe Z consts_1 U.vm h0 ax) (fun _ _ _ _ _ => True) (fun _ U oq U' => ∃ vq Lq, oq = .returned vq ∧ Q_rmLab Z o na tn kn pl tp kp c0 c1 v0 v1 ko G1 h0 n0 vq U'.heap Lq ∧ CHr Z consts_1 U.vm U.heap U'.vm U'.heap ∧ ReturnedEndW U oq U' Lq ({ frames := 6, cells := 8, slots := 59, locals := 100 } : Room).cells ({ frames := 6, cells := 8, slots := 59, locals := 100 } : Room).slots) := by
  refine MetFree.of_bodySF (plainFor_of_name own_pn_com_example_elodea_elodea_cli_Parameter) hisR ?_
  intro p e s m args below meth c s₁ Bd hml0 hP hK
  obtain ⟨rfl, hZ, hh, hH, hSf⟩ := hP
  have hx := Bd.exec
  have hby := Bd.bytes
  have hml : c.maxLocals = 2 := hml0
  have hown : s.vm.findClass "com/example/elodea/elodea/cli/Parameter" = some m.cls := findClass_of_methodNamed Bd.named
  have hnm := (name_of_methodNamed Bd.named Bd.method).1
  have X0 : Stand p l e ({ frames := 6, cells := 8, slots := 59, locals := 100 } : Room) (s.setVm s.vm) m #[(.ref o)] below meth c s₁ [] 0 0 := Stand.of_body Bd
  have e0 : s₁.heap = h0 := by rw [← hh, Bd.state]; rfl
  have N0 := Fr.nil n0
  have K0 : Keep h0 h0 [] := Keep.refl _ _
  refine own_go (S' := s₁.setTop (mkF m 0 #[.val (.ref o), .unset] [])) (fun tq kq => castTop (own_ef_rmLab m o na tn kn pl tp kp c0 c1 v0 v1 ko G1) kq) ?_
  have lt1 : @LT.lt Nat _ o h0.size := Pm0.lt
  have lt2 : @LT.lt Nat _ na h0.size := Pm3.lt
  have lt3 : @LT.lt Nat _ tn h0.size := Pm6.lt
  have lt4 : @LT.lt Nat _ pl h0.size := Pm7.lt
  have lt5 : @LT.lt Nat _ tp h0.size := Pm10.lt
  have hS0 : s.Since s.vm h0.size := (State.WarmedH.refl s).since _
  have CR0 : CHr Z consts_1 s.vm h0 s.vm h0 := CHr.refl hH
  have hwS : ∀ d ∈ Bundle.stringAtoms, d.before a0 Z = true := fun d hd => hw d ((by decide +kernel : ∀ d ∈ Bundle.stringAtoms, d ∈ tables_1) d hd)
  refine own_aln X0 hx 1 (hb hby own_d17_0) rfl rfl rfl ?_
  refine own_gF X0 hx hZ hown (host := "") (Or.inl (hw _ (own_mi 43 rfl))) Via.refl e0 Pm0 4 (hb hby own_d17_1) rfl ?_
  intro T6 X6 e6
  refine own_gS X6 hx hZ hown (host := "") (Or.inl (hw _ (own_mi 36 rfl))) Via.refl e6 (OO.ext X00.2) 7 (hb hby own_d17_4) rfl ?_
  intro T7 X7 e7
  refine own_go (fun tq kq => Jvm.RoadKit.acmp (g := (mkF m 7 #[.val (.ref o), .unset] [(.ref ko), (.ref ko)])) X7 hx rfl rfl rfl (pc0 := 7) (pc' := 10) (same := true) rfl (hb hby own_d17_7) rfl (decide_eq_true rfl) (by decide) (by decide) kq) ?_
  show own_Rn p e below _ (T7.setTop (mkF m 10 #[.val (.ref o), .unset] []))
  obtain ⟨T8, h8, X8, e8, E8, A8, D8, -, st8⟩ := newO X7 hx hZ hown (hw _ (own_mi 110 rfl)) (hw _ (own_mi 111 rfl)) (hw _ (own_mi 112 rfl)) e7 (g := (mkF m 10 #[.val (.ref o), .unset] [])) rfl (hb hby own_d17_10) (by decide) (by decide)
  obtain ⟨b8, g8⟩ : ∃ z, z = h0.size := ⟨_, rfl⟩
  rw [← g8] at A8 D8 st8
  refine own_go st8 ?_
  have sz9 : h0.size ≤ h8.size := E8.1
  have K9 := K0.ext E8
  have cr9 : CHr Z consts_1 s.vm h0 s.vm h8 := CHr.ext E8 CR0.1
  have CR9 := CR0.trans cr9
  have lt10 : @LT.lt Nat _ b8 h8.size := A8.lt
  have gn8 : n0 ≤ b8 := (Nat.le_trans (Nat.le_trans Z0 (Nat.le_refl _)) (Nat.le_of_eq g8.symm))
  have D8_value : Fld Z h8 b8 "java/lang/AbstractStringBuilder" "value" "[B" .null := D8 (Or.inl (hw _ (own_mi 125 rfl))) (ty := (.array .byte)) own_fd_5bB
  have D8_coder : Fld Z h8 b8 "java/lang/AbstractStringBuilder" "coder" "B" (.int (0 : Int32)) := D8 (Or.inl (hw _ (own_mi 127 rfl))) (ty := .byte) own_fd_B
  have D8_count : Fld Z h8 b8 "java/lang/AbstractStringBuilder" "count" "I" (.int (0 : Int32)) := D8 (Or.inl (hw _ (own_mi 152 rfl))) (ty := .int) own_fd_I
  show own_Rn p e below _ (T8.setTop (mkF m 13 #[.val (.ref o), .unset] [(.ref b8)]))
  refine own_dp X8 hx 14 (hb hby own_d17_13) rfl rfl ?_
  have Zn12 : n0 ≤ h8.size := (Nat.le_trans Z0 sz9)
  have F13 : Old Z n0 h8 := (X00.ext E8)
  refine own_cI X8 hx hZ (y := (⟨"java/lang/StringBuilder", "<init>", "()V"⟩ : MethodName)) rfl hown (hw _ (own_mi 113 rfl)) (hw _ (own_mi 114 rfl)) (hw _ (own_mi 115 rfl)) (hw _ (own_mi 112 rfl)) (by decide) (rmSI l Z a0 hw [] (b8) (G1) h8 n0 Zn12 A8 D8_value D8_coder D8_count gn8 (O2) (P5) F13) e8 [] [(.ref b8)] rfl (by rw [hml]; rfl) (lenOf own_pd_2829V rfl) rfl 1 (Nat.le_of_eq rfl) (by decide) (by decide) (by decide : 1 + 1 ≤ _) (by decide : 4 + 16 ≤ _) 17 (hb hby own_d17_14) rfl 2 20 rfl rfl ?_
  intro rv12 T12 Lc12 X12 hQ12
  obtain ⟨bv11, kb11, rfl, Nq12, Kq12, G0_12, G1_12, G2_12, G3_12, G4_12, G5_12⟩ := hQ12
  have N12 := Fr.app N0 Nq12
  have sf14 : Safe Z consts_1 s.vm h8 b8 := Safe.exa hZ.alike A8 (by decide) (by decide)
  have sz15 : h8.size ≤ T12.heap.size := Kq12.1
  have K15 := K9.trans Kq12 (allS (Or.inr (Nat.le_trans (Nat.le_refl _) (Nat.le_of_eq g8.symm))) all0)
  have cr15 : CHr Z consts_1 s.vm h8 s.vm T12.heap := CHr.keep Kq12 (sfS sf14 sf0) CR9.1
  have CR15 := CR9.trans cr15
  have sf16 : Safe Z consts_1 s.vm T12.heap bv11 := Safe.keep Kq12 (sfS sf14 sf0) CR9.1 (Safe.new G0_12)
  have lt17 : @LT.lt Nat _ bv11 T12.heap.size := G4_12.lt
  show own_Rn p e below _ (T12.setTop (mkF m 17 #[.val (.ref o), .unset] [(.ref b8)]))
  obtain ⟨a18, T18, h18, kk18, bb18, kc18, X18, e18, E18, hS18, hk18, hZ18, hown18, Ex18, Co18, Va18, Ab18, la18, lb18, crq18, Li18, sn18, st18⟩ := ldcCH X12 hx hZ hown (hw _ (own_mi 128 rfl)) hwS rfl hS0 (by omega) hEL (List.mem_of_getElem? (i := 0) rfl) CR15.1 (vs := ((([45, 45] : List Int32).map (fun c => c.toInt8.toInt32)).map Value.int)) (z := (2 : Int32)) ⟨by decide, by decide⟩ (by decide) (by decide) (g := (mkF m 17 #[.val (.ref o), .unset] [(.ref b8)])) rfl (hb hby own_d17_17) (n := 8) (by decide) (by decide) (by decide) (by decide)
  refine own_go st18 ?_
  have sz19 : T12.heap.size ≤ h18.size := E18.1
  have K19 := K15.ext E18
  have cr19 : CHr Z consts_1 s.vm T12.heap T18.vm h18 := crq18
  have CR19 := CR15.trans cr19
  have sf21 : Safe Z consts_1 T18.vm h18 bv11 := (CHr.safe cr19 (Nat.lt_of_lt_of_le lt17 (Nat.le_refl _)) sf16)
  obtain ⟨na18_bv11, nb18_bv11⟩ := sn18 bv11 sf21
  have lt22 : @LT.lt Nat _ a18 h18.size := Ex18.lt
  have lt23 : @LT.lt Nat _ bb18 h18.size := Ab18.lt
  show own_Rn p e below _ (T18.setTop (mkF m 19 #[.val (.ref o), .unset] [(.ref a18), (.ref b8)]))
  have le25 : h0.size ≤ T12.heap.size := Nat.le_trans sz9 sz15
  have le26 : h0.size ≤ h18.size := Nat.le_trans le25 sz19
  have Zn24 : n0 ≤ h18.size := (Nat.le_trans Z0 le26)
  have F27 : Exa Z h18 b8 "java/lang/StringBuilder" := ((A8.keep Kq12).ext E18)
  have F28 : Fld Z h18 b8 "java/lang/AbstractStringBuilder" "value" "[B" (.ref bv11) := (G2_12.ext E18)
  have F29 : Fld Z h18 b8 "java/lang/AbstractStringBuilder" "coder" "B" (.int (0 : Int32)) := (G3_12.ext E18)
  have F30 : Arv Z h18 bv11 kb11 .byte (16 : Int32) (own_bs ([] : List Int32)) (.int 0) := (G4_12.ext E18)
  have F31 : Fld Z h18 b8 "java/lang/AbstractStringBuilder" "count" "I" (.int (Int32.ofNat ([] : List Int32).length)) := (G5_12.ext E18)
  have F32 : Old Z n0 h18 := ((F13.keep Kq12 (allS gn8 all0)).ext E18)
  refine own_cV X18 hx hZ18 (y := (⟨"java/lang/StringBuilder", "append", "(Ljava/lang/String;)Ljava/lang/StringBuilder;"⟩ : MethodName)) (z := (⟨"java/lang/StringBuilder", "append", "(Ljava/lang/String;)Ljava/lang/StringBuilder;"⟩ : MethodName)) hown18 (hw _ (own_mi 131 rfl)) (hw _ (own_mi 132 rfl)) (notFace_of_selects (args := #[]) (mvT hZ18 (hw _ (own_mi 134 rfl)))) (hw _ (own_mi 134 rfl)) (hw _ (own_mi 133 rfl)) (hw _ (own_mi 135 rfl)) (hw _ (own_mi 112 rfl)) (by decide) (rmSA l Z a0 hw [] (b8) (a18) (bb18) (kc18) (([45, 45] : List Int32)) (bv11) (kb11) (([] : List Int32)) (([45, 45] : List Int32)) (G1) h18 n0 Zn24 Ex18 Va18 Co18 Ab18 F27 F28 F29 F30 F31 (rfl) ((Nat.le_of_ble_eq_true rfl : ([45, 45] : List Int32).length ≤ 15)) ((Ne.symm nb18_bv11)) G1_12 gn8 (O2) (P5) F32) F27 e18 [(.ref a18)] [] rfl (by rw [hml]; rfl) (lenOf own_pd_28Ljava2flang2fString3b29Ljava2flang2fStringBuilder3b rfl) rfl 0 (Nat.le_of_eq rfl) (by decide) (by decide) (by decide : 4 + 0 ≤ _) (by decide : 32 + 0 ≤ _) 22 (hb hby own_d17_19) rfl 4 32 rfl rfl ?_
  intro rv24 T24 Lc24 X24 hQ24
  obtain ⟨rfl, Nq24, Kq24, G0_24, G1_24, G2_24, G3_24⟩ := hQ24
  have N24 := Fr.app N12 Nq24
  have sf34 : Safe Z consts_1 T18.vm h18 b8 := Safe.exa hZ18.alike F27 (by decide) (by decide)
  have sz35 : h18.size ≤ T24.heap.size := Kq24.1
  have K35 := K19.trans Kq24 (allS (Or.inr (Nat.le_trans (Nat.le_refl _) (Nat.le_of_eq g8.symm))) (allS (Or.inr (Nat.le_trans sz9 G0_12)) all0))
  have cr35 : CHr Z consts_1 T18.vm h18 T18.vm T24.heap := CHr.keep Kq24 (sfS sf34 (sfS sf21 sf0)) CR19.1
  have CR35 := CR19.trans cr35
  show own_Rn p e below _ (T24.setTop (mkF m 22 #[.val (.ref o), .unset] [(.ref b8)]))
  refine own_aln X24 hx 23 (hb hby own_d17_22) rfl rfl rfl ?_
  have ne36 : o ≠ b8 := own_nea (Or.inl (Nat.lt_of_lt_of_le lt1 (Nat.le_trans (Nat.le_refl _) (Nat.le_of_eq g8.symm))))
  have ne37 : o ≠ bv11 := own_nea (Or.inl (Nat.lt_of_lt_of_le lt1 (Nat.le_trans sz9 G0_12)))
  have F38 : Fld Z T24.heap o "com/example/elodea/elodea/cli/Parameter" "name" "Ljava/lang/String;" (.ref na) := ((((Pm1.ext E8).keep Kq12 (ninS ne36 nin0)).ext E18).keep Kq24 (ninS ne36 (ninS ne37 nin0)))
  refine own_gF X24 hx hZ18 hown18 (host := "") (Or.inl (hw _ (own_mi 45 rfl))) Via.refl rfl F38 26 (hb hby own_d17_23) rfl ?_
  intro T39 X39 e39
  have ne40 : tn ≠ bv11 := own_nea (Or.inl (Nat.lt_of_lt_of_le lt3 (Nat.le_trans sz9 G0_12)))
  have le42 : h0.size ≤ T24.heap.size := Nat.le_trans le26 sz35
  have Zn41 : n0 ≤ T24.heap.size := (Nat.le_trans Z0 le42)
  have F43 : Exa Z T24.heap na "java/lang/String" := ((((Pm3.ext E8).keep Kq12).ext E18).keep Kq24)
  have ne44 : na ≠ b8 := own_nea (Or.inl (Nat.lt_of_lt_of_le lt2 (Nat.le_trans (Nat.le_refl _) (Nat.le_of_eq g8.symm))))
  have ne45 : na ≠ bv11 := own_nea (Or.inl (Nat.lt_of_lt_of_le lt2 (Nat.le_trans sz9 G0_12)))
  have F46 : Fld Z T24.heap na "java/lang/String" "value" "[B" (.ref tn) := ((((Pm4.ext E8).keep Kq12 (ninS ne44 nin0)).ext E18).keep Kq24 (ninS ne44 (ninS ne45 nin0)))
  have F47 : Fld Z T24.heap na "java/lang/String" "coder" "B" (.int (0 : Int32)) := ((((Pm5.ext E8).keep Kq12 (ninS ne44 nin0)).ext E18).keep Kq24 (ninS ne44 (ninS ne45 nin0)))
  have ne48 : tn ≠ b8 := own_nea (Or.inl (Nat.lt_of_lt_of_le lt3 (Nat.le_trans (Nat.le_refl _) (Nat.le_of_eq g8.symm))))
  have F49 : Arv Z T24.heap tn kn .byte (Int32.ofNat ([c0, c1] : List Int32).length) (own_bs ([c0, c1] : List Int32)) (.int 0) := ((((Pm6.ext E8).keep Kq12 (ninS ne48 nin0)).ext E18).keep Kq24 (ninS ne48 (ninS ne40 nin0)))
  have F50 : Exa Z T24.heap b8 "java/lang/StringBuilder" := (F27.keep Kq24)
  have F51 : Old Z n0 T24.heap := (F32.keep Kq24 (allS gn8 (allS G1_12 all0)))
  refine own_cV X39 hx hZ18 (y := (⟨"java/lang/StringBuilder", "append", "(Ljava/lang/String;)Ljava/lang/StringBuilder;"⟩ : MethodName)) (z := (⟨"java/lang/StringBuilder", "append", "(Ljava/lang/String;)Ljava/lang/StringBuilder;"⟩ : MethodName)) hown18 (hw _ (own_mi 131 rfl)) (hw _ (own_mi 132 rfl)) (notFace_of_selects (args := #[]) (mvT hZ18 (hw _ (own_mi 134 rfl)))) (hw _ (own_mi 134 rfl)) (hw _ (own_mi 133 rfl)) (hw _ (own_mi 135 rfl)) (hw _ (own_mi 112 rfl)) (by decide) (rmSA l Z a0 hw [] (b8) (na) (tn) (kn) (([c0, c1] : List Int32)) (bv11) (kb11) (([45, 45] : List Int32)) (([45, 45, c0, c1] : List Int32)) (G1) T24.heap n0 Zn41 F43 F46 F47 F49 F50 G0_24 G1_24 G3_24 G2_24 (rfl) ((Nat.le_of_ble_eq_true rfl : ([45, 45, c0, c1] : List Int32).length ≤ 15)) (ne40) G1_12 gn8 (O2) (P5) F51) F50 e39 [(.ref na)] [] rfl (by rw [hml]; rfl) (lenOf own_pd_28Ljava2flang2fString3b29Ljava2flang2fStringBuilder3b rfl) rfl 0 (Nat.le_of_eq rfl) (by decide) (by decide) (by decide : 4 + 0 ≤ _) (by decide : 32 + 0 ≤ _) 29 (hb hby own_d17_26) rfl 4 32 rfl rfl ?_
  intro rv41 T41 Lc41 X41 hQ41
  obtain ⟨rfl, Nq41, Kq41, G0_41, G1_41, G2_41, G3_41⟩ := hQ41
  have N41 := Fr.app N24 Nq41
  have sf53 : Safe Z consts_1 T18.vm T24.heap bv11 := (CHr.safe cr35 (Nat.lt_of_lt_of_le lt17 sz19) sf21)
  have sf54 : Safe Z consts_1 T18.vm T24.heap b8 := Safe.exa hZ18.alike F50 (by decide) (by decide)
  have sz55 : T24.heap.size ≤ T41.heap.size := Kq41.1
  have K55 := K35.trans Kq41 (allS (Or.inr (Nat.le_trans (Nat.le_refl _) (Nat.le_of_eq g8.symm))) (allS (Or.inr (Nat.le_trans sz9 G0_12)) all0))
  have cr55 : CHr Z consts_1 T18.vm T24.heap T18.vm T41.heap := CHr.keep Kq41 (sfS sf54 (sfS sf53 sf0)) CR35.1
  have CR55 := CR35.trans cr55
  show own_Rn p e below _ (T41.setTop (mkF m 29 #[.val (.ref o), .unset] [(.ref b8)]))
  obtain ⟨a56, T56, h56, kk56, bb56, kc56, X56, e56, E56, hS56, hk56, hZ56, hown56, Ex56, Co56, Va56, Ab56, la56, lb56, crq56, Li56, sn56, st56⟩ := ldcCH X41 hx hZ18 hown18 (hw _ (own_mi 178 rfl)) hwS rfl hS18 (by omega) hEL (List.mem_of_getElem? (i := 1) rfl) CR55.1 (vs := ((([32] : List Int32).map (fun c => c.toInt8.toInt32)).map Value.int)) (z := (1 : Int32)) ⟨by decide, by decide⟩ (by decide) (by decide) (g := (mkF m 29 #[.val (.ref o), .unset] [(.ref b8)])) rfl (hb hby own_d17_29) (n := 4) (by decide) (by decide) (by decide) (by decide)
  refine own_go st56 ?_
  have sz57 : T41.heap.size ≤ h56.size := E56.1
  have K57 := K55.ext E56
  have cr57 : CHr Z consts_1 T18.vm T41.heap T56.vm h56 := crq56
  have CR57 := CR55.trans cr57
  have le59 : T12.heap.size ≤ T24.heap.size := Nat.le_trans sz19 sz35
  have le60 : T12.heap.size ≤ T41.heap.size := Nat.le_trans le59 sz55
  have sf61 : Safe Z consts_1 T56.vm h56 bv11 := (CHr.safe cr57 (Nat.lt_of_lt_of_le lt17 le60) (CHr.safe cr55 (Nat.lt_of_lt_of_le lt17 le59) sf53))
  obtain ⟨na56_bv11, nb56_bv11⟩ := sn56 bv11 sf61
  have lt62 : @LT.lt Nat _ a56 h56.size := Ex56.lt
  have lt63 : @LT.lt Nat _ bb56 h56.size := Ab56.lt
  show own_Rn p e below _ (T56.setTop (mkF m 31 #[.val (.ref o), .unset] [(.ref a56), (.ref b8)]))
  have le65 : h0.size ≤ T41.heap.size := Nat.le_trans le42 sz55
  have le66 : h0.size ≤ h56.size := Nat.le_trans le65 sz57
  have Zn64 : n0 ≤ h56.size := (Nat.le_trans Z0 le66)
  have F67 : Exa Z h56 b8 "java/lang/StringBuilder" := ((F50.keep Kq41).ext E56)
  have F68 : Fld Z h56 b8 "java/lang/AbstractStringBuilder" "value" "[B" (.ref bv11) := (G0_41.ext E56)
  have F69 : Fld Z h56 b8 "java/lang/AbstractStringBuilder" "coder" "B" (.int (0 : Int32)) := (G1_41.ext E56)
  have F70 : Arv Z h56 bv11 kb11 .byte (16 : Int32) (own_bs ([45, 45, c0, c1] : List Int32)) (.int 0) := (G3_41.ext E56)
  have F71 : Fld Z h56 b8 "java/lang/AbstractStringBuilder" "count" "I" (.int (Int32.ofNat ([45, 45, c0, c1] : List Int32).length)) := (G2_41.ext E56)
  have F72 : Old Z n0 h56 := ((F51.keep Kq41 (allS gn8 (allS G1_12 all0))).ext E56)
  refine own_cV X56 hx hZ56 (y := (⟨"java/lang/StringBuilder", "append", "(Ljava/lang/String;)Ljava/lang/StringBuilder;"⟩ : MethodName)) (z := (⟨"java/lang/StringBuilder", "append", "(Ljava/lang/String;)Ljava/lang/StringBuilder;"⟩ : MethodName)) hown56 (hw _ (own_mi 131 rfl)) (hw _ (own_mi 132 rfl)) (notFace_of_selects (args := #[]) (mvT hZ56 (hw _ (own_mi 134 rfl)))) (hw _ (own_mi 134 rfl)) (hw _ (own_mi 133 rfl)) (hw _ (own_mi 135 rfl)) (hw _ (own_mi 112 rfl)) (by decide) (rmSA l Z a0 hw [] (b8) (a56) (bb56) (kc56) (([32] : List Int32)) (bv11) (kb11) (([45, 45, c0, c1] : List Int32)) (([45, 45, c0, c1, 32] : List Int32)) (G1) h56 n0 Zn64 Ex56 Va56 Co56 Ab56 F67 F68 F69 F70 F71 (rfl) ((Nat.le_of_ble_eq_true rfl : ([45, 45, c0, c1, 32] : List Int32).length ≤ 15)) ((Ne.symm nb56_bv11)) G1_12 gn8 (O2) (P5) F72) F67 e56 [(.ref a56)] [] rfl (by rw [hml]; rfl) (lenOf own_pd_28Ljava2flang2fString3b29Ljava2flang2fStringBuilder3b rfl) rfl 0 (Nat.le_of_eq rfl) (by decide) (by decide) (by decide : 6 + 0 ≤ _) (by decide : 40 + 0 ≤ _) 34 (hb hby own_d17_31) rfl 6 40 rfl rfl ?_
  intro rv64 T64 Lc64 X64 hQ64
  obtain ⟨rfl, Nq64, Kq64, G0_64, G1_64, G2_64, G3_64⟩ := hQ64
  have N64 := Fr.app N41 Nq64
  have sf74 : Safe Z consts_1 T56.vm h56 b8 := Safe.exa hZ56.alike F67 (by decide) (by decide)
  have sz75 : h56.size ≤ T64.heap.size := Kq64.1
  have K75 := K57.trans Kq64 (allS (Or.inr (Nat.le_trans (Nat.le_refl _) (Nat.le_of_eq g8.symm))) (allS (Or.inr (Nat.le_trans sz9 G0_12)) all0))
  have cr75 : CHr Z consts_1 T56.vm h56 T56.vm T64.heap := CHr.keep Kq64 (sfS sf74 (sfS sf61 sf0)) CR57.1
  have CR75 := CR57.trans cr75
  show own_Rn p e below _ (T64.setTop (mkF m 34 #[.val (.ref o), .unset] [(.ref b8)]))
  refine own_aln X64 hx 35 (hb hby own_d17_34) rfl rfl rfl ?_
  have F76 : Fld Z T64.heap o "com/example/elodea/elodea/cli/Parameter" "placeholder" "Ljava/lang/String;" (.ref pl) := (((((((Pm2.ext E8).keep Kq12 (ninS ne36 nin0)).ext E18).keep Kq24 (ninS ne36 (ninS ne37 nin0))).keep Kq41 (ninS ne36 (ninS ne37 nin0))).ext E56).keep Kq64 (ninS ne36 (ninS ne37 nin0)))
  refine own_gF X64 hx hZ56 hown56 (host := "") (Or.inl (hw _ (own_mi 47 rfl))) Via.refl rfl F76 38 (hb hby own_d17_35) rfl ?_
  intro T77 X77 e77
  have ne78 : tp ≠ bv11 := own_nea (Or.inl (Nat.lt_of_lt_of_le lt5 (Nat.le_trans sz9 G0_12)))
  have le80 : h0.size ≤ T64.heap.size := Nat.le_trans le66 sz75
  have Zn79 : n0 ≤ T64.heap.size := (Nat.le_trans Z0 le80)
  have F81 : Exa Z T64.heap pl "java/lang/String" := (((((((Pm7.ext E8).keep Kq12).ext E18).keep Kq24).keep Kq41).ext E56).keep Kq64)
  have ne82 : pl ≠ b8 := own_nea (Or.inl (Nat.lt_of_lt_of_le lt4 (Nat.le_trans (Nat.le_refl _) (Nat.le_of_eq g8.symm))))
  have ne83 : pl ≠ bv11 := own_nea (Or.inl (Nat.lt_of_lt_of_le lt4 (Nat.le_trans sz9 G0_12)))
  have F84 : Fld Z T64.heap pl "java/lang/String" "value" "[B" (.ref tp) := (((((((Pm8.ext E8).keep Kq12 (ninS ne82 nin0)).ext E18).keep Kq24 (ninS ne82 (ninS ne83 nin0))).keep Kq41 (ninS ne82 (ninS ne83 nin0))).ext E56).keep Kq64 (ninS ne82 (ninS ne83 nin0)))
  have F85 : Fld Z T64.heap pl "java/lang/String" "coder" "B" (.int (0 : Int32)) := (((((((Pm9.ext E8).keep Kq12 (ninS ne82 nin0)).ext E18).keep Kq24 (ninS ne82 (ninS ne83 nin0))).keep Kq41 (ninS ne82 (ninS ne83 nin0))).ext E56).keep Kq64 (ninS ne82 (ninS ne83 nin0)))
  have ne86 : tp ≠ b8 := own_nea (Or.inl (Nat.lt_of_lt_of_le lt5 (Nat.le_trans (Nat.le_refl _) (Nat.le_of_eq g8.symm))))
  have F87 : Arv Z T64.heap tp kp .byte (Int32.ofNat ([v0, v1] : List Int32).length) (own_bs ([v0, v1] : List Int32)) (.int 0) := (((((((Pm10.ext E8).keep Kq12 (ninS ne86 nin0)).ext E18).keep Kq24 (ninS ne86 (ninS ne78 nin0))).keep Kq41 (ninS ne86 (ninS ne78 nin0))).ext E56).keep Kq64 (ninS ne86 (ninS ne78 nin0)))
  have F88 : Exa Z T64.heap b8 "java/lang/StringBuilder" := (F67.keep Kq64)
  have F89 : Old Z n0 T64.heap := (F72.keep Kq64 (allS gn8 (allS G1_12 all0)))
  refine own_cV X77 hx hZ56 (y := (⟨"java/lang/StringBuilder", "append", "(Ljava/lang/String;)Ljava/lang/StringBuilder;"⟩ : MethodName)) (z := (⟨"java/lang/StringBuilder", "append", "(Ljava/lang/String;)Ljava/lang/StringBuilder;"⟩ : MethodName)) hown56 (hw _ (own_mi 131 rfl)) (hw _ (own_mi 132 rfl)) (notFace_of_selects (args := #[]) (mvT hZ56 (hw _ (own_mi 134 rfl)))) (hw _ (own_mi 134 rfl)) (hw _ (own_mi 133 rfl)) (hw _ (own_mi 135 rfl)) (hw _ (own_mi 112 rfl)) (by decide) (rmSA l Z a0 hw [] (b8) (pl) (tp) (kp) (([v0, v1] : List Int32)) (bv11) (kb11) (([45, 45, c0, c1, 32] : List Int32)) (([45, 45, c0, c1, 32, v0, v1] : List Int32)) (G1) T64.heap n0 Zn79 F81 F84 F85 F87 F88 G0_64 G1_64 G3_64 G2_64 (rfl) ((Nat.le_of_ble_eq_true rfl : ([45, 45, c0, c1, 32, v0, v1] : List Int32).length ≤ 15)) (ne78) G1_12 gn8 (O2) (P5) F89) F88 e77 [(.ref pl)] [] rfl (by rw [hml]; rfl) (lenOf own_pd_28Ljava2flang2fString3b29Ljava2flang2fStringBuilder3b rfl) rfl 0 (Nat.le_of_eq rfl) (by decide) (by decide) (by decide : 6 + 0 ≤ _) (by decide : 40 + 0 ≤ _) 41 (hb hby own_d17_38) rfl 6 40 rfl rfl ?_
  intro rv79 T79 Lc79 X79 hQ79
  obtain ⟨rfl, Nq79, Kq79, G0_79, G1_79, G2_79, G3_79⟩ := hQ79
  have N79 := Fr.app N64 Nq79
  have le91 : T12.heap.size ≤ h56.size := Nat.le_trans le60 sz57
  have sf92 : Safe Z consts_1 T56.vm T64.heap bv11 := (CHr.safe cr75 (Nat.lt_of_lt_of_le lt17 le91) sf61)
  have sf93 : Safe Z consts_1 T56.vm T64.heap b8 := Safe.exa hZ56.alike F88 (by decide) (by decide)
  have sz94 : T64.heap.size ≤ T79.heap.size := Kq79.1
  have K94 := K75.trans Kq79 (allS (Or.inr (Nat.le_trans (Nat.le_refl _) (Nat.le_of_eq g8.symm))) (allS (Or.inr (Nat.le_trans sz9 G0_12)) all0))
  have cr94 : CHr Z consts_1 T56.vm T64.heap T56.vm T79.heap := CHr.keep Kq79 (sfS sf93 (sfS sf92 sf0)) CR75.1
  have CR94 := CR75.trans cr94
  show own_Rn p e below _ (T79.setTop (mkF m 41 #[.val (.ref o), .unset] [(.ref b8)]))
  have le97 : h0.size ≤ T79.heap.size := Nat.le_trans le80 sz94
  have Zn96 : n0 ≤ T79.heap.size := (Nat.le_trans Z0 le97)
  have F98 : Exa Z T79.heap b8 "java/lang/StringBuilder" := (F88.keep Kq79)
  have F99 : Old Z n0 T79.heap := (F89.keep Kq79 (allS gn8 (allS G1_12 all0)))
  refine own_cV X79 hx hZ56 (y := (⟨"java/lang/StringBuilder", "toString", "()Ljava/lang/String;"⟩ : MethodName)) (z := (⟨"java/lang/StringBuilder", "toString", "()Ljava/lang/String;"⟩ : MethodName)) hown56 (hw _ (own_mi 179 rfl)) (hw _ (own_mi 180 rfl)) (notFace_of_selects (args := #[]) (mvT hZ56 (hw _ (own_mi 182 rfl)))) (hw _ (own_mi 182 rfl)) (hw _ (own_mi 181 rfl)) (hw _ (own_mi 183 rfl)) (hw _ (own_mi 112 rfl)) (by decide) (rmTS l Z a0 hw [] (b8) (bv11) (kb11) (([45, 45, c0, c1, 32, v0, v1] : List Int32)) (G1) T79.heap n0 Zn96 F98 G0_79 G1_79 G3_79 G2_79 ((Nat.le_of_ble_eq_true rfl : ([45, 45, c0, c1, 32, v0, v1] : List Int32).length ≤ 15)) (O2) (P5) F99) F98 rfl [] [] rfl (by rw [hml]; rfl) (lenOf own_pd_2829Ljava2flang2fString3b rfl) rfl 0 (Nat.le_of_eq rfl) (by decide) (by decide) (by decide : 6 + 2 ≤ _) (by decide : 40 + 19 ≤ _) 44 (hb hby own_d17_41) rfl 8 59 rfl rfl ?_
  intro rv96 T96 Lc96 X96 hQ96
  obtain ⟨xs95, ts95, ks95, rfl, Nq96, Kq96, G0_96, G1_96, G2_96, G3_96, G4_96, G5_96, G6_96, G7_96⟩ := hQ96
  have N96 := Fr.app N79 Nq96
  have sz100 : T79.heap.size ≤ T96.heap.size := Kq96.1
  have K100 := K94.trans Kq96 all0
  have cr100 : CHr Z consts_1 T56.vm T79.heap T56.vm T96.heap := CHr.keep Kq96 sf0 CR94.1
  have CR100 := CR94.trans cr100
  have sf101 : Safe Z consts_1 T56.vm T96.heap xs95 := Safe.keep Kq96 sf0 CR94.1 (Safe.new G0_96)
  have sf102 : Safe Z consts_1 T56.vm T96.heap ts95 := Safe.keep Kq96 sf0 CR94.1 (Safe.new G2_96)
  have lt103 : @LT.lt Nat _ xs95 T96.heap.size := G4_96.lt
  have lt104 : @LT.lt Nat _ ts95 T96.heap.size := G6_96.lt
  show own_Rn p e below _ (T96.setTop (mkF m 44 #[.val (.ref o), .unset] [(.ref xs95)]))
  refine own_asn X96 hx #[.val (.ref o), .val (.ref xs95)] 45 (hb hby own_d17_44) rfl rfl rfl ?_
  refine own_gt X96 hx 150 (hb hby own_d17_45) (by decide) (by decide) ?_
  refine own_aln X96 hx 151 (hb hby own_d17_150) rfl rfl rfl ?_
  exact own_retS X96 hS56 (by omega) (v := some (.ref xs95)) (fun h => by rw [Bd.returns] at h; cases h) (fun fs hr => X96.areturnOut hx rfl Bd.returns rfl (hb hby own_d17_151) hr) (⟨xs95, ts95, ks95, rfl, N96, K100, G7_96, G4_96, G5_96, G6_96⟩) (by rw [hh]; exact CR100.trans (CHv.at X96 hZ56 hEL CR100.1)) (by decide) (by decide)
theorem own_ef_rmUs (m : MethodId) (o : Addr) (na : Addr) (tn : Addr) (kn : ClassId) (pl : Addr) (tp : Addr) (kp : ClassId) (c0 : Int32) (c1 : Int32) (v0 : Int32) (v1 : Int32) (ko : Addr) (G1 : Int32) : entryFrame m #[(.ref o)] 1 = mkF m 0 #[.val (.ref o)] [] := by first | (simp [entryFrame, mkF, argsToLocals, Value.category]; done) | rfl
theorem own_d16_0 : decode prog_4_method_16_code 0 = .ok (.aload_n 0, 1) := by decide +kernel
theorem own_d16_1 : decode prog_4_method_16_code 1 = .ok (.getfield 20, 3) := by decide +kernel
theorem own_d16_4 : decode prog_4_method_16_code 4 = .ok (.ifCond .eq 10, 3) := by decide +kernel
theorem own_d16_7 : decode prog_4_method_16_code 7 = .ok (.aload_n 0, 1) := by decide +kernel
theorem own_d16_8 : decode prog_4_method_16_code 8 = .ok (.invokevirtual 110, 3) := by decide +kernel
theorem own_d16_11 : decode prog_4_method_16_code 11 = .ok (.goto 30, 3) := by decide +kernel
theorem own_d16_41 : decode prog_4_method_16_code 41 = .ok (.areturn, 1) := by decide +kernel
def Q_rmUs (Z : State) (o : Addr) (na : Addr) (tn : Addr) (kn : ClassId) (pl : Addr) (tp : Addr) (kp : ClassId) (c0 : Int32) (c1 : Int32) (v0 : Int32) (v1 : Int32) (ko : Addr) (G1 : Int32) (h0 : Heap) (n0 : Nat) (vq : Option Value) (hhq : Heap) (Lq : List Loc) : Prop := ∃ (x : Addr), ∃ (t : Addr), ∃ (kt : ClassId), vq = some (.ref x) ∧ Fr n0 Lq ∧ Keep h0 hhq [] ∧ Exa Z hhq x "java/lang/String" ∧ Fld Z hhq x "java/lang/String" "value" "[B" (.ref t) ∧ Fld Z hhq x "java/lang/String" "coder" "B" (.int (0 : Int32)) ∧ Arv Z hhq t kt .byte (Int32.ofNat ([45, 45, c0, c1, 32, v0, v1] : List Int32).length) (own_bs ([45, 45, c0, c1, 32, v0, v1] : List Int32)) (.int 0)
set_option maxRecDepth 65536 in
set_option maxHeartbeats 40000000 in
theorem rmUs (l : Launch) (Z : State) (a0 : Array Value) (hw : ∀ d ∈ tables_1, d.before a0 Z = true) (ws : List Jvm.Cond) (o : Addr) (na : Addr) (tn : Addr) (kn : ClassId) (pl : Addr) (tp : Addr) (kp : ClassId) (c0 : Int32) (c1 : Int32) (v0 : Int32) (v1 : Int32) (ko : Addr) (G1 : Int32) (h0 : Heap) (n0 : Nat) (Z0 : n0 ≤ h0.size) (hEL : EW Z a0 consts_1) (Pm0 : Exa Z h0 o "com/example/elodea/elodea/cli/Parameter") (Pm1 : Fld Z h0 o "com/example/elodea/elodea/cli/Parameter" "required" "Z" (.int (1 : Int32))) (Pm2 : Fld Z h0 o "com/example/elodea/elodea/cli/Parameter" "kind" "Lcom/example/elodea/elodea/cli/Parameter$Kind;" (.ref ko)) (Pm3 : Fld Z h0 o "com/example/elodea/elodea/cli/Parameter" "name" "Ljava/lang/String;" (.ref na)) (Pm4 : Fld Z h0 o "com/example/elodea/elodea/cli/Parameter" "placeholder" "Ljava/lang/String;" (.ref pl)) (Pm5 : Exa Z h0 na "java/lang/String") (Pm6 : Fld Z h0 na "java/lang/String" "value" "[B" (.ref tn)) (Pm7 : Fld Z h0 na "java/lang/String" "coder" "B" (.int (0 : Int32))) (Pm8 : Arv Z h0 tn kn .byte (Int32.ofNat ([c0, c1] : List Int32).length) (own_bs ([c0, c1] : List Int32)) (.int 0)) (Pm9 : Exa Z h0 pl "java/lang/String") (Pm10 : Fld Z h0 pl "java/lang/String" "value" "[B" (.ref tp)) (Pm11 : Fld Z h0 pl "java/lang/String" "coder" "B" (.int (0 : Int32))) (Pm12 : Arv Z h0 tp kp .byte (Int32.ofNat ([v0, v1] : List Int32).length) (own_bs ([v0, v1] : List Int32)) (.int 0)) (OO : Sta Z Z.heap "com/example/elodea/elodea/cli/Parameter$Kind" "OPTION" "Lcom/example/elodea/elodea/cli/Parameter$Kind;" (.ref ko)) (O2 : Sta Z Z.heap "java/lang/String" "COMPACT_STRINGS" "Z" (.int G1)) (P5 : (¬ (G1 = (0 : Int32)))) (X00 : Old Z n0 h0) :
    MetFree l (⟨"com/example/elodea/elodea/cli/Parameter", "getUsage", "()Ljava/lang/String;"⟩ : MethodName) (head1 (Jvm.Cond.code (⟨"com/example/elodea/elodea/cli/Parameter", "getUsage", "()Ljava/lang/String;"⟩ : MethodName) prog_4_method_16_code 1 (some (.object "java/lang/String")) :: ws) ({ frames := 7, cells := 8, slots := 59, locals := 113 } : Room)) (fun aq U => aq = #[(.ref o)] ∧ Z.Warmed39 U.vm ∧ U.heap = h0 ∧ CHv Z consts_1 U.vm h0 ∧ ∀ ax ∈ ([] : List Addr), Safe Z consts_1 U.vm h0 ax) (fun _ _ _ _ _ => True) (fun _ U oq U' => ∃ vq Lq, oq = .returned vq ∧ Q_rmUs Z o na tn kn pl tp kp c0 c1 v0 v1 ko G1 h0 n0 vq U'.heap Lq ∧ CHr Z consts_1 U.vm U.heap U'.vm U'.heap ∧ ReturnedEndW U oq U' Lq ({ frames := 7, cells := 8, slots := 59, locals := 113 } : Room).cells ({ frames := 7, cells := 8, slots := 59, locals := 113 } : Room).slots) := by
  refine MetFree.of_bodySF (plainFor_of_name own_pn_com_example_elodea_elodea_cli_Parameter) hisR ?_
  intro p e s m args below meth c s₁ Bd hml0 hP hK
  obtain ⟨rfl, hZ, hh, hH, hSf⟩ := hP
  have hx := Bd.exec
  have hby := Bd.bytes
  have hml : c.maxLocals = 1 := hml0
  have hown : s.vm.findClass "com/example/elodea/elodea/cli/Parameter" = some m.cls := findClass_of_methodNamed Bd.named
  have hnm := (name_of_methodNamed Bd.named Bd.method).1
  have X0 : Stand p l e ({ frames := 7, cells := 8, slots := 59, locals := 113 } : Room) (s.setVm s.vm) m #[(.ref o)] below meth c s₁ [] 0 0 := Stand.of_body Bd
  have e0 : s₁.heap = h0 := by rw [← hh, Bd.state]; rfl
  have N0 := Fr.nil n0
  have K0 : Keep h0 h0 [] := Keep.refl _ _
  refine own_go (S' := s₁.setTop (mkF m 0 #[.val (.ref o)] [])) (fun tq kq => castTop (own_ef_rmUs m o na tn kn pl tp kp c0 c1 v0 v1 ko G1) kq) ?_
  have lt1 : @LT.lt Nat _ o h0.size := Pm0.lt
  have lt2 : @LT.lt Nat _ na h0.size := Pm5.lt
  have lt3 : @LT.lt Nat _ tn h0.size := Pm8.lt
  have lt4 : @LT.lt Nat _ pl h0.size := Pm9.lt
  have lt5 : @LT.lt Nat _ tp h0.size := Pm12.lt
  have hS0 : s.Since s.vm h0.size := (State.WarmedH.refl s).since _
  have CR0 : CHr Z consts_1 s.vm h0 s.vm h0 := CHr.refl hH
  have hwS : ∀ d ∈ Bundle.stringAtoms, d.before a0 Z = true := fun d hd => hw d ((by decide +kernel : ∀ d ∈ Bundle.stringAtoms, d ∈ tables_1) d hd)
  refine own_aln X0 hx 1 (hb hby own_d16_0) rfl rfl rfl ?_
  refine own_gF X0 hx hZ hown (host := "") (Or.inl (hw _ (own_mi 49 rfl))) Via.refl e0 Pm1 4 (hb hby own_d16_1) rfl ?_
  intro T6 X6 e6
  refine own_ifN X6 hx 7 (hb hby own_d16_4) rfl ((if0 _ _).trans (feq ((by decide : ¬ ((1 : Int32) = (0 : Int32))) : ¬ ((1 : Int32) = (0 : Int32)))).1) ?_
  refine own_aln X6 hx 8 (hb hby own_d16_7) rfl rfl rfl ?_
  have Zn7 : n0 ≤ h0.size := (Nat.le_trans Z0 (Nat.le_refl _))
  refine own_sV X6 hx hZ (y := (⟨"com/example/elodea/elodea/cli/Parameter", "getLabel", "()Ljava/lang/String;"⟩ : MethodName)) (rm := ({ frames := 6, cells := 8, slots := 59, locals := 100 } : Room)) (sf := []) (z := (⟨"com/example/elodea/elodea/cli/Parameter", "getLabel", "()Ljava/lang/String;"⟩ : MethodName)) hown (hw _ (own_mi 105 rfl)) (hw _ (own_mi 106 rfl)) (notFace_of_selects (args := #[]) (mvT hZ (hw _ (own_mi 108 rfl)))) (hw _ (own_mi 108 rfl)) (hw _ (own_mi 107 rfl)) (hw _ (own_mi 109 rfl)) (hw _ (own_mi 32 rfl)) (by decide) (rmLab l Z a0 hw [] (o) (na) (tn) (kn) (pl) (tp) (kp) (c0) (c1) (v0) (v1) (ko) (G1) h0 n0 Zn7 hEL Pm2 Pm3 Pm4 Pm5 Pm6 Pm7 Pm8 Pm9 Pm10 Pm11 Pm12 (OO) (O2) (P5) X00) hEL CR0.1 sf0 Pm0 e6 [] [] rfl (by rw [hml]; rfl) (lenOf own_pd_2829Ljava2flang2fString3b rfl) rfl 0 (Nat.le_of_eq rfl) (by decide) (by decide) (by decide : 0 + 8 ≤ _) (by decide : 0 + 59 ≤ _) 11 (hb hby own_d16_8) rfl 8 59 rfl rfl ?_
  intro rv7 T7 Lc7 X7 hS7 hG7 hQ7 CR7q
  obtain ⟨xl, tl, kl, rfl, Nq7, Kq7, G0_7, G1_7, G2_7, G3_7⟩ := hQ7
  have N7 := Fr.app N0 Nq7
  obtain ⟨Xr7, hSr7, hZ7, hown7⟩ := rebS hS0 (n1 := T6.heap.size) (by rw [e6]; omega) X7 hS7 hG7 hZ hown
  have sz8 : h0.size ≤ T7.heap.size := Kq7.1
  have K8 := K0.trans Kq7 all0
  have cr8 : CHr Z consts_1 s.vm h0 T7.vm T7.heap := CR7q
  have CR8 := CR0.trans cr8
  have lt9 : @LT.lt Nat _ xl T7.heap.size := G0_7.lt
  have lt10 : @LT.lt Nat _ tl T7.heap.size := G3_7.lt
  show own_Rn p e below _ (T7.setTop (mkF m 11 #[.val (.ref o)] [(.ref xl)]))
  refine own_gt Xr7 hx 41 (hb hby own_d16_11) (by decide) (by decide) ?_
  exact own_retS Xr7 hSr7 (by omega) (v := some (.ref xl)) (fun h => by rw [Bd.returns] at h; cases h) (fun fs hr => Xr7.areturnOut hx rfl Bd.returns rfl (hb hby own_d16_41) hr) (⟨xl, tl, kl, rfl, N7, K8, G0_7, G1_7, G2_7, G3_7⟩) (by rw [hh]; exact CR8.trans (CHv.at Xr7 hZ7 hEL CR8.1)) (by decide) (by decide)
theorem own_ef_rm0 (m : MethodId) (i0 : Int32) (i1 : Int32) (i2 : Int32) (i3 : Int32) (G1 : Int32) (ko : Addr) : entryFrame m #[(.int i0), (.int i1), (.int i2), (.int i3)] maxLocals = mkF m 0 #[.val (.int i0), .val (.int i1), .val (.int i2), .val (.int i3), .unset, .unset, .unset, .unset, .unset, .unset, .unset, .unset, .unset, .unset, .unset] [] := by first | (simp [entryFrame, mkF, argsToLocals, Value.category, maxLocals]; done) | rfl
theorem own_pn_com_example_elodea_elodea_cli_ParameterOptionPinLaw : plainName "com/example/elodea/elodea/cli/ParameterOptionPinLaw" = true := by first | (simp [plainName, overriddenIn]; done) | decide +kernel
theorem own_pN {p : Program} {l : Launch} {e : Env} {R : Room} {s : State} {m : MethodId} {args : Array Value} {below : List Frame} {meth : Method} {c : Code} {T : State} {locs : List Loc} {cells slots : Nat} {P : Outcome → State → Prop} {pc : Nat} {L : Array Slot} {S : List Value} {Z : State} {a0 : Array Value} {hh : Heap} {own : String} {index : Nat} {bytes : ByteArray} {maxL : Nat} (X : Stand p l e R s m args below meth c T locs cells slots) (hx : p.tables.exec = Jvm.exec) (hZ : Z.Warmed39 s.vm)
    (hown : s.vm.findClass own = some m.cls) (w1 : (Cond.methodLink own index (⟨"java/lang/String", "<init>", "([C)V"⟩ : MethodName)).before a0 Z = true) (w2 : (Cond.instanceMethod (⟨"java/lang/String", "<init>", "([C)V"⟩ : MethodName)).before a0 Z = true) (w4 : (Cond.code (⟨"java/lang/String", "<init>", "([C)V"⟩ : MethodName) bytes maxL none).before a0 Z = true)
    (hlen : ∀ sig, parseMethodDescriptor "([C)V" = some sig → ([Value.null] : List Value).length = sig.parameters.length) (hws : ∀ d ∈ StrChars.Road.words, d.before a0 Z = true) {kI : Nat} (wi : (Cond.instantiable "java/lang/String" kI).before a0 Z = true)
    {x b : Addr} {kC : ClassId} {cs bs : List Int32} {d v0 c0 : Value} {z N : Int32} {n n0 : Nat} (hx0 : n0 ≤ x) (hh0 : n0 ≤ hh.size) (E : Exa Z hh x "java/lang/String") (V : Fld Z hh x "java/lang/String" "value" "[B" v0) (C : Fld Z hh x "java/lang/String" "coder" "B" c0) (K : Arv Z hh b kC .char N (cs.map Value.int) d) (S0 : Sta Z hh "java/lang/String" "COMPACT_STRINGS" "Z" (.int z)) (hz : ¬ z = 0)
    (hn : cs.length = n) (hN : N = Int32.ofNat n) (l0 : 0 < n) (l2 : n ≤ 4000) (hp : ∀ c ∈ cs, ¬ c < 0 ∧ ¬ (255 : Int32) < c) (hb : bs = cs.map (fun c => c.toInt8.toInt32)) (hfr : 4 ≤ R.frames) (W : Nat) (hlo : W + 65 ≤ R.locals) (eT : T.heap = hh) (rest : List Value) (hsz : L.size = c.maxLocals) (hst : S = .ref b :: .ref x :: rest) (hW : (rest.map fun v => v.category).sum ≤ W) (hc0 : cells + 1 ≤ R.cells) (hs0 : slots + n ≤ R.slots) (pc' : Nat) (hd : decode c.code pc = .ok (.invokespecial index, 3)) (hpp : pc + 3 = pc') (C' N' : Nat) (hC : cells + 1 = C') (hN' : slots + n = N')
    (h : ∀ v T' L', Stand p l e R s m args below meth c T' (locs ++ L') C' N' → StrChars.Road.QV Z x N bs hh n0 v T'.heap L' → own_Rn p e below P (T'.setTop (mkF m pc' L (v.toList ++ rest)))) : own_Rn p e below P (T.setTop (mkF m pc L S)) := by
  subst hpp hst hC hN'
  obtain ⟨v, _, ⟨T1, L1, k1, n1⟩, -, X1, ⟨Lc, hQ, q1, q2, q3⟩, st⟩ := X.specialBack hx (y := (⟨"java/lang/String", "<init>", "([C)V"⟩ : MethodName)) rfl hown (mvT hZ w1) (mvT hZ w2) (mvT hZ w4) (by decide) (StrChars.Road.backV (W := W) hZ hws wi hx0 hh0 E V C K S0 hz hn hN l0 l2 hp hb hfr hlo) (g := mkF m pc L (.ref b :: .ref x :: rest)) rfl hsz (Steps.refl _) (a := x) (argsL := [.ref b]) (rest := rest) hlen rfl (by show 2 * 0 + _ ≤ W; rw [Nat.mul_zero, Nat.zero_add]; exact hW) hd (fun _ _ => ⟨rfl, eT, hc0, hs0⟩)
  dsimp only [Pt.U, Pt.locs, Pt.cells, Pt.slots] at X1 q1 q2 q3 st hQ
  subst q1 q2 q3
  exact own_go (fun t k => st.trans k) (h v T1 Lc X1 hQ)
theorem own_pd_285bC29V : parseMethodDescriptor "([C)V" = some ⟨[(.array .char)], none⟩ := by decide +kernel
theorem own_pd_28Ljava2flang2fString3bLjava2flang2fString3bLjava2flang2fString3b29Lcom2fexample2felodea2felodea2fcli2fParameter3b : parseMethodDescriptor "(Ljava/lang/String;Ljava/lang/String;Ljava/lang/String;)Lcom/example/elodea/elodea/cli/Parameter;" = some ⟨[(.object "java/lang/String"), (.object "java/lang/String"), (.object "java/lang/String")], some (.object "com/example/elodea/elodea/cli/Parameter")⟩ := by decide +kernel
theorem own_pd_2829Lcom2fexample2felodea2felodea2fcli2fParameter24Kind3b : parseMethodDescriptor "()Lcom/example/elodea/elodea/cli/Parameter$Kind;" = some ⟨[], some (.object "com/example/elodea/elodea/cli/Parameter$Kind")⟩ := by decide +kernel
theorem own_pEq {p : Program} {l : Launch} {e : Env} {R : Room} {s : State} {m : MethodId} {args : Array Value} {below : List Frame} {meth : Method} {c : Code} {T : State} {locs : List Loc} {cells slots : Nat} {P : Outcome → State → Prop} {pc : Nat} {L : Array Slot} {S : List Value} {Z : State} {a0 : Array Value} {hh : Heap} {own : String} {index : Nat} (X : Stand p l e R s m args below meth c T locs cells slots) (hx : p.tables.exec = Jvm.exec) (hZ : Z.Warmed39 s.vm)
    (hown : s.vm.findClass own = some m.cls) (w1 : (Cond.methodLink own index (⟨"java/lang/String", "equals", "(Ljava/lang/Object;)Z"⟩ : MethodName)).before a0 Z = true) (w2 : (Cond.declares (⟨"java/lang/String", "equals", "(Ljava/lang/Object;)Z"⟩ : MethodName)).before a0 Z = true) (hnf : NotFace s (⟨"java/lang/String", "equals", "(Ljava/lang/Object;)Z"⟩ : MethodName)) (w5 : (Cond.selects "java/lang/String" (⟨"java/lang/String", "equals", "(Ljava/lang/Object;)Z"⟩ : MethodName) (⟨"java/lang/String", "equals", "(Ljava/lang/Object;)Z"⟩ : MethodName)).before a0 Z = true) (w6 : (Cond.instanceMethod (⟨"java/lang/String", "equals", "(Ljava/lang/Object;)Z"⟩ : MethodName)).before a0 Z = true)
    (hlen : ∀ sig, parseMethodDescriptor "(Ljava/lang/Object;)Z" = some sig → ([Value.null] : List Value).length = sig.parameters.length) (heq : ∀ d ∈ StrChars.Road.wordsEq, d.before a0 Z = true) {kI : Nat} (wi : (Cond.instantiable "java/lang/String" kI).before a0 Z = true)
    {x t : Addr} {kb : ClassId} {cs : List Int32} {cd N2 : Int32} {vs : List Value} (E : Exa Z hh x "java/lang/String") (V : Fld Z hh x "java/lang/String" "value" "[B" (.ref t)) (C : Fld Z hh x "java/lang/String" "coder" "B" (.int cd)) (K : Arv Z hh t kb .byte N2 vs (.int 0)) (hc : StrChars.Road.CodA cs cd N2 vs) (hb : ∀ c ∈ cs, ¬ c < 0 ∧ ¬ (65535 : Int32) < c) (l2 : cs.length ≤ 4000)
    {y t' : Addr} {kb' : ClassId} {ds : List Int32} {cd' N2' : Int32} {vs' : List Value} (E' : Exa Z hh y "java/lang/String") (V' : Fld Z hh y "java/lang/String" "value" "[B" (.ref t')) (C' : Fld Z hh y "java/lang/String" "coder" "B" (.int cd')) (K' : Arv Z hh t' kb' .byte N2' vs' (.int 0)) (hc' : StrChars.Road.CodA ds cd' N2' vs') (hb' : ∀ c ∈ ds, ¬ c < 0 ∧ ¬ (65535 : Int32) < c) (l2' : ds.length ≤ 4000)
    {z : Int32} (S0 : Sta Z hh "java/lang/String" "COMPACT_STRINGS" "Z" (.int z)) (hz : ¬ z = 0) (hfr : 2 ≤ R.frames) (W : Nat) (hlo : W + 28 ≤ R.locals) (eT : T.heap = hh) (rest : List Value) (hsz : L.size = c.maxLocals) (hst : S = .ref y :: .ref x :: rest) (hW : (rest.map fun v => v.category).sum ≤ W) (hc0 : cells + 0 ≤ R.cells) (hs0 : slots + 0 ≤ R.slots) (pc' : Nat) (hd : decode c.code pc = .ok (.invokevirtual index, 3)) (hp : pc + 3 = pc')
    (h : ∀ v T', Stand p l e R s m args below meth c T' locs cells slots → T'.heap = hh → ((v = some (.int 1) ∧ cs = ds) ∨ (v = some (.int 0) ∧ ¬ cs = ds)) → own_Rn p e below P (T'.setTop (mkF m pc' L (v.toList ++ rest)))) : own_Rn p e below P (T.setTop (mkF m pc L S)) := by
  subst hp hst
  obtain ⟨cB, kB, a1, a2, a3⟩ := isOf hZ eT E
  obtain ⟨v, _, ⟨T1, L1, k1, n1⟩, -, X1, ⟨Lc, ⟨hv, hL0, eh⟩, q1, q2, q3⟩, st⟩ := X.virtualBack hx (y := (⟨"java/lang/String", "equals", "(Ljava/lang/Object;)Z"⟩ : MethodName)) (z := (⟨"java/lang/String", "equals", "(Ljava/lang/Object;)Z"⟩ : MethodName)) hown (mvT hZ w1) (mvT hZ w2) hnf (mvT hZ w5) (mvT hZ w6) (by decide) (StrChars.Road.eqW (W := W) hZ heq wi E V C K hc hb l2 E' V' C' K' hc' hb' l2' S0 hz hfr hlo) a1 a3 (g := mkF m pc L (.ref y :: .ref x :: rest)) rfl hsz (Steps.refl _) (argsL := [.ref y]) (rest := rest) hlen rfl (by show 2 * 0 + _ ≤ W; rw [Nat.mul_zero, Nat.zero_add]; exact hW) hd (fun _ _ => ⟨rfl, eT, hc0, hs0⟩)
  dsimp only [Pt.U, Pt.locs, Pt.cells, Pt.slots] at X1 q1 q2 q3 st eh
  subst hL0
  simp only [List.append_nil, Nat.add_zero] at q1 q2 q3
  subst q1 q2 q3
  exact own_go (fun t k => st.trans k) (h v T1 X1 eh hv)
theorem own_pd_28Ljava2flang2fObject3b29Z : parseMethodDescriptor "(Ljava/lang/Object;)Z" = some ⟨[(.object "java/lang/Object")], some .boolean⟩ := by decide +kernel
theorem own_pd_28I29Ljava2flang2fString3b : parseMethodDescriptor "(I)Ljava/lang/String;" = some ⟨[.int], some (.object "java/lang/String")⟩ := by decide +kernel
def Q_rm0 (Z : State) (i0 : Int32) (i1 : Int32) (i2 : Int32) (i3 : Int32) (G1 : Int32) (ko : Addr) (h0 : Heap) (n0 : Nat) (vq : Option Value) (hhq : Heap) (Lq : List Loc) : Prop := vq = some (.int (1 : Int32)) ∧ Fr n0 Lq
set_option maxRecDepth 65536 in
set_option maxHeartbeats 40000000 in
theorem rm0 (l : Launch) (Z : State) (a0 : Array Value) (hw : ∀ d ∈ tables_1, d.before a0 Z = true) (ws : List Jvm.Cond) (i0 : Int32) (i1 : Int32) (i2 : Int32) (i3 : Int32) (G1 : Int32) (ko : Addr) (h0 : Heap) (n0 : Nat) (Z0 : n0 ≤ h0.size) (hEL : EW Z a0 consts_1) (O2 : Sta Z Z.heap "java/lang/String" "COMPACT_STRINGS" "Z" (.int G1)) (P5 : (¬ (G1 = (0 : Int32)))) (X00 : Old Z n0 h0) (OO : Sta Z Z.heap "com/example/elodea/elodea/cli/Parameter$Kind" "OPTION" "Lcom/example/elodea/elodea/cli/Parameter$Kind;" (.ref ko)) :
    MetFree l x (head1 (Jvm.Cond.code x code maxLocals ret :: ws) room_1) (fun aq U => aq = #[(.int i0), (.int i1), (.int i2), (.int i3)] ∧ Z.Warmed39 U.vm ∧ U.heap = h0 ∧ CHv Z consts_1 U.vm h0 ∧ ∀ ax ∈ ([] : List Addr), Safe Z consts_1 U.vm h0 ax) (fun _ _ _ _ _ => True) (fun _ U oq U' => ∃ vq Lq, oq = .returned vq ∧ Q_rm0 Z i0 i1 i2 i3 G1 ko h0 n0 vq U'.heap Lq ∧ CHr Z consts_1 U.vm U.heap U'.vm U'.heap ∧ ReturnedEndW U oq U' Lq 48 2304) := by
  refine MetFree.of_bodySF (plainFor_of_name own_pn_com_example_elodea_elodea_cli_ParameterOptionPinLaw) hisR ?_
  intro p e s m args below meth c s₁ Bd hml0 hP hK
  obtain ⟨rfl, hZ, hh, hH, hSf⟩ := hP
  have hx := Bd.exec
  have hby := Bd.bytes
  have hml : c.maxLocals = 15 := hml0
  have hown : s.vm.findClass "com/example/elodea/elodea/cli/ParameterOptionPinLaw" = some m.cls := findClass_of_methodNamed Bd.named
  have hnm := (name_of_methodNamed Bd.named Bd.method).1
  have X0 : Stand p l e room_1 (s.setVm s.vm) m #[(.int i0), (.int i1), (.int i2), (.int i3)] below meth c s₁ [] 0 0 := Stand.of_body Bd
  have e0 : s₁.heap = h0 := by rw [← hh, Bd.state]; rfl
  have N0 := Fr.nil n0
  have K0 : Keep h0 h0 [] := Keep.refl _ _
  refine own_go (S' := s₁.setTop (mkF m 0 #[.val (.int i0), .val (.int i1), .val (.int i2), .val (.int i3), .unset, .unset, .unset, .unset, .unset, .unset, .unset, .unset, .unset, .unset, .unset] [])) (fun tq kq => castTop (own_ef_rm0 m i0 i1 i2 i3 G1 ko) kq) ?_
  have hS0 : s.Since s.vm h0.size := (State.WarmedH.refl s).since _
  have CR0 : CHr Z consts_1 s.vm h0 s.vm h0 := CHr.refl hH
  have hwS : ∀ d ∈ Bundle.stringAtoms, d.before a0 Z = true := fun d hd => hw d ((by decide +kernel : ∀ d ∈ Bundle.stringAtoms, d ∈ tables_1) d hd)
  have hws : ∀ d ∈ StrChars.Road.words, d.before a0 Z = true := fun d hd => hw d ((by decide +kernel : ∀ d ∈ StrChars.Road.words, d ∈ tables_1) d hd)
  have heq : ∀ d ∈ StrChars.Road.wordsEq, d.before a0 Z = true := fun d hd => hw d ((by decide +kernel : ∀ d ∈ StrChars.Road.wordsEq, d ∈ tables_1) d hd)
  refine own_iln X0 hx 1 (hb hby at_0) rfl rfl ?_
  refine own_sp X0 hx (255 : Int32) 4 (hb hby at_1) rfl rfl ?_
  refine own_iand X0 hx 5 (hb hby at_4) rfl ?_
  refine own_i2c X0 hx 6 (hb hby at_5) rfl ?_
  obtain ⟨c0, hc0⟩ : ∃ z : Int32, z = ((i0 &&& (255 : Int32)).toUInt32.toUInt16.toUInt32.toInt32) := ⟨_, rfl⟩
  rw [← hc0]
  show own_Rn p e below _ (s₁.setTop (mkF m 6 #[.val (.int i0), .val (.int i1), .val (.int i2), .val (.int i3), .unset, .unset, .unset, .unset, .unset, .unset, .unset, .unset, .unset, .unset, .unset] [(.int c0)]))
  have rc0 : ¬ c0 < 0 ∧ ¬ (255 : Int32) < c0 := by rw [hc0]; exact own_chr_rng _
  have nc0 := own_narC c0 rc0
  refine own_is X0 hx #[.val (.int i0), .val (.int i1), .val (.int i2), .val (.int i3), .val (.int c0), .unset, .unset, .unset, .unset, .unset, .unset, .unset, .unset, .unset, .unset] 8 (hb hby at_6) rfl rfl ?_
  refine own_iln X0 hx 9 (hb hby at_8) rfl rfl ?_
  refine own_bp X0 hx (8 : Int32) 11 (hb hby at_9) rfl rfl ?_
  refine own_iushr X0 hx 12 (hb hby at_11) rfl ?_
  refine own_sp X0 hx (255 : Int32) 15 (hb hby at_12) rfl rfl ?_
  refine own_iand X0 hx 16 (hb hby at_15) rfl ?_
  refine own_i2c X0 hx 17 (hb hby at_16) rfl ?_
  obtain ⟨c1, hc1⟩ : ∃ z : Int32, z = ((((i0.toUInt32 >>> ((8 : Int32) &&& 31).toUInt32).toInt32) &&& (255 : Int32)).toUInt32.toUInt16.toUInt32.toInt32) := ⟨_, rfl⟩
  rw [← hc1]
  show own_Rn p e below _ (s₁.setTop (mkF m 17 #[.val (.int i0), .val (.int i1), .val (.int i2), .val (.int i3), .val (.int c0), .unset, .unset, .unset, .unset, .unset, .unset, .unset, .unset, .unset, .unset] [(.int c1)]))
  have rc1 : ¬ c1 < 0 ∧ ¬ (255 : Int32) < c1 := by rw [hc1]; exact own_chr_rng _
  have nc1 := own_narC c1 rc1
  refine own_is X0 hx #[.val (.int i0), .val (.int i1), .val (.int i2), .val (.int i3), .val (.int c0), .val (.int c1), .unset, .unset, .unset, .unset, .unset, .unset, .unset, .unset, .unset] 19 (hb hby at_17) rfl rfl ?_
  refine own_iln X0 hx 20 (hb hby at_19) rfl rfl ?_
  refine own_sp X0 hx (255 : Int32) 23 (hb hby at_20) rfl rfl ?_
  refine own_iand X0 hx 24 (hb hby at_23) rfl ?_
  refine own_i2c X0 hx 25 (hb hby at_24) rfl ?_
  obtain ⟨v0, hv0⟩ : ∃ z : Int32, z = ((i1 &&& (255 : Int32)).toUInt32.toUInt16.toUInt32.toInt32) := ⟨_, rfl⟩
  rw [← hv0]
  show own_Rn p e below _ (s₁.setTop (mkF m 25 #[.val (.int i0), .val (.int i1), .val (.int i2), .val (.int i3), .val (.int c0), .val (.int c1), .unset, .unset, .unset, .unset, .unset, .unset, .unset, .unset, .unset] [(.int v0)]))
  have rv0 : ¬ v0 < 0 ∧ ¬ (255 : Int32) < v0 := by rw [hv0]; exact own_chr_rng _
  have nv0 := own_narC v0 rv0
  refine own_is X0 hx #[.val (.int i0), .val (.int i1), .val (.int i2), .val (.int i3), .val (.int c0), .val (.int c1), .val (.int v0), .unset, .unset, .unset, .unset, .unset, .unset, .unset, .unset] 27 (hb hby at_25) rfl rfl ?_
  refine own_iln X0 hx 28 (hb hby at_27) rfl rfl ?_
  refine own_bp X0 hx (8 : Int32) 30 (hb hby at_28) rfl rfl ?_
  refine own_iushr X0 hx 31 (hb hby at_30) rfl ?_
  refine own_sp X0 hx (255 : Int32) 34 (hb hby at_31) rfl rfl ?_
  refine own_iand X0 hx 35 (hb hby at_34) rfl ?_
  refine own_i2c X0 hx 36 (hb hby at_35) rfl ?_
  obtain ⟨v1, hv1⟩ : ∃ z : Int32, z = ((((i1.toUInt32 >>> ((8 : Int32) &&& 31).toUInt32).toInt32) &&& (255 : Int32)).toUInt32.toUInt16.toUInt32.toInt32) := ⟨_, rfl⟩
  rw [← hv1]
  show own_Rn p e below _ (s₁.setTop (mkF m 36 #[.val (.int i0), .val (.int i1), .val (.int i2), .val (.int i3), .val (.int c0), .val (.int c1), .val (.int v0), .unset, .unset, .unset, .unset, .unset, .unset, .unset, .unset] [(.int v1)]))
  have rv1 : ¬ v1 < 0 ∧ ¬ (255 : Int32) < v1 := by rw [hv1]; exact own_chr_rng _
  have nv1 := own_narC v1 rv1
  refine own_is X0 hx #[.val (.int i0), .val (.int i1), .val (.int i2), .val (.int i3), .val (.int c0), .val (.int c1), .val (.int v0), .val (.int v1), .unset, .unset, .unset, .unset, .unset, .unset, .unset] 38 (hb hby at_36) rfl rfl ?_
  refine own_iln X0 hx 39 (hb hby at_38) rfl rfl ?_
  refine own_sp X0 hx (255 : Int32) 42 (hb hby at_39) rfl rfl ?_
  refine own_iand X0 hx 43 (hb hby at_42) rfl ?_
  refine own_i2c X0 hx 44 (hb hby at_43) rfl ?_
  obtain ⟨f0, hf0⟩ : ∃ z : Int32, z = ((i2 &&& (255 : Int32)).toUInt32.toUInt16.toUInt32.toInt32) := ⟨_, rfl⟩
  rw [← hf0]
  show own_Rn p e below _ (s₁.setTop (mkF m 44 #[.val (.int i0), .val (.int i1), .val (.int i2), .val (.int i3), .val (.int c0), .val (.int c1), .val (.int v0), .val (.int v1), .unset, .unset, .unset, .unset, .unset, .unset, .unset] [(.int f0)]))
  have rf0 : ¬ f0 < 0 ∧ ¬ (255 : Int32) < f0 := by rw [hf0]; exact own_chr_rng _
  have nf0 := own_narC f0 rf0
  refine own_is X0 hx #[.val (.int i0), .val (.int i1), .val (.int i2), .val (.int i3), .val (.int c0), .val (.int c1), .val (.int v0), .val (.int v1), .val (.int f0), .unset, .unset, .unset, .unset, .unset, .unset] 46 (hb hby at_44) rfl rfl ?_
  refine own_iln X0 hx 47 (hb hby at_46) rfl rfl ?_
  refine own_bp X0 hx (8 : Int32) 49 (hb hby at_47) rfl rfl ?_
  refine own_iushr X0 hx 50 (hb hby at_49) rfl ?_
  refine own_sp X0 hx (255 : Int32) 53 (hb hby at_50) rfl rfl ?_
  refine own_iand X0 hx 54 (hb hby at_53) rfl ?_
  refine own_i2c X0 hx 55 (hb hby at_54) rfl ?_
  obtain ⟨f1, hf1⟩ : ∃ z : Int32, z = ((((i2.toUInt32 >>> ((8 : Int32) &&& 31).toUInt32).toInt32) &&& (255 : Int32)).toUInt32.toUInt16.toUInt32.toInt32) := ⟨_, rfl⟩
  rw [← hf1]
  show own_Rn p e below _ (s₁.setTop (mkF m 55 #[.val (.int i0), .val (.int i1), .val (.int i2), .val (.int i3), .val (.int c0), .val (.int c1), .val (.int v0), .val (.int v1), .val (.int f0), .unset, .unset, .unset, .unset, .unset, .unset] [(.int f1)]))
  have rf1 : ¬ f1 < 0 ∧ ¬ (255 : Int32) < f1 := by rw [hf1]; exact own_chr_rng _
  have nf1 := own_narC f1 rf1
  refine own_is X0 hx #[.val (.int i0), .val (.int i1), .val (.int i2), .val (.int i3), .val (.int c0), .val (.int c1), .val (.int v0), .val (.int v1), .val (.int f0), .val (.int f1), .unset, .unset, .unset, .unset, .unset] 57 (hb hby at_55) rfl rfl ?_
  obtain ⟨T1, h1, X1, e1, E1, A1, D1, -, st1⟩ := newO X0 hx hZ hown (hw _ (own_mi 0 rfl)) (hw _ (own_mi 1 rfl)) (hw _ (own_mi 2 rfl)) e0 (g := (mkF m 57 #[.val (.int i0), .val (.int i1), .val (.int i2), .val (.int i3), .val (.int c0), .val (.int c1), .val (.int v0), .val (.int v1), .val (.int f0), .val (.int f1), .unset, .unset, .unset, .unset, .unset] [])) rfl (hb hby at_57) (by decide) (by decide)
  obtain ⟨b1, g1⟩ : ∃ z, z = h0.size := ⟨_, rfl⟩
  rw [← g1] at A1 D1 st1
  refine own_go st1 ?_
  have sz2 : h0.size ≤ h1.size := E1.1
  have cr2 : CHr Z consts_1 s.vm h0 s.vm h1 := CHr.ext E1 CR0.1
  have CR2 := CR0.trans cr2
  have sf3 : Safe Z consts_1 s.vm h1 b1 := Safe.ext E1 CR0.1 (Safe.new (Nat.le_of_eq g1.symm))
  have lt4 : @LT.lt Nat _ b1 h1.size := A1.lt
  have gn1 : n0 ≤ b1 := (Nat.le_trans (Nat.le_trans Z0 (Nat.le_refl _)) (Nat.le_of_eq g1.symm))
  have D1_coder : Fld Z h1 b1 "java/lang/String" "coder" "B" (.int (0 : Int32)) := D1 (Or.inr (hw _ (own_mi 27 rfl))) (ty := .byte) own_fd_B
  have D1_value : Fld Z h1 b1 "java/lang/String" "value" "[B" .null := D1 (Or.inr (hw _ (own_mi 29 rfl))) (ty := (.array .byte)) own_fd_5bB
  show own_Rn p e below _ (T1.setTop (mkF m 60 #[.val (.int i0), .val (.int i1), .val (.int i2), .val (.int i3), .val (.int c0), .val (.int c1), .val (.int v0), .val (.int v1), .val (.int f0), .val (.int f1), .unset, .unset, .unset, .unset, .unset] [(.ref b1)]))
  refine own_dp X1 hx 61 (hb hby at_60) rfl rfl ?_
  refine own_ic X1 hx (2 : Int32) 62 (hb hby at_61) rfl rfl ?_
  obtain ⟨T6, h6, k6, X6, e6, E6, A6, st6⟩ := newP X1 hx hZ (hw _ (own_mi 3 rfl)) e1 (g := (mkF m 62 #[.val (.int i0), .val (.int i1), .val (.int i2), .val (.int i3), .val (.int c0), .val (.int c1), .val (.int v0), .val (.int v1), .val (.int f0), .val (.int f1), .unset, .unset, .unset, .unset, .unset] [(.int (2 : Int32)), (.ref b1), (.ref b1)])) rfl (hb hby at_62) rfl (by decide) (cap := 2) (by decide) (by decide) (by decide) (by decide)
  obtain ⟨b6, g6⟩ : ∃ z, z = h1.size := ⟨_, rfl⟩
  rw [← g6] at A6 st6
  refine own_go st6 ?_
  have sz7 : h1.size ≤ h6.size := E6.1
  have cr7 : CHr Z consts_1 s.vm h1 s.vm h6 := CHr.ext E6 CR2.1
  have CR7 := CR2.trans cr7
  have gn6 : n0 ≤ b6 := (Nat.le_trans (Nat.le_trans Z0 sz2) (Nat.le_of_eq g6.symm))
  have V6 : Arv Z h6 b6 k6 .char (2 : Int32) [(.int (0 : Int32)), (.int (0 : Int32))] (.int (0 : Int32)) := (Arv.new A6 (by decide)).pad (pad_rep [] _ 2)
  have lt8 : @LT.lt Nat _ b6 h6.size := V6.lt
  show own_Rn p e below _ (T6.setTop (mkF m 64 #[.val (.int i0), .val (.int i1), .val (.int i2), .val (.int i3), .val (.int c0), .val (.int c1), .val (.int v0), .val (.int v1), .val (.int f0), .val (.int f1), .unset, .unset, .unset, .unset, .unset] [(.ref b6), (.ref b1), (.ref b1)]))
  refine own_dp X6 hx 65 (hb hby at_64) rfl rfl ?_
  refine own_ic X6 hx (0 : Int32) 66 (hb hby at_65) rfl rfl ?_
  refine own_il X6 hx 68 (hb hby at_66) rfl rfl ?_
  obtain ⟨cl9, Ar9, q9, Sz9, Nn9, Hs9, G9⟩ := id V6
  obtain ⟨T9, h9, X9, e9, W9, st9⟩ := stC X6 hx hZ e6 Ar9 (j := (0 : Int32)) (inb_of Sz9 ⟨by decide, by decide⟩) (g := (mkF m 68 #[.val (.int i0), .val (.int i1), .val (.int i2), .val (.int i3), .val (.int c0), .val (.int c1), .val (.int v0), .val (.int v1), .val (.int f0), .val (.int f1), .unset, .unset, .unset, .unset, .unset] [(.int c0), (.int (0 : Int32)), (.ref b6), (.ref b6), (.ref b1), (.ref b1)])) rfl rfl (hb hby at_68)
  rw [nc0] at W9
  refine own_go st9 ?_
  have V9 : Arv Z h9 b6 k6 .char (2 : Int32) [(.int c0), (.int (0 : Int32))] (.int (0 : Int32)) := Arv.set Ar9 q9 Sz9 Nn9 Hs9 G9 (by rw [← nc0]; exact fits_nar_char _) W9 0 rfl (Nat.le_of_ble_eq_true rfl)
  have N9 := Fr.snoc X9 N0 gn6
  have sf10 : Safe Z consts_1 s.vm h6 b6 := Safe.arv hZ.alike V6 (by decide)
  have sz11 : h6.size ≤ h9.size := Nat.le_of_eq (Wr.size W9).symm
  have cr11 : CHr Z consts_1 s.vm h6 s.vm h9 := CHr.wr W9 sf10 CR7.1
  have CR11 := CR7.trans cr11
  show own_Rn p e below _ (T9.setTop (mkF m 69 #[.val (.int i0), .val (.int i1), .val (.int i2), .val (.int i3), .val (.int c0), .val (.int c1), .val (.int v0), .val (.int v1), .val (.int f0), .val (.int f1), .unset, .unset, .unset, .unset, .unset] [(.ref b6), (.ref b1), (.ref b1)]))
  refine own_dp X9 hx 70 (hb hby at_69) rfl rfl ?_
  refine own_ic X9 hx (1 : Int32) 71 (hb hby at_70) rfl rfl ?_
  refine own_il X9 hx 73 (hb hby at_71) rfl rfl ?_
  obtain ⟨cl12, Ar12, q12, Sz12, Nn12, Hs12, G12⟩ := id V9
  obtain ⟨T12, h12, X12, e12, W12, st12⟩ := stC X9 hx hZ e9 Ar12 (j := (1 : Int32)) (inb_of Sz12 ⟨by decide, by decide⟩) (g := (mkF m 73 #[.val (.int i0), .val (.int i1), .val (.int i2), .val (.int i3), .val (.int c0), .val (.int c1), .val (.int v0), .val (.int v1), .val (.int f0), .val (.int f1), .unset, .unset, .unset, .unset, .unset] [(.int c1), (.int (1 : Int32)), (.ref b6), (.ref b6), (.ref b1), (.ref b1)])) rfl rfl (hb hby at_73)
  rw [nc1] at W12
  refine own_go st12 ?_
  have V12 : Arv Z h12 b6 k6 .char (2 : Int32) [(.int c0), (.int c1)] (.int (0 : Int32)) := Arv.set Ar12 q12 Sz12 Nn12 Hs12 G12 (by rw [← nc1]; exact fits_nar_char _) W12 1 rfl (Nat.le_of_ble_eq_true rfl)
  have N12 := Fr.snoc X12 N9 gn6
  have sf13 : Safe Z consts_1 s.vm h9 b6 := Safe.arv hZ.alike V9 (by decide)
  have sz14 : h9.size ≤ h12.size := Nat.le_of_eq (Wr.size W12).symm
  have cr14 : CHr Z consts_1 s.vm h9 s.vm h12 := CHr.wr W12 sf13 CR11.1
  have CR14 := CR11.trans cr14
  show own_Rn p e below _ (T12.setTop (mkF m 74 #[.val (.int i0), .val (.int i1), .val (.int i2), .val (.int i3), .val (.int c0), .val (.int c1), .val (.int v0), .val (.int v1), .val (.int f0), .val (.int f1), .unset, .unset, .unset, .unset, .unset] [(.ref b6), (.ref b1), (.ref b1)]))
  have hp15 : ∀ c ∈ ([c0, c1] : List Int32), ¬ c < 0 ∧ ¬ (255 : Int32) < c := by
    intro c hc
    simp only [List.mem_cons, List.not_mem_nil, or_false] at hc
    rcases hc with rfl | rfl
    · exact rc0
    · exact rc1
  have F16 : Exa Z h12 b1 "java/lang/String" := (((A1.ext E6).wr W9).wr W12)
  have ne17 : b1 ≠ b6 := own_nea (Or.inl (Nat.lt_of_lt_of_le lt4 (Nat.le_trans (Nat.le_refl _) (Nat.le_of_eq g6.symm))))
  have F18 : Fld Z h12 b1 "java/lang/String" "value" "[B" .null := (((D1_value.ext E6).other W9 (Or.inl ne17)).other W12 (Or.inl ne17))
  have F19 : Fld Z h12 b1 "java/lang/String" "coder" "B" (.int (0 : Int32)) := (((D1_coder.ext E6).other W9 (Or.inl ne17)).other W12 (Or.inl ne17))
  have F20 : Old Z n0 h12 := ((((X00.ext E1).ext E6).wr W9 gn6).wr W12 gn6)
  have le21 : h0.size ≤ h6.size := Nat.le_trans sz2 sz7
  have le22 : h0.size ≤ h9.size := Nat.le_trans le21 sz11
  have le23 : h0.size ≤ h12.size := Nat.le_trans le22 sz14
  have Zs15 : n0 ≤ h12.size := (Nat.le_trans Z0 le23)
  refine own_pN X12 hx hZ hown (hw _ (own_mi 4 rfl)) (hw _ (own_mi 5 rfl)) (hw _ (own_mi 6 rfl)) (lenOf own_pd_285bC29V rfl) hws (kI := 4) (hw _ (own_mi 1 rfl)) (cs := [c0, c1]) (bs := ([c0, c1] : List Int32).map (fun c => c.toInt8.toInt32)) (n := 2) gn1 Zs15 F16 F18 F19 V12 (O2.ext F20.2) P5 rfl rfl (by decide) (by decide) hp15 rfl (by decide) 1 (by decide) e12 [(.ref b1)] (by rw [hml]; rfl) rfl (Nat.le_of_eq rfl) (by decide : 2 + 1 ≤ _) (by decide : 6 + 2 ≤ _) 77 (hb hby at_74) rfl 3 8 rfl rfl ?_
  intro rv24 T24 Lc24 X24 hQ24
  obtain ⟨rfl, Nq24, Kq24, Ex24, Co24, t15, kb15, gt24, hs24, nt24, Va24, Ab24⟩ := hQ24
  have N24 := Fr.app N12 Nq24
  have le26 : h1.size ≤ h9.size := Nat.le_trans sz7 sz11
  have sf27 : Safe Z consts_1 s.vm h12 b1 := (CHr.safe cr14 (Nat.lt_of_lt_of_le lt4 le26) (CHr.safe cr11 (Nat.lt_of_lt_of_le lt4 sz7) (CHr.safe cr7 (Nat.lt_of_lt_of_le lt4 (Nat.le_refl _)) sf3)))
  have sz28 : h12.size ≤ T24.heap.size := Kq24.1
  have cr28 : CHr Z consts_1 s.vm h12 s.vm T24.heap := CHr.keep Kq24 (sfS sf27 sf0) CR14.1
  have CR28 := CR14.trans cr28
  have sf29 : Safe Z consts_1 s.vm T24.heap t15 := Safe.keep Kq24 (sfS sf27 sf0) CR14.1 (Safe.new hs24)
  have lt30 : @LT.lt Nat _ t15 T24.heap.size := Ab24.lt
  show own_Rn p e below _ (T24.setTop (mkF m 77 #[.val (.int i0), .val (.int i1), .val (.int i2), .val (.int i3), .val (.int c0), .val (.int c1), .val (.int v0), .val (.int v1), .val (.int f0), .val (.int f1), .unset, .unset, .unset, .unset, .unset] [(.ref b1)]))
  have hpL15 := hp15
  refine own_as X24 hx #[.val (.int i0), .val (.int i1), .val (.int i2), .val (.int i3), .val (.int c0), .val (.int c1), .val (.int v0), .val (.int v1), .val (.int f0), .val (.int f1), .val (.ref b1), .unset, .unset, .unset, .unset] 79 (hb hby at_77) rfl rfl rfl ?_
  obtain ⟨T31, h31, X31, e31, E31, A31, D31, -, st31⟩ := newO X24 hx hZ hown (hw _ (own_mi 0 rfl)) (hw _ (own_mi 1 rfl)) (hw _ (own_mi 2 rfl)) rfl (g := (mkF m 79 #[.val (.int i0), .val (.int i1), .val (.int i2), .val (.int i3), .val (.int c0), .val (.int c1), .val (.int v0), .val (.int v1), .val (.int f0), .val (.int f1), .val (.ref b1), .unset, .unset, .unset, .unset] [])) rfl (hb hby at_79) (by decide) (by decide)
  obtain ⟨b31, g31⟩ : ∃ z, z = T24.heap.size := ⟨_, rfl⟩
  rw [← g31] at A31 D31 st31
  refine own_go st31 ?_
  have sz32 : T24.heap.size ≤ h31.size := E31.1
  have cr32 : CHr Z consts_1 s.vm T24.heap s.vm h31 := CHr.ext E31 CR28.1
  have CR32 := CR28.trans cr32
  have sf33 : Safe Z consts_1 s.vm h31 b31 := Safe.ext E31 CR28.1 (Safe.new (Nat.le_of_eq g31.symm))
  have lt34 : @LT.lt Nat _ b31 h31.size := A31.lt
  have le35 : h0.size ≤ T24.heap.size := Nat.le_trans le23 sz28
  have gn31 : n0 ≤ b31 := (Nat.le_trans (Nat.le_trans Z0 le35) (Nat.le_of_eq g31.symm))
  have D31_coder : Fld Z h31 b31 "java/lang/String" "coder" "B" (.int (0 : Int32)) := D31 (Or.inr (hw _ (own_mi 27 rfl))) (ty := .byte) own_fd_B
  have D31_value : Fld Z h31 b31 "java/lang/String" "value" "[B" .null := D31 (Or.inr (hw _ (own_mi 29 rfl))) (ty := (.array .byte)) own_fd_5bB
  show own_Rn p e below _ (T31.setTop (mkF m 82 #[.val (.int i0), .val (.int i1), .val (.int i2), .val (.int i3), .val (.int c0), .val (.int c1), .val (.int v0), .val (.int v1), .val (.int f0), .val (.int f1), .val (.ref b1), .unset, .unset, .unset, .unset] [(.ref b31)]))
  refine own_dp X31 hx 83 (hb hby at_82) rfl rfl ?_
  refine own_ic X31 hx (2 : Int32) 84 (hb hby at_83) rfl rfl ?_
  obtain ⟨T37, h37, k37, X37, e37, E37, A37, st37⟩ := newP X31 hx hZ (hw _ (own_mi 3 rfl)) e31 (g := (mkF m 84 #[.val (.int i0), .val (.int i1), .val (.int i2), .val (.int i3), .val (.int c0), .val (.int c1), .val (.int v0), .val (.int v1), .val (.int f0), .val (.int f1), .val (.ref b1), .unset, .unset, .unset, .unset] [(.int (2 : Int32)), (.ref b31), (.ref b31)])) rfl (hb hby at_84) rfl (by decide) (cap := 2) (by decide) (by decide) (by decide) (by decide)
  obtain ⟨b37, g37⟩ : ∃ z, z = h31.size := ⟨_, rfl⟩
  rw [← g37] at A37 st37
  refine own_go st37 ?_
  have sz38 : h31.size ≤ h37.size := E37.1
  have cr38 : CHr Z consts_1 s.vm h31 s.vm h37 := CHr.ext E37 CR32.1
  have CR38 := CR32.trans cr38
  have le39 : h0.size ≤ h31.size := Nat.le_trans le35 sz32
  have gn37 : n0 ≤ b37 := (Nat.le_trans (Nat.le_trans Z0 le39) (Nat.le_of_eq g37.symm))
  have V37 : Arv Z h37 b37 k37 .char (2 : Int32) [(.int (0 : Int32)), (.int (0 : Int32))] (.int (0 : Int32)) := (Arv.new A37 (by decide)).pad (pad_rep [] _ 2)
  have lt40 : @LT.lt Nat _ b37 h37.size := V37.lt
  show own_Rn p e below _ (T37.setTop (mkF m 86 #[.val (.int i0), .val (.int i1), .val (.int i2), .val (.int i3), .val (.int c0), .val (.int c1), .val (.int v0), .val (.int v1), .val (.int f0), .val (.int f1), .val (.ref b1), .unset, .unset, .unset, .unset] [(.ref b37), (.ref b31), (.ref b31)]))
  refine own_dp X37 hx 87 (hb hby at_86) rfl rfl ?_
  refine own_ic X37 hx (0 : Int32) 88 (hb hby at_87) rfl rfl ?_
  refine own_il X37 hx 90 (hb hby at_88) rfl rfl ?_
  obtain ⟨cl41, Ar41, q41, Sz41, Nn41, Hs41, G41⟩ := id V37
  obtain ⟨T41, h41, X41, e41, W41, st41⟩ := stC X37 hx hZ e37 Ar41 (j := (0 : Int32)) (inb_of Sz41 ⟨by decide, by decide⟩) (g := (mkF m 90 #[.val (.int i0), .val (.int i1), .val (.int i2), .val (.int i3), .val (.int c0), .val (.int c1), .val (.int v0), .val (.int v1), .val (.int f0), .val (.int f1), .val (.ref b1), .unset, .unset, .unset, .unset] [(.int v0), (.int (0 : Int32)), (.ref b37), (.ref b37), (.ref b31), (.ref b31)])) rfl rfl (hb hby at_90)
  rw [nv0] at W41
  refine own_go st41 ?_
  have V41 : Arv Z h41 b37 k37 .char (2 : Int32) [(.int v0), (.int (0 : Int32))] (.int (0 : Int32)) := Arv.set Ar41 q41 Sz41 Nn41 Hs41 G41 (by rw [← nv0]; exact fits_nar_char _) W41 0 rfl (Nat.le_of_ble_eq_true rfl)
  have N41 := Fr.snoc X41 N24 gn37
  have sf42 : Safe Z consts_1 s.vm h37 b37 := Safe.arv hZ.alike V37 (by decide)
  have sz43 : h37.size ≤ h41.size := Nat.le_of_eq (Wr.size W41).symm
  have cr43 : CHr Z consts_1 s.vm h37 s.vm h41 := CHr.wr W41 sf42 CR38.1
  have CR43 := CR38.trans cr43
  show own_Rn p e below _ (T41.setTop (mkF m 91 #[.val (.int i0), .val (.int i1), .val (.int i2), .val (.int i3), .val (.int c0), .val (.int c1), .val (.int v0), .val (.int v1), .val (.int f0), .val (.int f1), .val (.ref b1), .unset, .unset, .unset, .unset] [(.ref b37), (.ref b31), (.ref b31)]))
  refine own_dp X41 hx 92 (hb hby at_91) rfl rfl ?_
  refine own_ic X41 hx (1 : Int32) 93 (hb hby at_92) rfl rfl ?_
  refine own_il X41 hx 95 (hb hby at_93) rfl rfl ?_
  obtain ⟨cl44, Ar44, q44, Sz44, Nn44, Hs44, G44⟩ := id V41
  obtain ⟨T44, h44, X44, e44, W44, st44⟩ := stC X41 hx hZ e41 Ar44 (j := (1 : Int32)) (inb_of Sz44 ⟨by decide, by decide⟩) (g := (mkF m 95 #[.val (.int i0), .val (.int i1), .val (.int i2), .val (.int i3), .val (.int c0), .val (.int c1), .val (.int v0), .val (.int v1), .val (.int f0), .val (.int f1), .val (.ref b1), .unset, .unset, .unset, .unset] [(.int v1), (.int (1 : Int32)), (.ref b37), (.ref b37), (.ref b31), (.ref b31)])) rfl rfl (hb hby at_95)
  rw [nv1] at W44
  refine own_go st44 ?_
  have V44 : Arv Z h44 b37 k37 .char (2 : Int32) [(.int v0), (.int v1)] (.int (0 : Int32)) := Arv.set Ar44 q44 Sz44 Nn44 Hs44 G44 (by rw [← nv1]; exact fits_nar_char _) W44 1 rfl (Nat.le_of_ble_eq_true rfl)
  have N44 := Fr.snoc X44 N41 gn37
  have sf45 : Safe Z consts_1 s.vm h41 b37 := Safe.arv hZ.alike V41 (by decide)
  have sz46 : h41.size ≤ h44.size := Nat.le_of_eq (Wr.size W44).symm
  have cr46 : CHr Z consts_1 s.vm h41 s.vm h44 := CHr.wr W44 sf45 CR43.1
  have CR46 := CR43.trans cr46
  show own_Rn p e below _ (T44.setTop (mkF m 96 #[.val (.int i0), .val (.int i1), .val (.int i2), .val (.int i3), .val (.int c0), .val (.int c1), .val (.int v0), .val (.int v1), .val (.int f0), .val (.int f1), .val (.ref b1), .unset, .unset, .unset, .unset] [(.ref b37), (.ref b31), (.ref b31)]))
  have hp47 : ∀ c ∈ ([v0, v1] : List Int32), ¬ c < 0 ∧ ¬ (255 : Int32) < c := by
    intro c hc
    simp only [List.mem_cons, List.not_mem_nil, or_false] at hc
    rcases hc with rfl | rfl
    · exact rv0
    · exact rv1
  have F48 : Exa Z h44 b31 "java/lang/String" := (((A31.ext E37).wr W41).wr W44)
  have ne49 : b31 ≠ b37 := own_nea (Or.inl (Nat.lt_of_lt_of_le lt34 (Nat.le_trans (Nat.le_refl _) (Nat.le_of_eq g37.symm))))
  have F50 : Fld Z h44 b31 "java/lang/String" "value" "[B" .null := (((D31_value.ext E37).other W41 (Or.inl ne49)).other W44 (Or.inl ne49))
  have F51 : Fld Z h44 b31 "java/lang/String" "coder" "B" (.int (0 : Int32)) := (((D31_coder.ext E37).other W41 (Or.inl ne49)).other W44 (Or.inl ne49))
  have F52 : Old Z n0 h44 := (((((F20.keep Kq24 (allS gn1 all0)).ext E31).ext E37).wr W41 gn37).wr W44 gn37)
  have le53 : h0.size ≤ h37.size := Nat.le_trans le39 sz38
  have le54 : h0.size ≤ h41.size := Nat.le_trans le53 sz43
  have le55 : h0.size ≤ h44.size := Nat.le_trans le54 sz46
  have Zs47 : n0 ≤ h44.size := (Nat.le_trans Z0 le55)
  refine own_pN X44 hx hZ hown (hw _ (own_mi 4 rfl)) (hw _ (own_mi 5 rfl)) (hw _ (own_mi 6 rfl)) (lenOf own_pd_285bC29V rfl) hws (kI := 4) (hw _ (own_mi 1 rfl)) (cs := [v0, v1]) (bs := ([v0, v1] : List Int32).map (fun c => c.toInt8.toInt32)) (n := 2) gn31 Zs47 F48 F50 F51 V44 (O2.ext F52.2) P5 rfl rfl (by decide) (by decide) hp47 rfl (by decide) 1 (by decide) e44 [(.ref b31)] (by rw [hml]; rfl) rfl (Nat.le_of_eq rfl) (by decide : 5 + 1 ≤ _) (by decide : 14 + 2 ≤ _) 99 (hb hby at_96) rfl 6 16 rfl rfl ?_
  intro rv56 T56 Lc56 X56 hQ56
  obtain ⟨rfl, Nq56, Kq56, Ex56, Co56, t47, kb47, gt56, hs56, nt56, Va56, Ab56⟩ := hQ56
  have N56 := Fr.app N44 Nq56
  have le58 : h31.size ≤ h41.size := Nat.le_trans sz38 sz43
  have sf59 : Safe Z consts_1 s.vm h44 b31 := (CHr.safe cr46 (Nat.lt_of_lt_of_le lt34 le58) (CHr.safe cr43 (Nat.lt_of_lt_of_le lt34 sz38) (CHr.safe cr38 (Nat.lt_of_lt_of_le lt34 (Nat.le_refl _)) sf33)))
  have sz60 : h44.size ≤ T56.heap.size := Kq56.1
  have cr60 : CHr Z consts_1 s.vm h44 s.vm T56.heap := CHr.keep Kq56 (sfS sf59 sf0) CR46.1
  have CR60 := CR46.trans cr60
  have sf61 : Safe Z consts_1 s.vm T56.heap t47 := Safe.keep Kq56 (sfS sf59 sf0) CR46.1 (Safe.new hs56)
  have lt62 : @LT.lt Nat _ t47 T56.heap.size := Ab56.lt
  show own_Rn p e below _ (T56.setTop (mkF m 99 #[.val (.int i0), .val (.int i1), .val (.int i2), .val (.int i3), .val (.int c0), .val (.int c1), .val (.int v0), .val (.int v1), .val (.int f0), .val (.int f1), .val (.ref b1), .unset, .unset, .unset, .unset] [(.ref b31)]))
  have hpL47 := hp47
  refine own_as X56 hx #[.val (.int i0), .val (.int i1), .val (.int i2), .val (.int i3), .val (.int c0), .val (.int c1), .val (.int v0), .val (.int v1), .val (.int f0), .val (.int f1), .val (.ref b1), .val (.ref b31), .unset, .unset, .unset] 101 (hb hby at_99) rfl rfl rfl ?_
  obtain ⟨T63, h63, X63, e63, E63, A63, D63, -, st63⟩ := newO X56 hx hZ hown (hw _ (own_mi 0 rfl)) (hw _ (own_mi 1 rfl)) (hw _ (own_mi 2 rfl)) rfl (g := (mkF m 101 #[.val (.int i0), .val (.int i1), .val (.int i2), .val (.int i3), .val (.int c0), .val (.int c1), .val (.int v0), .val (.int v1), .val (.int f0), .val (.int f1), .val (.ref b1), .val (.ref b31), .unset, .unset, .unset] [])) rfl (hb hby at_101) (by decide) (by decide)
  obtain ⟨b63, g63⟩ : ∃ z, z = T56.heap.size := ⟨_, rfl⟩
  rw [← g63] at A63 D63 st63
  refine own_go st63 ?_
  have sz64 : T56.heap.size ≤ h63.size := E63.1
  have cr64 : CHr Z consts_1 s.vm T56.heap s.vm h63 := CHr.ext E63 CR60.1
  have CR64 := CR60.trans cr64
  have sf65 : Safe Z consts_1 s.vm h63 b63 := Safe.ext E63 CR60.1 (Safe.new (Nat.le_of_eq g63.symm))
  have lt66 : @LT.lt Nat _ b63 h63.size := A63.lt
  have le67 : h0.size ≤ T56.heap.size := Nat.le_trans le55 sz60
  have gn63 : n0 ≤ b63 := (Nat.le_trans (Nat.le_trans Z0 le67) (Nat.le_of_eq g63.symm))
  have D63_coder : Fld Z h63 b63 "java/lang/String" "coder" "B" (.int (0 : Int32)) := D63 (Or.inr (hw _ (own_mi 27 rfl))) (ty := .byte) own_fd_B
  have D63_value : Fld Z h63 b63 "java/lang/String" "value" "[B" .null := D63 (Or.inr (hw _ (own_mi 29 rfl))) (ty := (.array .byte)) own_fd_5bB
  show own_Rn p e below _ (T63.setTop (mkF m 104 #[.val (.int i0), .val (.int i1), .val (.int i2), .val (.int i3), .val (.int c0), .val (.int c1), .val (.int v0), .val (.int v1), .val (.int f0), .val (.int f1), .val (.ref b1), .val (.ref b31), .unset, .unset, .unset] [(.ref b63)]))
  refine own_dp X63 hx 105 (hb hby at_104) rfl rfl ?_
  refine own_ic X63 hx (2 : Int32) 106 (hb hby at_105) rfl rfl ?_
  obtain ⟨T69, h69, k69, X69, e69, E69, A69, st69⟩ := newP X63 hx hZ (hw _ (own_mi 3 rfl)) e63 (g := (mkF m 106 #[.val (.int i0), .val (.int i1), .val (.int i2), .val (.int i3), .val (.int c0), .val (.int c1), .val (.int v0), .val (.int v1), .val (.int f0), .val (.int f1), .val (.ref b1), .val (.ref b31), .unset, .unset, .unset] [(.int (2 : Int32)), (.ref b63), (.ref b63)])) rfl (hb hby at_106) rfl (by decide) (cap := 2) (by decide) (by decide) (by decide) (by decide)
  obtain ⟨b69, g69⟩ : ∃ z, z = h63.size := ⟨_, rfl⟩
  rw [← g69] at A69 st69
  refine own_go st69 ?_
  have sz70 : h63.size ≤ h69.size := E69.1
  have cr70 : CHr Z consts_1 s.vm h63 s.vm h69 := CHr.ext E69 CR64.1
  have CR70 := CR64.trans cr70
  have le71 : h0.size ≤ h63.size := Nat.le_trans le67 sz64
  have gn69 : n0 ≤ b69 := (Nat.le_trans (Nat.le_trans Z0 le71) (Nat.le_of_eq g69.symm))
  have V69 : Arv Z h69 b69 k69 .char (2 : Int32) [(.int (0 : Int32)), (.int (0 : Int32))] (.int (0 : Int32)) := (Arv.new A69 (by decide)).pad (pad_rep [] _ 2)
  have lt72 : @LT.lt Nat _ b69 h69.size := V69.lt
  show own_Rn p e below _ (T69.setTop (mkF m 108 #[.val (.int i0), .val (.int i1), .val (.int i2), .val (.int i3), .val (.int c0), .val (.int c1), .val (.int v0), .val (.int v1), .val (.int f0), .val (.int f1), .val (.ref b1), .val (.ref b31), .unset, .unset, .unset] [(.ref b69), (.ref b63), (.ref b63)]))
  refine own_dp X69 hx 109 (hb hby at_108) rfl rfl ?_
  refine own_ic X69 hx (0 : Int32) 110 (hb hby at_109) rfl rfl ?_
  refine own_il X69 hx 112 (hb hby at_110) rfl rfl ?_
  obtain ⟨cl73, Ar73, q73, Sz73, Nn73, Hs73, G73⟩ := id V69
  obtain ⟨T73, h73, X73, e73, W73, st73⟩ := stC X69 hx hZ e69 Ar73 (j := (0 : Int32)) (inb_of Sz73 ⟨by decide, by decide⟩) (g := (mkF m 112 #[.val (.int i0), .val (.int i1), .val (.int i2), .val (.int i3), .val (.int c0), .val (.int c1), .val (.int v0), .val (.int v1), .val (.int f0), .val (.int f1), .val (.ref b1), .val (.ref b31), .unset, .unset, .unset] [(.int f0), (.int (0 : Int32)), (.ref b69), (.ref b69), (.ref b63), (.ref b63)])) rfl rfl (hb hby at_112)
  rw [nf0] at W73
  refine own_go st73 ?_
  have V73 : Arv Z h73 b69 k69 .char (2 : Int32) [(.int f0), (.int (0 : Int32))] (.int (0 : Int32)) := Arv.set Ar73 q73 Sz73 Nn73 Hs73 G73 (by rw [← nf0]; exact fits_nar_char _) W73 0 rfl (Nat.le_of_ble_eq_true rfl)
  have N73 := Fr.snoc X73 N56 gn69
  have sf74 : Safe Z consts_1 s.vm h69 b69 := Safe.arv hZ.alike V69 (by decide)
  have sz75 : h69.size ≤ h73.size := Nat.le_of_eq (Wr.size W73).symm
  have cr75 : CHr Z consts_1 s.vm h69 s.vm h73 := CHr.wr W73 sf74 CR70.1
  have CR75 := CR70.trans cr75
  show own_Rn p e below _ (T73.setTop (mkF m 113 #[.val (.int i0), .val (.int i1), .val (.int i2), .val (.int i3), .val (.int c0), .val (.int c1), .val (.int v0), .val (.int v1), .val (.int f0), .val (.int f1), .val (.ref b1), .val (.ref b31), .unset, .unset, .unset] [(.ref b69), (.ref b63), (.ref b63)]))
  refine own_dp X73 hx 114 (hb hby at_113) rfl rfl ?_
  refine own_ic X73 hx (1 : Int32) 115 (hb hby at_114) rfl rfl ?_
  refine own_il X73 hx 117 (hb hby at_115) rfl rfl ?_
  obtain ⟨cl76, Ar76, q76, Sz76, Nn76, Hs76, G76⟩ := id V73
  obtain ⟨T76, h76, X76, e76, W76, st76⟩ := stC X73 hx hZ e73 Ar76 (j := (1 : Int32)) (inb_of Sz76 ⟨by decide, by decide⟩) (g := (mkF m 117 #[.val (.int i0), .val (.int i1), .val (.int i2), .val (.int i3), .val (.int c0), .val (.int c1), .val (.int v0), .val (.int v1), .val (.int f0), .val (.int f1), .val (.ref b1), .val (.ref b31), .unset, .unset, .unset] [(.int f1), (.int (1 : Int32)), (.ref b69), (.ref b69), (.ref b63), (.ref b63)])) rfl rfl (hb hby at_117)
  rw [nf1] at W76
  refine own_go st76 ?_
  have V76 : Arv Z h76 b69 k69 .char (2 : Int32) [(.int f0), (.int f1)] (.int (0 : Int32)) := Arv.set Ar76 q76 Sz76 Nn76 Hs76 G76 (by rw [← nf1]; exact fits_nar_char _) W76 1 rfl (Nat.le_of_ble_eq_true rfl)
  have N76 := Fr.snoc X76 N73 gn69
  have sf77 : Safe Z consts_1 s.vm h73 b69 := Safe.arv hZ.alike V73 (by decide)
  have sz78 : h73.size ≤ h76.size := Nat.le_of_eq (Wr.size W76).symm
  have cr78 : CHr Z consts_1 s.vm h73 s.vm h76 := CHr.wr W76 sf77 CR75.1
  have CR78 := CR75.trans cr78
  show own_Rn p e below _ (T76.setTop (mkF m 118 #[.val (.int i0), .val (.int i1), .val (.int i2), .val (.int i3), .val (.int c0), .val (.int c1), .val (.int v0), .val (.int v1), .val (.int f0), .val (.int f1), .val (.ref b1), .val (.ref b31), .unset, .unset, .unset] [(.ref b69), (.ref b63), (.ref b63)]))
  have hp79 : ∀ c ∈ ([f0, f1] : List Int32), ¬ c < 0 ∧ ¬ (255 : Int32) < c := by
    intro c hc
    simp only [List.mem_cons, List.not_mem_nil, or_false] at hc
    rcases hc with rfl | rfl
    · exact rf0
    · exact rf1
  have F80 : Exa Z h76 b63 "java/lang/String" := (((A63.ext E69).wr W73).wr W76)
  have ne81 : b63 ≠ b69 := own_nea (Or.inl (Nat.lt_of_lt_of_le lt66 (Nat.le_trans (Nat.le_refl _) (Nat.le_of_eq g69.symm))))
  have F82 : Fld Z h76 b63 "java/lang/String" "value" "[B" .null := (((D63_value.ext E69).other W73 (Or.inl ne81)).other W76 (Or.inl ne81))
  have F83 : Fld Z h76 b63 "java/lang/String" "coder" "B" (.int (0 : Int32)) := (((D63_coder.ext E69).other W73 (Or.inl ne81)).other W76 (Or.inl ne81))
  have F84 : Old Z n0 h76 := (((((F52.keep Kq56 (allS gn31 all0)).ext E63).ext E69).wr W73 gn69).wr W76 gn69)
  have le85 : h0.size ≤ h69.size := Nat.le_trans le71 sz70
  have le86 : h0.size ≤ h73.size := Nat.le_trans le85 sz75
  have le87 : h0.size ≤ h76.size := Nat.le_trans le86 sz78
  have Zs79 : n0 ≤ h76.size := (Nat.le_trans Z0 le87)
  refine own_pN X76 hx hZ hown (hw _ (own_mi 4 rfl)) (hw _ (own_mi 5 rfl)) (hw _ (own_mi 6 rfl)) (lenOf own_pd_285bC29V rfl) hws (kI := 4) (hw _ (own_mi 1 rfl)) (cs := [f0, f1]) (bs := ([f0, f1] : List Int32).map (fun c => c.toInt8.toInt32)) (n := 2) gn63 Zs79 F80 F82 F83 V76 (O2.ext F84.2) P5 rfl rfl (by decide) (by decide) hp79 rfl (by decide) 1 (by decide) e76 [(.ref b63)] (by rw [hml]; rfl) rfl (Nat.le_of_eq rfl) (by decide : 8 + 1 ≤ _) (by decide : 22 + 2 ≤ _) 121 (hb hby at_118) rfl 9 24 rfl rfl ?_
  intro rv88 T88 Lc88 X88 hQ88
  obtain ⟨rfl, Nq88, Kq88, Ex88, Co88, t79, kb79, gt88, hs88, nt88, Va88, Ab88⟩ := hQ88
  have N88 := Fr.app N76 Nq88
  have le90 : h63.size ≤ h73.size := Nat.le_trans sz70 sz75
  have sf91 : Safe Z consts_1 s.vm h76 b63 := (CHr.safe cr78 (Nat.lt_of_lt_of_le lt66 le90) (CHr.safe cr75 (Nat.lt_of_lt_of_le lt66 sz70) (CHr.safe cr70 (Nat.lt_of_lt_of_le lt66 (Nat.le_refl _)) sf65)))
  have sz92 : h76.size ≤ T88.heap.size := Kq88.1
  have cr92 : CHr Z consts_1 s.vm h76 s.vm T88.heap := CHr.keep Kq88 (sfS sf91 sf0) CR78.1
  have CR92 := CR78.trans cr92
  have sf93 : Safe Z consts_1 s.vm T88.heap t79 := Safe.keep Kq88 (sfS sf91 sf0) CR78.1 (Safe.new hs88)
  have lt94 : @LT.lt Nat _ t79 T88.heap.size := Ab88.lt
  show own_Rn p e below _ (T88.setTop (mkF m 121 #[.val (.int i0), .val (.int i1), .val (.int i2), .val (.int i3), .val (.int c0), .val (.int c1), .val (.int v0), .val (.int v1), .val (.int f0), .val (.int f1), .val (.ref b1), .val (.ref b31), .unset, .unset, .unset] [(.ref b63)]))
  have hpL79 := hp79
  refine own_as X88 hx #[.val (.int i0), .val (.int i1), .val (.int i2), .val (.int i3), .val (.int c0), .val (.int c1), .val (.int v0), .val (.int v1), .val (.int f0), .val (.int f1), .val (.ref b1), .val (.ref b31), .val (.ref b63), .unset, .unset] 123 (hb hby at_121) rfl rfl rfl ?_
  obtain ⟨T95, h95, X95, e95, E95, A95, D95, -, st95⟩ := newO X88 hx hZ hown (hw _ (own_mi 0 rfl)) (hw _ (own_mi 1 rfl)) (hw _ (own_mi 2 rfl)) rfl (g := (mkF m 123 #[.val (.int i0), .val (.int i1), .val (.int i2), .val (.int i3), .val (.int c0), .val (.int c1), .val (.int v0), .val (.int v1), .val (.int f0), .val (.int f1), .val (.ref b1), .val (.ref b31), .val (.ref b63), .unset, .unset] [])) rfl (hb hby at_123) (by decide) (by decide)
  obtain ⟨b95, g95⟩ : ∃ z, z = T88.heap.size := ⟨_, rfl⟩
  rw [← g95] at A95 D95 st95
  refine own_go st95 ?_
  have sz96 : T88.heap.size ≤ h95.size := E95.1
  have cr96 : CHr Z consts_1 s.vm T88.heap s.vm h95 := CHr.ext E95 CR92.1
  have CR96 := CR92.trans cr96
  have sf97 : Safe Z consts_1 s.vm h95 b95 := Safe.ext E95 CR92.1 (Safe.new (Nat.le_of_eq g95.symm))
  have lt98 : @LT.lt Nat _ b95 h95.size := A95.lt
  have le99 : h0.size ≤ T88.heap.size := Nat.le_trans le87 sz92
  have gn95 : n0 ≤ b95 := (Nat.le_trans (Nat.le_trans Z0 le99) (Nat.le_of_eq g95.symm))
  have D95_coder : Fld Z h95 b95 "java/lang/String" "coder" "B" (.int (0 : Int32)) := D95 (Or.inr (hw _ (own_mi 27 rfl))) (ty := .byte) own_fd_B
  have D95_value : Fld Z h95 b95 "java/lang/String" "value" "[B" .null := D95 (Or.inr (hw _ (own_mi 29 rfl))) (ty := (.array .byte)) own_fd_5bB
  show own_Rn p e below _ (T95.setTop (mkF m 126 #[.val (.int i0), .val (.int i1), .val (.int i2), .val (.int i3), .val (.int c0), .val (.int c1), .val (.int v0), .val (.int v1), .val (.int f0), .val (.int f1), .val (.ref b1), .val (.ref b31), .val (.ref b63), .unset, .unset] [(.ref b95)]))
  refine own_dp X95 hx 127 (hb hby at_126) rfl rfl ?_
  refine own_bp X95 hx (7 : Int32) 129 (hb hby at_127) rfl rfl ?_
  obtain ⟨T101, h101, k101, X101, e101, E101, A101, st101⟩ := newP X95 hx hZ (hw _ (own_mi 3 rfl)) e95 (g := (mkF m 129 #[.val (.int i0), .val (.int i1), .val (.int i2), .val (.int i3), .val (.int c0), .val (.int c1), .val (.int v0), .val (.int v1), .val (.int f0), .val (.int f1), .val (.ref b1), .val (.ref b31), .val (.ref b63), .unset, .unset] [(.int (7 : Int32)), (.ref b95), (.ref b95)])) rfl (hb hby at_129) rfl (by decide) (cap := 7) (by decide) (by decide) (by decide) (by decide)
  obtain ⟨b101, g101⟩ : ∃ z, z = h95.size := ⟨_, rfl⟩
  rw [← g101] at A101 st101
  refine own_go st101 ?_
  have sz102 : h95.size ≤ h101.size := E101.1
  have cr102 : CHr Z consts_1 s.vm h95 s.vm h101 := CHr.ext E101 CR96.1
  have CR102 := CR96.trans cr102
  have le103 : h0.size ≤ h95.size := Nat.le_trans le99 sz96
  have gn101 : n0 ≤ b101 := (Nat.le_trans (Nat.le_trans Z0 le103) (Nat.le_of_eq g101.symm))
  have V101 : Arv Z h101 b101 k101 .char (7 : Int32) [(.int (0 : Int32)), (.int (0 : Int32)), (.int (0 : Int32)), (.int (0 : Int32)), (.int (0 : Int32)), (.int (0 : Int32)), (.int (0 : Int32))] (.int (0 : Int32)) := (Arv.new A101 (by decide)).pad (pad_rep [] _ 7)
  have lt104 : @LT.lt Nat _ b101 h101.size := V101.lt
  show own_Rn p e below _ (T101.setTop (mkF m 131 #[.val (.int i0), .val (.int i1), .val (.int i2), .val (.int i3), .val (.int c0), .val (.int c1), .val (.int v0), .val (.int v1), .val (.int f0), .val (.int f1), .val (.ref b1), .val (.ref b31), .val (.ref b63), .unset, .unset] [(.ref b101), (.ref b95), (.ref b95)]))
  refine own_dp X101 hx 132 (hb hby at_131) rfl rfl ?_
  refine own_ic X101 hx (0 : Int32) 133 (hb hby at_132) rfl rfl ?_
  refine own_bp X101 hx (45 : Int32) 135 (hb hby at_133) rfl rfl ?_
  obtain ⟨cl105, Ar105, q105, Sz105, Nn105, Hs105, G105⟩ := id V101
  obtain ⟨T105, h105, X105, e105, W105, st105⟩ := stC X101 hx hZ e101 Ar105 (j := (0 : Int32)) (inb_of Sz105 ⟨by decide, by decide⟩) (g := (mkF m 135 #[.val (.int i0), .val (.int i1), .val (.int i2), .val (.int i3), .val (.int c0), .val (.int c1), .val (.int v0), .val (.int v1), .val (.int f0), .val (.int f1), .val (.ref b1), .val (.ref b31), .val (.ref b63), .unset, .unset] [(.int (45 : Int32)), (.int (0 : Int32)), (.ref b101), (.ref b101), (.ref b95), (.ref b95)])) rfl rfl (hb hby at_135)
  refine own_go st105 ?_
  have V105 : Arv Z h105 b101 k101 .char (7 : Int32) [(.int (45 : Int32)), (.int (0 : Int32)), (.int (0 : Int32)), (.int (0 : Int32)), (.int (0 : Int32)), (.int (0 : Int32)), (.int (0 : Int32))] (.int (0 : Int32)) := Arv.set Ar105 q105 Sz105 Nn105 Hs105 G105 rfl W105 0 rfl (Nat.le_of_ble_eq_true rfl)
  have N105 := Fr.snoc X105 N88 gn101
  have sf106 : Safe Z consts_1 s.vm h101 b101 := Safe.arv hZ.alike V101 (by decide)
  have sz107 : h101.size ≤ h105.size := Nat.le_of_eq (Wr.size W105).symm
  have cr107 : CHr Z consts_1 s.vm h101 s.vm h105 := CHr.wr W105 sf106 CR102.1
  have CR107 := CR102.trans cr107
  show own_Rn p e below _ (T105.setTop (mkF m 136 #[.val (.int i0), .val (.int i1), .val (.int i2), .val (.int i3), .val (.int c0), .val (.int c1), .val (.int v0), .val (.int v1), .val (.int f0), .val (.int f1), .val (.ref b1), .val (.ref b31), .val (.ref b63), .unset, .unset] [(.ref b101), (.ref b95), (.ref b95)]))
  refine own_dp X105 hx 137 (hb hby at_136) rfl rfl ?_
  refine own_ic X105 hx (1 : Int32) 138 (hb hby at_137) rfl rfl ?_
  refine own_bp X105 hx (45 : Int32) 140 (hb hby at_138) rfl rfl ?_
  obtain ⟨cl108, Ar108, q108, Sz108, Nn108, Hs108, G108⟩ := id V105
  obtain ⟨T108, h108, X108, e108, W108, st108⟩ := stC X105 hx hZ e105 Ar108 (j := (1 : Int32)) (inb_of Sz108 ⟨by decide, by decide⟩) (g := (mkF m 140 #[.val (.int i0), .val (.int i1), .val (.int i2), .val (.int i3), .val (.int c0), .val (.int c1), .val (.int v0), .val (.int v1), .val (.int f0), .val (.int f1), .val (.ref b1), .val (.ref b31), .val (.ref b63), .unset, .unset] [(.int (45 : Int32)), (.int (1 : Int32)), (.ref b101), (.ref b101), (.ref b95), (.ref b95)])) rfl rfl (hb hby at_140)
  refine own_go st108 ?_
  have V108 : Arv Z h108 b101 k101 .char (7 : Int32) [(.int (45 : Int32)), (.int (45 : Int32)), (.int (0 : Int32)), (.int (0 : Int32)), (.int (0 : Int32)), (.int (0 : Int32)), (.int (0 : Int32))] (.int (0 : Int32)) := Arv.set Ar108 q108 Sz108 Nn108 Hs108 G108 rfl W108 1 rfl (Nat.le_of_ble_eq_true rfl)
  have N108 := Fr.snoc X108 N105 gn101
  have sf109 : Safe Z consts_1 s.vm h105 b101 := Safe.arv hZ.alike V105 (by decide)
  have sz110 : h105.size ≤ h108.size := Nat.le_of_eq (Wr.size W108).symm
  have cr110 : CHr Z consts_1 s.vm h105 s.vm h108 := CHr.wr W108 sf109 CR107.1
  have CR110 := CR107.trans cr110
  show own_Rn p e below _ (T108.setTop (mkF m 141 #[.val (.int i0), .val (.int i1), .val (.int i2), .val (.int i3), .val (.int c0), .val (.int c1), .val (.int v0), .val (.int v1), .val (.int f0), .val (.int f1), .val (.ref b1), .val (.ref b31), .val (.ref b63), .unset, .unset] [(.ref b101), (.ref b95), (.ref b95)]))
  refine own_dp X108 hx 142 (hb hby at_141) rfl rfl ?_
  refine own_ic X108 hx (2 : Int32) 143 (hb hby at_142) rfl rfl ?_
  refine own_il X108 hx 145 (hb hby at_143) rfl rfl ?_
  obtain ⟨cl111, Ar111, q111, Sz111, Nn111, Hs111, G111⟩ := id V108
  obtain ⟨T111, h111, X111, e111, W111, st111⟩ := stC X108 hx hZ e108 Ar111 (j := (2 : Int32)) (inb_of Sz111 ⟨by decide, by decide⟩) (g := (mkF m 145 #[.val (.int i0), .val (.int i1), .val (.int i2), .val (.int i3), .val (.int c0), .val (.int c1), .val (.int v0), .val (.int v1), .val (.int f0), .val (.int f1), .val (.ref b1), .val (.ref b31), .val (.ref b63), .unset, .unset] [(.int c0), (.int (2 : Int32)), (.ref b101), (.ref b101), (.ref b95), (.ref b95)])) rfl rfl (hb hby at_145)
  rw [nc0] at W111
  refine own_go st111 ?_
  have V111 : Arv Z h111 b101 k101 .char (7 : Int32) [(.int (45 : Int32)), (.int (45 : Int32)), (.int c0), (.int (0 : Int32)), (.int (0 : Int32)), (.int (0 : Int32)), (.int (0 : Int32))] (.int (0 : Int32)) := Arv.set Ar111 q111 Sz111 Nn111 Hs111 G111 (by rw [← nc0]; exact fits_nar_char _) W111 2 rfl (Nat.le_of_ble_eq_true rfl)
  have N111 := Fr.snoc X111 N108 gn101
  have sf112 : Safe Z consts_1 s.vm h108 b101 := Safe.arv hZ.alike V108 (by decide)
  have sz113 : h108.size ≤ h111.size := Nat.le_of_eq (Wr.size W111).symm
  have cr113 : CHr Z consts_1 s.vm h108 s.vm h111 := CHr.wr W111 sf112 CR110.1
  have CR113 := CR110.trans cr113
  show own_Rn p e below _ (T111.setTop (mkF m 146 #[.val (.int i0), .val (.int i1), .val (.int i2), .val (.int i3), .val (.int c0), .val (.int c1), .val (.int v0), .val (.int v1), .val (.int f0), .val (.int f1), .val (.ref b1), .val (.ref b31), .val (.ref b63), .unset, .unset] [(.ref b101), (.ref b95), (.ref b95)]))
  refine own_dp X111 hx 147 (hb hby at_146) rfl rfl ?_
  refine own_ic X111 hx (3 : Int32) 148 (hb hby at_147) rfl rfl ?_
  refine own_il X111 hx 150 (hb hby at_148) rfl rfl ?_
  obtain ⟨cl114, Ar114, q114, Sz114, Nn114, Hs114, G114⟩ := id V111
  obtain ⟨T114, h114, X114, e114, W114, st114⟩ := stC X111 hx hZ e111 Ar114 (j := (3 : Int32)) (inb_of Sz114 ⟨by decide, by decide⟩) (g := (mkF m 150 #[.val (.int i0), .val (.int i1), .val (.int i2), .val (.int i3), .val (.int c0), .val (.int c1), .val (.int v0), .val (.int v1), .val (.int f0), .val (.int f1), .val (.ref b1), .val (.ref b31), .val (.ref b63), .unset, .unset] [(.int c1), (.int (3 : Int32)), (.ref b101), (.ref b101), (.ref b95), (.ref b95)])) rfl rfl (hb hby at_150)
  rw [nc1] at W114
  refine own_go st114 ?_
  have V114 : Arv Z h114 b101 k101 .char (7 : Int32) [(.int (45 : Int32)), (.int (45 : Int32)), (.int c0), (.int c1), (.int (0 : Int32)), (.int (0 : Int32)), (.int (0 : Int32))] (.int (0 : Int32)) := Arv.set Ar114 q114 Sz114 Nn114 Hs114 G114 (by rw [← nc1]; exact fits_nar_char _) W114 3 rfl (Nat.le_of_ble_eq_true rfl)
  have N114 := Fr.snoc X114 N111 gn101
  have sf115 : Safe Z consts_1 s.vm h111 b101 := Safe.arv hZ.alike V111 (by decide)
  have sz116 : h111.size ≤ h114.size := Nat.le_of_eq (Wr.size W114).symm
  have cr116 : CHr Z consts_1 s.vm h111 s.vm h114 := CHr.wr W114 sf115 CR113.1
  have CR116 := CR113.trans cr116
  show own_Rn p e below _ (T114.setTop (mkF m 151 #[.val (.int i0), .val (.int i1), .val (.int i2), .val (.int i3), .val (.int c0), .val (.int c1), .val (.int v0), .val (.int v1), .val (.int f0), .val (.int f1), .val (.ref b1), .val (.ref b31), .val (.ref b63), .unset, .unset] [(.ref b101), (.ref b95), (.ref b95)]))
  refine own_dp X114 hx 152 (hb hby at_151) rfl rfl ?_
  refine own_ic X114 hx (4 : Int32) 153 (hb hby at_152) rfl rfl ?_
  refine own_bp X114 hx (32 : Int32) 155 (hb hby at_153) rfl rfl ?_
  obtain ⟨cl117, Ar117, q117, Sz117, Nn117, Hs117, G117⟩ := id V114
  obtain ⟨T117, h117, X117, e117, W117, st117⟩ := stC X114 hx hZ e114 Ar117 (j := (4 : Int32)) (inb_of Sz117 ⟨by decide, by decide⟩) (g := (mkF m 155 #[.val (.int i0), .val (.int i1), .val (.int i2), .val (.int i3), .val (.int c0), .val (.int c1), .val (.int v0), .val (.int v1), .val (.int f0), .val (.int f1), .val (.ref b1), .val (.ref b31), .val (.ref b63), .unset, .unset] [(.int (32 : Int32)), (.int (4 : Int32)), (.ref b101), (.ref b101), (.ref b95), (.ref b95)])) rfl rfl (hb hby at_155)
  refine own_go st117 ?_
  have V117 : Arv Z h117 b101 k101 .char (7 : Int32) [(.int (45 : Int32)), (.int (45 : Int32)), (.int c0), (.int c1), (.int (32 : Int32)), (.int (0 : Int32)), (.int (0 : Int32))] (.int (0 : Int32)) := Arv.set Ar117 q117 Sz117 Nn117 Hs117 G117 rfl W117 4 rfl (Nat.le_of_ble_eq_true rfl)
  have N117 := Fr.snoc X117 N114 gn101
  have sf118 : Safe Z consts_1 s.vm h114 b101 := Safe.arv hZ.alike V114 (by decide)
  have sz119 : h114.size ≤ h117.size := Nat.le_of_eq (Wr.size W117).symm
  have cr119 : CHr Z consts_1 s.vm h114 s.vm h117 := CHr.wr W117 sf118 CR116.1
  have CR119 := CR116.trans cr119
  show own_Rn p e below _ (T117.setTop (mkF m 156 #[.val (.int i0), .val (.int i1), .val (.int i2), .val (.int i3), .val (.int c0), .val (.int c1), .val (.int v0), .val (.int v1), .val (.int f0), .val (.int f1), .val (.ref b1), .val (.ref b31), .val (.ref b63), .unset, .unset] [(.ref b101), (.ref b95), (.ref b95)]))
  refine own_dp X117 hx 157 (hb hby at_156) rfl rfl ?_
  refine own_ic X117 hx (5 : Int32) 158 (hb hby at_157) rfl rfl ?_
  refine own_il X117 hx 160 (hb hby at_158) rfl rfl ?_
  obtain ⟨cl120, Ar120, q120, Sz120, Nn120, Hs120, G120⟩ := id V117
  obtain ⟨T120, h120, X120, e120, W120, st120⟩ := stC X117 hx hZ e117 Ar120 (j := (5 : Int32)) (inb_of Sz120 ⟨by decide, by decide⟩) (g := (mkF m 160 #[.val (.int i0), .val (.int i1), .val (.int i2), .val (.int i3), .val (.int c0), .val (.int c1), .val (.int v0), .val (.int v1), .val (.int f0), .val (.int f1), .val (.ref b1), .val (.ref b31), .val (.ref b63), .unset, .unset] [(.int v0), (.int (5 : Int32)), (.ref b101), (.ref b101), (.ref b95), (.ref b95)])) rfl rfl (hb hby at_160)
  rw [nv0] at W120
  refine own_go st120 ?_
  have V120 : Arv Z h120 b101 k101 .char (7 : Int32) [(.int (45 : Int32)), (.int (45 : Int32)), (.int c0), (.int c1), (.int (32 : Int32)), (.int v0), (.int (0 : Int32))] (.int (0 : Int32)) := Arv.set Ar120 q120 Sz120 Nn120 Hs120 G120 (by rw [← nv0]; exact fits_nar_char _) W120 5 rfl (Nat.le_of_ble_eq_true rfl)
  have N120 := Fr.snoc X120 N117 gn101
  have sf121 : Safe Z consts_1 s.vm h117 b101 := Safe.arv hZ.alike V117 (by decide)
  have sz122 : h117.size ≤ h120.size := Nat.le_of_eq (Wr.size W120).symm
  have cr122 : CHr Z consts_1 s.vm h117 s.vm h120 := CHr.wr W120 sf121 CR119.1
  have CR122 := CR119.trans cr122
  show own_Rn p e below _ (T120.setTop (mkF m 161 #[.val (.int i0), .val (.int i1), .val (.int i2), .val (.int i3), .val (.int c0), .val (.int c1), .val (.int v0), .val (.int v1), .val (.int f0), .val (.int f1), .val (.ref b1), .val (.ref b31), .val (.ref b63), .unset, .unset] [(.ref b101), (.ref b95), (.ref b95)]))
  refine own_dp X120 hx 162 (hb hby at_161) rfl rfl ?_
  refine own_bp X120 hx (6 : Int32) 164 (hb hby at_162) rfl rfl ?_
  refine own_il X120 hx 166 (hb hby at_164) rfl rfl ?_
  obtain ⟨cl123, Ar123, q123, Sz123, Nn123, Hs123, G123⟩ := id V120
  obtain ⟨T123, h123, X123, e123, W123, st123⟩ := stC X120 hx hZ e120 Ar123 (j := (6 : Int32)) (inb_of Sz123 ⟨by decide, by decide⟩) (g := (mkF m 166 #[.val (.int i0), .val (.int i1), .val (.int i2), .val (.int i3), .val (.int c0), .val (.int c1), .val (.int v0), .val (.int v1), .val (.int f0), .val (.int f1), .val (.ref b1), .val (.ref b31), .val (.ref b63), .unset, .unset] [(.int v1), (.int (6 : Int32)), (.ref b101), (.ref b101), (.ref b95), (.ref b95)])) rfl rfl (hb hby at_166)
  rw [nv1] at W123
  refine own_go st123 ?_
  have V123 : Arv Z h123 b101 k101 .char (7 : Int32) [(.int (45 : Int32)), (.int (45 : Int32)), (.int c0), (.int c1), (.int (32 : Int32)), (.int v0), (.int v1)] (.int (0 : Int32)) := Arv.set Ar123 q123 Sz123 Nn123 Hs123 G123 (by rw [← nv1]; exact fits_nar_char _) W123 6 rfl (Nat.le_of_ble_eq_true rfl)
  have N123 := Fr.snoc X123 N120 gn101
  have sf124 : Safe Z consts_1 s.vm h120 b101 := Safe.arv hZ.alike V120 (by decide)
  have sz125 : h120.size ≤ h123.size := Nat.le_of_eq (Wr.size W123).symm
  have cr125 : CHr Z consts_1 s.vm h120 s.vm h123 := CHr.wr W123 sf124 CR122.1
  have CR125 := CR122.trans cr125
  show own_Rn p e below _ (T123.setTop (mkF m 167 #[.val (.int i0), .val (.int i1), .val (.int i2), .val (.int i3), .val (.int c0), .val (.int c1), .val (.int v0), .val (.int v1), .val (.int f0), .val (.int f1), .val (.ref b1), .val (.ref b31), .val (.ref b63), .unset, .unset] [(.ref b101), (.ref b95), (.ref b95)]))
  have hp126 : ∀ c ∈ ([(45 : Int32), (45 : Int32), c0, c1, (32 : Int32), v0, v1] : List Int32), ¬ c < 0 ∧ ¬ (255 : Int32) < c := by
    intro c hc
    simp only [List.mem_cons, List.not_mem_nil, or_false] at hc
    rcases hc with rfl | rfl | rfl | rfl | rfl | rfl | rfl
    · exact (by decide)
    · exact (by decide)
    · exact rc0
    · exact rc1
    · exact (by decide)
    · exact rv0
    · exact rv1
  have F127 : Exa Z h123 b95 "java/lang/String" := ((((((((A95.ext E101).wr W105).wr W108).wr W111).wr W114).wr W117).wr W120).wr W123)
  have ne128 : b95 ≠ b101 := own_nea (Or.inl (Nat.lt_of_lt_of_le lt98 (Nat.le_trans (Nat.le_refl _) (Nat.le_of_eq g101.symm))))
  have F129 : Fld Z h123 b95 "java/lang/String" "value" "[B" .null := ((((((((D95_value.ext E101).other W105 (Or.inl ne128)).other W108 (Or.inl ne128)).other W111 (Or.inl ne128)).other W114 (Or.inl ne128)).other W117 (Or.inl ne128)).other W120 (Or.inl ne128)).other W123 (Or.inl ne128))
  have F130 : Fld Z h123 b95 "java/lang/String" "coder" "B" (.int (0 : Int32)) := ((((((((D95_coder.ext E101).other W105 (Or.inl ne128)).other W108 (Or.inl ne128)).other W111 (Or.inl ne128)).other W114 (Or.inl ne128)).other W117 (Or.inl ne128)).other W120 (Or.inl ne128)).other W123 (Or.inl ne128))
  have F131 : Old Z n0 h123 := ((((((((((F84.keep Kq88 (allS gn63 all0)).ext E95).ext E101).wr W105 gn101).wr W108 gn101).wr W111 gn101).wr W114 gn101).wr W117 gn101).wr W120 gn101).wr W123 gn101)
  have le132 : h0.size ≤ h101.size := Nat.le_trans le103 sz102
  have le133 : h0.size ≤ h105.size := Nat.le_trans le132 sz107
  have le134 : h0.size ≤ h108.size := Nat.le_trans le133 sz110
  have le135 : h0.size ≤ h111.size := Nat.le_trans le134 sz113
  have le136 : h0.size ≤ h114.size := Nat.le_trans le135 sz116
  have le137 : h0.size ≤ h117.size := Nat.le_trans le136 sz119
  have le138 : h0.size ≤ h120.size := Nat.le_trans le137 sz122
  have le139 : h0.size ≤ h123.size := Nat.le_trans le138 sz125
  have Zs126 : n0 ≤ h123.size := (Nat.le_trans Z0 le139)
  refine own_pN X123 hx hZ hown (hw _ (own_mi 4 rfl)) (hw _ (own_mi 5 rfl)) (hw _ (own_mi 6 rfl)) (lenOf own_pd_285bC29V rfl) hws (kI := 4) (hw _ (own_mi 1 rfl)) (cs := [(45 : Int32), (45 : Int32), c0, c1, (32 : Int32), v0, v1]) (bs := ([(45 : Int32), (45 : Int32), c0, c1, (32 : Int32), v0, v1] : List Int32).map (fun c => c.toInt8.toInt32)) (n := 7) gn95 Zs126 F127 F129 F130 V123 (O2.ext F131.2) P5 rfl rfl (by decide) (by decide) hp126 rfl (by decide) 1 (by decide) e123 [(.ref b95)] (by rw [hml]; rfl) rfl (Nat.le_of_eq rfl) (by decide : 11 + 1 ≤ _) (by decide : 35 + 7 ≤ _) 170 (hb hby at_167) rfl 12 42 rfl rfl ?_
  intro rv140 T140 Lc140 X140 hQ140
  obtain ⟨rfl, Nq140, Kq140, Ex140, Co140, t126, kb126, gt140, hs140, nt140, Va140, Ab140⟩ := hQ140
  have N140 := Fr.app N123 Nq140
  have le142 : h95.size ≤ h105.size := Nat.le_trans sz102 sz107
  have le143 : h95.size ≤ h108.size := Nat.le_trans le142 sz110
  have le144 : h95.size ≤ h111.size := Nat.le_trans le143 sz113
  have le145 : h95.size ≤ h114.size := Nat.le_trans le144 sz116
  have le146 : h95.size ≤ h117.size := Nat.le_trans le145 sz119
  have le147 : h95.size ≤ h120.size := Nat.le_trans le146 sz122
  have sf148 : Safe Z consts_1 s.vm h123 b95 := (CHr.safe cr125 (Nat.lt_of_lt_of_le lt98 le147) (CHr.safe cr122 (Nat.lt_of_lt_of_le lt98 le146) (CHr.safe cr119 (Nat.lt_of_lt_of_le lt98 le145) (CHr.safe cr116 (Nat.lt_of_lt_of_le lt98 le144) (CHr.safe cr113 (Nat.lt_of_lt_of_le lt98 le143) (CHr.safe cr110 (Nat.lt_of_lt_of_le lt98 le142) (CHr.safe cr107 (Nat.lt_of_lt_of_le lt98 sz102) (CHr.safe cr102 (Nat.lt_of_lt_of_le lt98 (Nat.le_refl _)) sf97))))))))
  have sz149 : h123.size ≤ T140.heap.size := Kq140.1
  have cr149 : CHr Z consts_1 s.vm h123 s.vm T140.heap := CHr.keep Kq140 (sfS sf148 sf0) CR125.1
  have CR149 := CR125.trans cr149
  have sf150 : Safe Z consts_1 s.vm T140.heap t126 := Safe.keep Kq140 (sfS sf148 sf0) CR125.1 (Safe.new hs140)
  have lt151 : @LT.lt Nat _ t126 T140.heap.size := Ab140.lt
  show own_Rn p e below _ (T140.setTop (mkF m 170 #[.val (.int i0), .val (.int i1), .val (.int i2), .val (.int i3), .val (.int c0), .val (.int c1), .val (.int v0), .val (.int v1), .val (.int f0), .val (.int f1), .val (.ref b1), .val (.ref b31), .val (.ref b63), .unset, .unset] [(.ref b95)]))
  have hpL126 := hp126
  refine own_as X140 hx #[.val (.int i0), .val (.int i1), .val (.int i2), .val (.int i3), .val (.int c0), .val (.int c1), .val (.int v0), .val (.int v1), .val (.int f0), .val (.int f1), .val (.ref b1), .val (.ref b31), .val (.ref b63), .val (.ref b95), .unset] 172 (hb hby at_170) rfl rfl rfl ?_
  refine own_al X140 hx 174 (hb hby at_172) rfl rfl rfl ?_
  refine own_al X140 hx 176 (hb hby at_174) rfl rfl rfl ?_
  refine own_al X140 hx 178 (hb hby at_176) rfl rfl rfl ?_
  have le153 : h0.size ≤ T140.heap.size := Nat.le_trans le139 sz149
  have Zn152 : n0 ≤ T140.heap.size := (Nat.le_trans Z0 le153)
  have F154 : Old Z n0 T140.heap := (F131.keep Kq140 (allS gn95 all0))
  refine own_cS X140 hx hZ (y := (⟨"com/example/elodea/elodea/cli/Parameter", "option", "(Ljava/lang/String;Ljava/lang/String;Ljava/lang/String;)Lcom/example/elodea/elodea/cli/Parameter;"⟩ : MethodName)) hown (hw _ (own_mi 30 rfl)) (hw _ (own_mi 31 rfl)) (hw _ (own_mi 32 rfl)) (hw _ (own_mi 33 rfl)) (by decide) (rmOpt l Z a0 hw [] (b1) (b31) (b63) (ko) T140.heap n0 Zn152 (OO) F154) rfl [(.ref b1), (.ref b31), (.ref b63)] [] rfl (by rw [hml]; rfl) (lenOf own_pd_28Ljava2flang2fString3bLjava2flang2fString3bLjava2flang2fString3b29Lcom2fexample2felodea2felodea2fcli2fParameter3b rfl) rfl 0 (Nat.le_of_eq rfl) (by decide) (by decide) (by decide : 12 + 1 ≤ _) (by decide : 42 + 8 ≤ _) 181 (hb hby at_178) rfl 13 50 rfl rfl ?_
  intro rv152 T152 Lc152 X152 hQ152
  obtain ⟨pp, rfl, Nq152, Kq152, G0_152, G1_152, G2_152, G3_152, G4_152, G5_152, G6_152, G7_152, G8_152⟩ := hQ152
  have N152 := Fr.app N140 Nq152
  have sz155 : T140.heap.size ≤ T152.heap.size := Kq152.1
  have cr155 : CHr Z consts_1 s.vm T140.heap s.vm T152.heap := CHr.keep Kq152 sf0 CR149.1
  have CR155 := CR149.trans cr155
  have lt156 : @LT.lt Nat _ pp T152.heap.size := G0_152.lt
  show own_Rn p e below _ (T152.setTop (mkF m 181 #[.val (.int i0), .val (.int i1), .val (.int i2), .val (.int i3), .val (.int c0), .val (.int c1), .val (.int v0), .val (.int v1), .val (.int f0), .val (.int f1), .val (.ref b1), .val (.ref b31), .val (.ref b63), .val (.ref b95), .unset] [(.ref pp)]))
  refine own_as X152 hx #[.val (.int i0), .val (.int i1), .val (.int i2), .val (.int i3), .val (.int c0), .val (.int c1), .val (.int v0), .val (.int v1), .val (.int f0), .val (.int f1), .val (.ref b1), .val (.ref b31), .val (.ref b63), .val (.ref b95), .val (.ref pp)] 183 (hb hby at_181) rfl rfl rfl ?_
  refine own_al X152 hx 185 (hb hby at_183) rfl rfl rfl ?_
  have le158 : h0.size ≤ T152.heap.size := Nat.le_trans le153 sz155
  have Zn157 : n0 ≤ T152.heap.size := (Nat.le_trans Z0 le158)
  refine own_cV X152 hx hZ (y := (⟨"com/example/elodea/elodea/cli/Parameter", "getKind", "()Lcom/example/elodea/elodea/cli/Parameter$Kind;"⟩ : MethodName)) (z := (⟨"com/example/elodea/elodea/cli/Parameter", "getKind", "()Lcom/example/elodea/elodea/cli/Parameter$Kind;"⟩ : MethodName)) hown (hw _ (own_mi 59 rfl)) (hw _ (own_mi 60 rfl)) (notFace_of_selects (args := #[]) (mvT hZ (hw _ (own_mi 62 rfl)))) (hw _ (own_mi 62 rfl)) (hw _ (own_mi 61 rfl)) (hw _ (own_mi 63 rfl)) (hw _ (own_mi 32 rfl)) (by decide) (rmGK l Z a0 hw [] (pp) (ko) T152.heap n0 Zn157 G1_152) G0_152 rfl [] [] rfl (by rw [hml]; rfl) (lenOf own_pd_2829Lcom2fexample2felodea2felodea2fcli2fParameter24Kind3b rfl) rfl 0 (Nat.le_of_eq rfl) (by decide) (by decide) (by decide : 13 + 0 ≤ _) (by decide : 50 + 0 ≤ _) 188 (hb hby at_185) rfl 13 50 rfl rfl ?_
  intro rv157 T157 Lc157 X157 hQ157
  obtain ⟨rfl, Nq157, eh157⟩ := hQ157
  have N157 := Fr.app N152 Nq157
  show own_Rn p e below _ (T157.setTop (mkF m 188 #[.val (.int i0), .val (.int i1), .val (.int i2), .val (.int i3), .val (.int c0), .val (.int c1), .val (.int v0), .val (.int v1), .val (.int f0), .val (.int f1), .val (.ref b1), .val (.ref b31), .val (.ref b63), .val (.ref b95), .val (.ref pp)] [(.ref ko)]))
  have F159 : Old Z n0 T152.heap := (F154.keep Kq152 all0)
  refine own_gS X157 hx hZ hown (host := "") (Or.inl (hw _ (own_mi 64 rfl))) Via.refl eh157 (OO.ext F159.2) 191 (hb hby at_188) rfl ?_
  intro T160 X160 e160
  refine own_go (fun tq kq => Jvm.RoadKit.acmp (g := (mkF m 191 #[.val (.int i0), .val (.int i1), .val (.int i2), .val (.int i3), .val (.int c0), .val (.int c1), .val (.int v0), .val (.int v1), .val (.int f0), .val (.int f1), .val (.ref b1), .val (.ref b31), .val (.ref b63), .val (.ref b95), .val (.ref pp)] [(.ref ko), (.ref ko)])) X160 hx rfl rfl rfl (pc0 := 191) (pc' := 194) (same := true) rfl (hb hby at_191) rfl (decide_eq_true rfl) (by decide) (by decide) kq) ?_
  show own_Rn p e below _ (T160.setTop (mkF m 194 #[.val (.int i0), .val (.int i1), .val (.int i2), .val (.int i3), .val (.int c0), .val (.int c1), .val (.int v0), .val (.int v1), .val (.int f0), .val (.int f1), .val (.ref b1), .val (.ref b31), .val (.ref b63), .val (.ref b95), .val (.ref pp)] []))
  refine own_al X160 hx 196 (hb hby at_194) rfl rfl rfl ?_
  have Zn161 : n0 ≤ T152.heap.size := (Nat.le_trans Z0 le158)
  refine own_cV X160 hx hZ (y := (⟨"com/example/elodea/elodea/cli/Parameter", "getName", "()Ljava/lang/String;"⟩ : MethodName)) (z := (⟨"com/example/elodea/elodea/cli/Parameter", "getName", "()Ljava/lang/String;"⟩ : MethodName)) hown (hw _ (own_mi 65 rfl)) (hw _ (own_mi 66 rfl)) (notFace_of_selects (args := #[]) (mvT hZ (hw _ (own_mi 68 rfl)))) (hw _ (own_mi 68 rfl)) (hw _ (own_mi 67 rfl)) (hw _ (own_mi 69 rfl)) (hw _ (own_mi 32 rfl)) (by decide) (rmGN l Z a0 hw [] (pp) (b1) T152.heap n0 Zn161 G2_152) G0_152 e160 [] [] rfl (by rw [hml]; rfl) (lenOf own_pd_2829Ljava2flang2fString3b rfl) rfl 0 (Nat.le_of_eq rfl) (by decide) (by decide) (by decide : 13 + 0 ≤ _) (by decide : 50 + 0 ≤ _) 199 (hb hby at_196) rfl 13 50 rfl rfl ?_
  intro rv161 T161 Lc161 X161 hQ161
  obtain ⟨rfl, Nq161, eh161⟩ := hQ161
  have N161 := Fr.app N157 Nq161
  show own_Rn p e below _ (T161.setTop (mkF m 199 #[.val (.int i0), .val (.int i1), .val (.int i2), .val (.int i3), .val (.int c0), .val (.int c1), .val (.int v0), .val (.int v1), .val (.int f0), .val (.int f1), .val (.ref b1), .val (.ref b31), .val (.ref b63), .val (.ref b95), .val (.ref pp)] [(.ref b1)]))
  refine own_al X161 hx 201 (hb hby at_199) rfl rfl rfl ?_
  have F162 : Exa Z T152.heap b1 "java/lang/String" := (((((((((((((((((((((Ex24.ext E31).ext E37).wr W41).wr W44).keep Kq56).ext E63).ext E69).wr W73).wr W76).keep Kq88).ext E95).ext E101).wr W105).wr W108).wr W111).wr W114).wr W117).wr W120).wr W123).keep Kq140).keep Kq152)
  have le164 : h1.size ≤ h12.size := Nat.le_trans le26 sz14
  have le165 : h1.size ≤ T24.heap.size := Nat.le_trans le164 sz28
  have le166 : h1.size ≤ h31.size := Nat.le_trans le165 sz32
  have ne163 : b1 ≠ b37 := own_nea (Or.inl (Nat.lt_of_lt_of_le lt4 (Nat.le_trans le166 (Nat.le_of_eq g37.symm))))
  have ne167 : b1 ≠ b31 := own_nea (Or.inl (Nat.lt_of_lt_of_le lt4 (Nat.le_trans le165 (Nat.le_of_eq g31.symm))))
  have le169 : h1.size ≤ h37.size := Nat.le_trans le166 sz38
  have le170 : h1.size ≤ h41.size := Nat.le_trans le169 sz43
  have le171 : h1.size ≤ h44.size := Nat.le_trans le170 sz46
  have le172 : h1.size ≤ T56.heap.size := Nat.le_trans le171 sz60
  have le173 : h1.size ≤ h63.size := Nat.le_trans le172 sz64
  have ne168 : b1 ≠ b69 := own_nea (Or.inl (Nat.lt_of_lt_of_le lt4 (Nat.le_trans le173 (Nat.le_of_eq g69.symm))))
  have ne174 : b1 ≠ b63 := own_nea (Or.inl (Nat.lt_of_lt_of_le lt4 (Nat.le_trans le172 (Nat.le_of_eq g63.symm))))
  have le176 : h1.size ≤ h69.size := Nat.le_trans le173 sz70
  have le177 : h1.size ≤ h73.size := Nat.le_trans le176 sz75
  have le178 : h1.size ≤ h76.size := Nat.le_trans le177 sz78
  have le179 : h1.size ≤ T88.heap.size := Nat.le_trans le178 sz92
  have le180 : h1.size ≤ h95.size := Nat.le_trans le179 sz96
  have ne175 : b1 ≠ b101 := own_nea (Or.inl (Nat.lt_of_lt_of_le lt4 (Nat.le_trans le180 (Nat.le_of_eq g101.symm))))
  have ne181 : b1 ≠ b95 := own_nea (Or.inl (Nat.lt_of_lt_of_le lt4 (Nat.le_trans le179 (Nat.le_of_eq g95.symm))))
  have F182 : Fld Z T152.heap b1 "java/lang/String" "value" "[B" (.ref t15) := (((((((((((((((((((((Va24.ext E31).ext E37).other W41 (Or.inl ne163)).other W44 (Or.inl ne163)).keep Kq56 (ninS ne167 nin0)).ext E63).ext E69).other W73 (Or.inl ne168)).other W76 (Or.inl ne168)).keep Kq88 (ninS ne174 nin0)).ext E95).ext E101).other W105 (Or.inl ne175)).other W108 (Or.inl ne175)).other W111 (Or.inl ne175)).other W114 (Or.inl ne175)).other W117 (Or.inl ne175)).other W120 (Or.inl ne175)).other W123 (Or.inl ne175)).keep Kq140 (ninS ne181 nin0)).keep Kq152 nin0)
  have F183 : Fld Z T152.heap b1 "java/lang/String" "coder" "B" (.int (0 : Int32)) := (((((((((((((((((((((Co24.ext E31).ext E37).other W41 (Or.inl ne163)).other W44 (Or.inl ne163)).keep Kq56 (ninS ne167 nin0)).ext E63).ext E69).other W73 (Or.inl ne168)).other W76 (Or.inl ne168)).keep Kq88 (ninS ne174 nin0)).ext E95).ext E101).other W105 (Or.inl ne175)).other W108 (Or.inl ne175)).other W111 (Or.inl ne175)).other W114 (Or.inl ne175)).other W117 (Or.inl ne175)).other W120 (Or.inl ne175)).other W123 (Or.inl ne175)).keep Kq140 (ninS ne181 nin0)).keep Kq152 nin0)
  have ne184 : t15 ≠ b37 := own_nea (Or.inl (Nat.lt_of_lt_of_le lt30 (Nat.le_trans sz32 (Nat.le_of_eq g37.symm))))
  have ne185 : t15 ≠ b31 := own_nea (Or.inl (Nat.lt_of_lt_of_le lt30 (Nat.le_trans (Nat.le_refl _) (Nat.le_of_eq g31.symm))))
  have le187 : T24.heap.size ≤ h37.size := Nat.le_trans sz32 sz38
  have le188 : T24.heap.size ≤ h41.size := Nat.le_trans le187 sz43
  have le189 : T24.heap.size ≤ h44.size := Nat.le_trans le188 sz46
  have le190 : T24.heap.size ≤ T56.heap.size := Nat.le_trans le189 sz60
  have le191 : T24.heap.size ≤ h63.size := Nat.le_trans le190 sz64
  have ne186 : t15 ≠ b69 := own_nea (Or.inl (Nat.lt_of_lt_of_le lt30 (Nat.le_trans le191 (Nat.le_of_eq g69.symm))))
  have ne192 : t15 ≠ b63 := own_nea (Or.inl (Nat.lt_of_lt_of_le lt30 (Nat.le_trans le190 (Nat.le_of_eq g63.symm))))
  have le194 : T24.heap.size ≤ h69.size := Nat.le_trans le191 sz70
  have le195 : T24.heap.size ≤ h73.size := Nat.le_trans le194 sz75
  have le196 : T24.heap.size ≤ h76.size := Nat.le_trans le195 sz78
  have le197 : T24.heap.size ≤ T88.heap.size := Nat.le_trans le196 sz92
  have le198 : T24.heap.size ≤ h95.size := Nat.le_trans le197 sz96
  have ne193 : t15 ≠ b101 := own_nea (Or.inl (Nat.lt_of_lt_of_le lt30 (Nat.le_trans le198 (Nat.le_of_eq g101.symm))))
  have ne199 : t15 ≠ b95 := own_nea (Or.inl (Nat.lt_of_lt_of_le lt30 (Nat.le_trans le197 (Nat.le_of_eq g95.symm))))
  have F200 : Arv Z T152.heap t15 kb15 .byte (2 : Int32) ((([c0, c1] : List Int32).map (fun c => c.toInt8.toInt32)).map Value.int) (.int 0) := (((((((((((((((((((((Ab24.ext E31).ext E37).other W41 ne184).other W44 ne184).keep Kq56 (ninS ne185 nin0)).ext E63).ext E69).other W73 ne186).other W76 ne186).keep Kq88 (ninS ne192 nin0)).ext E95).ext E101).other W105 ne193).other W108 ne193).other W111 ne193).other W114 ne193).other W117 ne193).other W120 ne193).other W123 ne193).keep Kq140 (ninS ne199 nin0)).keep Kq152 nin0)
  refine own_pEq X161 hx hZ hown (hw _ (own_mi 70 rfl)) (hw _ (own_mi 71 rfl)) (notFace_of_selects (args := #[]) (mvT hZ (hw _ (own_mi 73 rfl)))) (hw _ (own_mi 73 rfl)) (hw _ (own_mi 72 rfl)) (lenOf own_pd_28Ljava2flang2fObject3b29Z rfl) heq (kI := 4) (hw _ (own_mi 1 rfl)) F162 F182 F183 F200 (cs := ([c0, c1] : List Int32)) (StrChars.Road.codOf (n := 2) rfl (fun c hc => (hp15 c hc).2)) (fun c hc => own_up c (hp15 c hc)) (Nat.le_of_ble_eq_true rfl) F162 F182 F183 F200 (ds := ([c0, c1] : List Int32)) (StrChars.Road.codOf (n := 2) rfl (fun c hc => (hp15 c hc).2)) (fun c hc => own_up c (hp15 c hc)) (Nat.le_of_ble_eq_true rfl) (O2.ext F159.2) P5 (by decide) 0 (by decide) eh161 [] (by rw [hml]; rfl) rfl (Nat.le_of_eq rfl) (by decide : 13 + 0 ≤ _) (by decide : 50 + 0 ≤ _) 204 (hb hby at_201) rfl ?_
  intro rv201 T201 X201 eh201 hv201
  have hw201 : rv201 = some (.int (1 : Int32)) := by rcases hv201 with h | h; exact h.1; exact absurd rfl h.2
  subst hw201
  show own_Rn p e below _ (T201.setTop (mkF m 204 #[.val (.int i0), .val (.int i1), .val (.int i2), .val (.int i3), .val (.int c0), .val (.int c1), .val (.int v0), .val (.int v1), .val (.int f0), .val (.int f1), .val (.ref b1), .val (.ref b31), .val (.ref b63), .val (.ref b95), .val (.ref pp)] [(.int (1 : Int32))]))
  refine own_ifN X201 hx 207 (hb hby at_204) rfl ((if0 _ _).trans (feq ((by decide : ¬ ((1 : Int32) = (0 : Int32))) : ¬ ((1 : Int32) = (0 : Int32)))).1) ?_
  refine own_al X201 hx 209 (hb hby at_207) rfl rfl rfl ?_
  have Zn202 : n0 ≤ T152.heap.size := (Nat.le_trans Z0 le158)
  refine own_cV X201 hx hZ (y := (⟨"com/example/elodea/elodea/cli/Parameter", "getDescription", "()Ljava/lang/String;"⟩ : MethodName)) (z := (⟨"com/example/elodea/elodea/cli/Parameter", "getDescription", "()Ljava/lang/String;"⟩ : MethodName)) hown (hw _ (own_mi 75 rfl)) (hw _ (own_mi 76 rfl)) (notFace_of_selects (args := #[]) (mvT hZ (hw _ (own_mi 78 rfl)))) (hw _ (own_mi 78 rfl)) (hw _ (own_mi 77 rfl)) (hw _ (own_mi 79 rfl)) (hw _ (own_mi 32 rfl)) (by decide) (rmGD l Z a0 hw [] (pp) (b63) T152.heap n0 Zn202 G8_152) G0_152 eh201 [] [] rfl (by rw [hml]; rfl) (lenOf own_pd_2829Ljava2flang2fString3b rfl) rfl 0 (Nat.le_of_eq rfl) (by decide) (by decide) (by decide : 13 + 0 ≤ _) (by decide : 50 + 0 ≤ _) 212 (hb hby at_209) rfl 13 50 rfl rfl ?_
  intro rv202 T202 Lc202 X202 hQ202
  obtain ⟨rfl, Nq202, eh202⟩ := hQ202
  have N202 := Fr.app N161 Nq202
  show own_Rn p e below _ (T202.setTop (mkF m 212 #[.val (.int i0), .val (.int i1), .val (.int i2), .val (.int i3), .val (.int c0), .val (.int c1), .val (.int v0), .val (.int v1), .val (.int f0), .val (.int f1), .val (.ref b1), .val (.ref b31), .val (.ref b63), .val (.ref b95), .val (.ref pp)] [(.ref b63)]))
  refine own_al X202 hx 214 (hb hby at_212) rfl rfl rfl ?_
  have F203 : Exa Z T152.heap b63 "java/lang/String" := (((((((((((Ex88.ext E95).ext E101).wr W105).wr W108).wr W111).wr W114).wr W117).wr W120).wr W123).keep Kq140).keep Kq152)
  have le205 : h63.size ≤ h76.size := Nat.le_trans le90 sz78
  have le206 : h63.size ≤ T88.heap.size := Nat.le_trans le205 sz92
  have le207 : h63.size ≤ h95.size := Nat.le_trans le206 sz96
  have ne204 : b63 ≠ b101 := own_nea (Or.inl (Nat.lt_of_lt_of_le lt66 (Nat.le_trans le207 (Nat.le_of_eq g101.symm))))
  have ne208 : b63 ≠ b95 := own_nea (Or.inl (Nat.lt_of_lt_of_le lt66 (Nat.le_trans le206 (Nat.le_of_eq g95.symm))))
  have F209 : Fld Z T152.heap b63 "java/lang/String" "value" "[B" (.ref t79) := (((((((((((Va88.ext E95).ext E101).other W105 (Or.inl ne204)).other W108 (Or.inl ne204)).other W111 (Or.inl ne204)).other W114 (Or.inl ne204)).other W117 (Or.inl ne204)).other W120 (Or.inl ne204)).other W123 (Or.inl ne204)).keep Kq140 (ninS ne208 nin0)).keep Kq152 nin0)
  have F210 : Fld Z T152.heap b63 "java/lang/String" "coder" "B" (.int (0 : Int32)) := (((((((((((Co88.ext E95).ext E101).other W105 (Or.inl ne204)).other W108 (Or.inl ne204)).other W111 (Or.inl ne204)).other W114 (Or.inl ne204)).other W117 (Or.inl ne204)).other W120 (Or.inl ne204)).other W123 (Or.inl ne204)).keep Kq140 (ninS ne208 nin0)).keep Kq152 nin0)
  have ne211 : t79 ≠ b101 := own_nea (Or.inl (Nat.lt_of_lt_of_le lt94 (Nat.le_trans sz96 (Nat.le_of_eq g101.symm))))
  have ne212 : t79 ≠ b95 := own_nea (Or.inl (Nat.lt_of_lt_of_le lt94 (Nat.le_trans (Nat.le_refl _) (Nat.le_of_eq g95.symm))))
  have F213 : Arv Z T152.heap t79 kb79 .byte (2 : Int32) ((([f0, f1] : List Int32).map (fun c => c.toInt8.toInt32)).map Value.int) (.int 0) := (((((((((((Ab88.ext E95).ext E101).other W105 ne211).other W108 ne211).other W111 ne211).other W114 ne211).other W117 ne211).other W120 ne211).other W123 ne211).keep Kq140 (ninS ne212 nin0)).keep Kq152 nin0)
  refine own_pEq X202 hx hZ hown (hw _ (own_mi 70 rfl)) (hw _ (own_mi 71 rfl)) (notFace_of_selects (args := #[]) (mvT hZ (hw _ (own_mi 73 rfl)))) (hw _ (own_mi 73 rfl)) (hw _ (own_mi 72 rfl)) (lenOf own_pd_28Ljava2flang2fObject3b29Z rfl) heq (kI := 4) (hw _ (own_mi 1 rfl)) F203 F209 F210 F213 (cs := ([f0, f1] : List Int32)) (StrChars.Road.codOf (n := 2) rfl (fun c hc => (hp79 c hc).2)) (fun c hc => own_up c (hp79 c hc)) (Nat.le_of_ble_eq_true rfl) F203 F209 F210 F213 (ds := ([f0, f1] : List Int32)) (StrChars.Road.codOf (n := 2) rfl (fun c hc => (hp79 c hc).2)) (fun c hc => own_up c (hp79 c hc)) (Nat.le_of_ble_eq_true rfl) (O2.ext F159.2) P5 (by decide) 0 (by decide) eh202 [] (by rw [hml]; rfl) rfl (Nat.le_of_eq rfl) (by decide : 13 + 0 ≤ _) (by decide : 50 + 0 ≤ _) 217 (hb hby at_214) rfl ?_
  intro rv214 T214 X214 eh214 hv214
  have hw214 : rv214 = some (.int (1 : Int32)) := by rcases hv214 with h | h; exact h.1; exact absurd rfl h.2
  subst hw214
  show own_Rn p e below _ (T214.setTop (mkF m 217 #[.val (.int i0), .val (.int i1), .val (.int i2), .val (.int i3), .val (.int c0), .val (.int c1), .val (.int v0), .val (.int v1), .val (.int f0), .val (.int f1), .val (.ref b1), .val (.ref b31), .val (.ref b63), .val (.ref b95), .val (.ref pp)] [(.int (1 : Int32))]))
  refine own_ifN X214 hx 220 (hb hby at_217) rfl ((if0 _ _).trans (feq ((by decide : ¬ ((1 : Int32) = (0 : Int32))) : ¬ ((1 : Int32) = (0 : Int32)))).1) ?_
  refine own_al X214 hx 222 (hb hby at_220) rfl rfl rfl ?_
  have Zn215 : n0 ≤ T152.heap.size := (Nat.le_trans Z0 le158)
  refine own_cV X214 hx hZ (y := (⟨"com/example/elodea/elodea/cli/Parameter", "getLeast", "()I"⟩ : MethodName)) (z := (⟨"com/example/elodea/elodea/cli/Parameter", "getLeast", "()I"⟩ : MethodName)) hown (hw _ (own_mi 80 rfl)) (hw _ (own_mi 81 rfl)) (notFace_of_selects (args := #[]) (mvT hZ (hw _ (own_mi 83 rfl)))) (hw _ (own_mi 83 rfl)) (hw _ (own_mi 82 rfl)) (hw _ (own_mi 84 rfl)) (hw _ (own_mi 32 rfl)) (by decide) (rmGL l Z a0 hw [] (pp) T152.heap n0 Zn215 G5_152) G0_152 eh214 [] [] rfl (by rw [hml]; rfl) (lenOf own_pd_2829I rfl) rfl 0 (Nat.le_of_eq rfl) (by decide) (by decide) (by decide : 13 + 0 ≤ _) (by decide : 50 + 0 ≤ _) 225 (hb hby at_222) rfl 13 50 rfl rfl ?_
  intro rv215 T215 Lc215 X215 hQ215
  obtain ⟨rfl, Nq215, eh215⟩ := hQ215
  have N215 := Fr.app N202 Nq215
  show own_Rn p e below _ (T215.setTop (mkF m 225 #[.val (.int i0), .val (.int i1), .val (.int i2), .val (.int i3), .val (.int c0), .val (.int c1), .val (.int v0), .val (.int v1), .val (.int f0), .val (.int f1), .val (.ref b1), .val (.ref b31), .val (.ref b63), .val (.ref b95), .val (.ref pp)] [(.int (0 : Int32))]))
  refine own_ifN X215 hx 228 (hb hby at_225) rfl ((if0 _ _).trans (teq ((by decide : (0 : Int32) = (0 : Int32)) : (0 : Int32) = (0 : Int32))).2) ?_
  refine own_al X215 hx 230 (hb hby at_228) rfl rfl rfl ?_
  have Zn216 : n0 ≤ T152.heap.size := (Nat.le_trans Z0 le158)
  refine own_cV X215 hx hZ (y := (⟨"com/example/elodea/elodea/cli/Parameter", "isRepeated", "()Z"⟩ : MethodName)) (z := (⟨"com/example/elodea/elodea/cli/Parameter", "isRepeated", "()Z"⟩ : MethodName)) hown (hw _ (own_mi 85 rfl)) (hw _ (own_mi 86 rfl)) (notFace_of_selects (args := #[]) (mvT hZ (hw _ (own_mi 88 rfl)))) (hw _ (own_mi 88 rfl)) (hw _ (own_mi 87 rfl)) (hw _ (own_mi 89 rfl)) (hw _ (own_mi 32 rfl)) (by decide) (rmGR l Z a0 hw [] (pp) T152.heap n0 Zn216 G6_152) G0_152 eh215 [] [] rfl (by rw [hml]; rfl) (lenOf own_pd_2829Z rfl) rfl 0 (Nat.le_of_eq rfl) (by decide) (by decide) (by decide : 13 + 0 ≤ _) (by decide : 50 + 0 ≤ _) 233 (hb hby at_230) rfl 13 50 rfl rfl ?_
  intro rv216 T216 Lc216 X216 hQ216
  obtain ⟨rfl, Nq216, eh216⟩ := hQ216
  have N216 := Fr.app N215 Nq216
  show own_Rn p e below _ (T216.setTop (mkF m 233 #[.val (.int i0), .val (.int i1), .val (.int i2), .val (.int i3), .val (.int c0), .val (.int c1), .val (.int v0), .val (.int v1), .val (.int f0), .val (.int f1), .val (.ref b1), .val (.ref b31), .val (.ref b63), .val (.ref b95), .val (.ref pp)] [(.int (0 : Int32))]))
  refine own_ifN X216 hx 236 (hb hby at_233) rfl ((if0 _ _).trans (teq ((by decide : (0 : Int32) = (0 : Int32)) : (0 : Int32) = (0 : Int32))).2) ?_
  refine own_al X216 hx 238 (hb hby at_236) rfl rfl rfl ?_
  have Zn217 : n0 ≤ T152.heap.size := (Nat.le_trans Z0 le158)
  refine own_cV X216 hx hZ (y := (⟨"com/example/elodea/elodea/cli/Parameter", "isStandIn", "()Z"⟩ : MethodName)) (z := (⟨"com/example/elodea/elodea/cli/Parameter", "isStandIn", "()Z"⟩ : MethodName)) hown (hw _ (own_mi 90 rfl)) (hw _ (own_mi 91 rfl)) (notFace_of_selects (args := #[]) (mvT hZ (hw _ (own_mi 93 rfl)))) (hw _ (own_mi 93 rfl)) (hw _ (own_mi 92 rfl)) (hw _ (own_mi 94 rfl)) (hw _ (own_mi 32 rfl)) (by decide) (rmGS l Z a0 hw [] (pp) T152.heap n0 Zn217 G7_152) G0_152 eh216 [] [] rfl (by rw [hml]; rfl) (lenOf own_pd_2829Z rfl) rfl 0 (Nat.le_of_eq rfl) (by decide) (by decide) (by decide : 13 + 0 ≤ _) (by decide : 50 + 0 ≤ _) 241 (hb hby at_238) rfl 13 50 rfl rfl ?_
  intro rv217 T217 Lc217 X217 hQ217
  obtain ⟨rfl, Nq217, eh217⟩ := hQ217
  have N217 := Fr.app N216 Nq217
  show own_Rn p e below _ (T217.setTop (mkF m 241 #[.val (.int i0), .val (.int i1), .val (.int i2), .val (.int i3), .val (.int c0), .val (.int c1), .val (.int v0), .val (.int v1), .val (.int f0), .val (.int f1), .val (.ref b1), .val (.ref b31), .val (.ref b63), .val (.ref b95), .val (.ref pp)] [(.int (0 : Int32))]))
  refine own_ifN X217 hx 244 (hb hby at_241) rfl ((if0 _ _).trans (teq ((by decide : (0 : Int32) = (0 : Int32)) : (0 : Int32) = (0 : Int32))).2) ?_
  refine own_al X217 hx 246 (hb hby at_244) rfl rfl rfl ?_
  refine own_iln X217 hx 247 (hb hby at_246) rfl rfl ?_
  have Zn218 : n0 ≤ T152.heap.size := (Nat.le_trans Z0 le158)
  refine own_cV X217 hx hZ (y := (⟨"com/example/elodea/elodea/cli/Parameter", "getWordName", "(I)Ljava/lang/String;"⟩ : MethodName)) (z := (⟨"com/example/elodea/elodea/cli/Parameter", "getWordName", "(I)Ljava/lang/String;"⟩ : MethodName)) hown (hw _ (own_mi 95 rfl)) (hw _ (own_mi 96 rfl)) (notFace_of_selects (args := #[]) (mvT hZ (hw _ (own_mi 98 rfl)))) (hw _ (own_mi 98 rfl)) (hw _ (own_mi 97 rfl)) (hw _ (own_mi 99 rfl)) (hw _ (own_mi 32 rfl)) (by decide) (rmWN l Z a0 hw [] (pp) (b31) (i3) T152.heap n0 Zn218 G6_152 G3_152) G0_152 eh217 [(.int i3)] [] rfl (by rw [hml]; rfl) (lenOf own_pd_28I29Ljava2flang2fString3b rfl) rfl 0 (Nat.le_of_eq rfl) (by decide) (by decide) (by decide : 13 + 0 ≤ _) (by decide : 50 + 0 ≤ _) 250 (hb hby at_247) rfl 13 50 rfl rfl ?_
  intro rv218 T218 Lc218 X218 hQ218
  obtain ⟨rfl, Nq218, eh218⟩ := hQ218
  have N218 := Fr.app N217 Nq218
  show own_Rn p e below _ (T218.setTop (mkF m 250 #[.val (.int i0), .val (.int i1), .val (.int i2), .val (.int i3), .val (.int c0), .val (.int c1), .val (.int v0), .val (.int v1), .val (.int f0), .val (.int f1), .val (.ref b1), .val (.ref b31), .val (.ref b63), .val (.ref b95), .val (.ref pp)] [(.ref b31)]))
  refine own_al X218 hx 252 (hb hby at_250) rfl rfl rfl ?_
  have F219 : Exa Z T152.heap b31 "java/lang/String" := ((((((((((((((((Ex56.ext E63).ext E69).wr W73).wr W76).keep Kq88).ext E95).ext E101).wr W105).wr W108).wr W111).wr W114).wr W117).wr W120).wr W123).keep Kq140).keep Kq152)
  have le221 : h31.size ≤ h44.size := Nat.le_trans le58 sz46
  have le222 : h31.size ≤ T56.heap.size := Nat.le_trans le221 sz60
  have le223 : h31.size ≤ h63.size := Nat.le_trans le222 sz64
  have ne220 : b31 ≠ b69 := own_nea (Or.inl (Nat.lt_of_lt_of_le lt34 (Nat.le_trans le223 (Nat.le_of_eq g69.symm))))
  have ne224 : b31 ≠ b63 := own_nea (Or.inl (Nat.lt_of_lt_of_le lt34 (Nat.le_trans le222 (Nat.le_of_eq g63.symm))))
  have le226 : h31.size ≤ h69.size := Nat.le_trans le223 sz70
  have le227 : h31.size ≤ h73.size := Nat.le_trans le226 sz75
  have le228 : h31.size ≤ h76.size := Nat.le_trans le227 sz78
  have le229 : h31.size ≤ T88.heap.size := Nat.le_trans le228 sz92
  have le230 : h31.size ≤ h95.size := Nat.le_trans le229 sz96
  have ne225 : b31 ≠ b101 := own_nea (Or.inl (Nat.lt_of_lt_of_le lt34 (Nat.le_trans le230 (Nat.le_of_eq g101.symm))))
  have ne231 : b31 ≠ b95 := own_nea (Or.inl (Nat.lt_of_lt_of_le lt34 (Nat.le_trans le229 (Nat.le_of_eq g95.symm))))
  have F232 : Fld Z T152.heap b31 "java/lang/String" "value" "[B" (.ref t47) := ((((((((((((((((Va56.ext E63).ext E69).other W73 (Or.inl ne220)).other W76 (Or.inl ne220)).keep Kq88 (ninS ne224 nin0)).ext E95).ext E101).other W105 (Or.inl ne225)).other W108 (Or.inl ne225)).other W111 (Or.inl ne225)).other W114 (Or.inl ne225)).other W117 (Or.inl ne225)).other W120 (Or.inl ne225)).other W123 (Or.inl ne225)).keep Kq140 (ninS ne231 nin0)).keep Kq152 nin0)
  have F233 : Fld Z T152.heap b31 "java/lang/String" "coder" "B" (.int (0 : Int32)) := ((((((((((((((((Co56.ext E63).ext E69).other W73 (Or.inl ne220)).other W76 (Or.inl ne220)).keep Kq88 (ninS ne224 nin0)).ext E95).ext E101).other W105 (Or.inl ne225)).other W108 (Or.inl ne225)).other W111 (Or.inl ne225)).other W114 (Or.inl ne225)).other W117 (Or.inl ne225)).other W120 (Or.inl ne225)).other W123 (Or.inl ne225)).keep Kq140 (ninS ne231 nin0)).keep Kq152 nin0)
  have ne234 : t47 ≠ b69 := own_nea (Or.inl (Nat.lt_of_lt_of_le lt62 (Nat.le_trans sz64 (Nat.le_of_eq g69.symm))))
  have ne235 : t47 ≠ b63 := own_nea (Or.inl (Nat.lt_of_lt_of_le lt62 (Nat.le_trans (Nat.le_refl _) (Nat.le_of_eq g63.symm))))
  have le237 : T56.heap.size ≤ h69.size := Nat.le_trans sz64 sz70
  have le238 : T56.heap.size ≤ h73.size := Nat.le_trans le237 sz75
  have le239 : T56.heap.size ≤ h76.size := Nat.le_trans le238 sz78
  have le240 : T56.heap.size ≤ T88.heap.size := Nat.le_trans le239 sz92
  have le241 : T56.heap.size ≤ h95.size := Nat.le_trans le240 sz96
  have ne236 : t47 ≠ b101 := own_nea (Or.inl (Nat.lt_of_lt_of_le lt62 (Nat.le_trans le241 (Nat.le_of_eq g101.symm))))
  have ne242 : t47 ≠ b95 := own_nea (Or.inl (Nat.lt_of_lt_of_le lt62 (Nat.le_trans le240 (Nat.le_of_eq g95.symm))))
  have F243 : Arv Z T152.heap t47 kb47 .byte (2 : Int32) ((([v0, v1] : List Int32).map (fun c => c.toInt8.toInt32)).map Value.int) (.int 0) := ((((((((((((((((Ab56.ext E63).ext E69).other W73 ne234).other W76 ne234).keep Kq88 (ninS ne235 nin0)).ext E95).ext E101).other W105 ne236).other W108 ne236).other W111 ne236).other W114 ne236).other W117 ne236).other W120 ne236).other W123 ne236).keep Kq140 (ninS ne242 nin0)).keep Kq152 nin0)
  refine own_pEq X218 hx hZ hown (hw _ (own_mi 70 rfl)) (hw _ (own_mi 71 rfl)) (notFace_of_selects (args := #[]) (mvT hZ (hw _ (own_mi 73 rfl)))) (hw _ (own_mi 73 rfl)) (hw _ (own_mi 72 rfl)) (lenOf own_pd_28Ljava2flang2fObject3b29Z rfl) heq (kI := 4) (hw _ (own_mi 1 rfl)) F219 F232 F233 F243 (cs := ([v0, v1] : List Int32)) (StrChars.Road.codOf (n := 2) rfl (fun c hc => (hp47 c hc).2)) (fun c hc => own_up c (hp47 c hc)) (Nat.le_of_ble_eq_true rfl) F219 F232 F233 F243 (ds := ([v0, v1] : List Int32)) (StrChars.Road.codOf (n := 2) rfl (fun c hc => (hp47 c hc).2)) (fun c hc => own_up c (hp47 c hc)) (Nat.le_of_ble_eq_true rfl) (O2.ext F159.2) P5 (by decide) 0 (by decide) eh218 [] (by rw [hml]; rfl) rfl (Nat.le_of_eq rfl) (by decide : 13 + 0 ≤ _) (by decide : 50 + 0 ≤ _) 255 (hb hby at_252) rfl ?_
  intro rv244 T244 X244 eh244 hv244
  have hw244 : rv244 = some (.int (1 : Int32)) := by rcases hv244 with h | h; exact h.1; exact absurd rfl h.2
  subst hw244
  show own_Rn p e below _ (T244.setTop (mkF m 255 #[.val (.int i0), .val (.int i1), .val (.int i2), .val (.int i3), .val (.int c0), .val (.int c1), .val (.int v0), .val (.int v1), .val (.int f0), .val (.int f1), .val (.ref b1), .val (.ref b31), .val (.ref b63), .val (.ref b95), .val (.ref pp)] [(.int (1 : Int32))]))
  refine own_ifN X244 hx 258 (hb hby at_255) rfl ((if0 _ _).trans (feq ((by decide : ¬ ((1 : Int32) = (0 : Int32))) : ¬ ((1 : Int32) = (0 : Int32)))).1) ?_
  refine own_al X244 hx 260 (hb hby at_258) rfl rfl rfl ?_
  have Zn245 : n0 ≤ T152.heap.size := (Nat.le_trans Z0 le158)
  refine own_sV X244 hx hZ (y := (⟨"com/example/elodea/elodea/cli/Parameter", "getUsage", "()Ljava/lang/String;"⟩ : MethodName)) (rm := ({ frames := 7, cells := 8, slots := 59, locals := 113 } : Room)) (sf := []) (z := (⟨"com/example/elodea/elodea/cli/Parameter", "getUsage", "()Ljava/lang/String;"⟩ : MethodName)) hown (hw _ (own_mi 100 rfl)) (hw _ (own_mi 101 rfl)) (notFace_of_selects (args := #[]) (mvT hZ (hw _ (own_mi 103 rfl)))) (hw _ (own_mi 103 rfl)) (hw _ (own_mi 102 rfl)) (hw _ (own_mi 104 rfl)) (hw _ (own_mi 32 rfl)) (by decide) (rmUs l Z a0 hw [] (pp) (b1) (t15) (kb15) (b31) (t47) (kb47) (c0) (c1) (v0) (v1) (ko) (G1) T152.heap n0 Zn245 hEL G0_152 G4_152 G1_152 G2_152 G3_152 F162 F182 F183 F200 F219 F232 F233 F243 (OO) (O2) (P5) F159) hEL CR155.1 sf0 G0_152 eh244 [] [] rfl (by rw [hml]; rfl) (lenOf own_pd_2829Ljava2flang2fString3b rfl) rfl 0 (Nat.le_of_eq rfl) (by decide) (by decide) (by decide : 13 + 8 ≤ _) (by decide : 50 + 59 ≤ _) 263 (hb hby at_260) rfl 21 109 rfl rfl ?_
  intro rv245 T245 Lc245 X245 hS245 hG245 hQ245 CR245q
  obtain ⟨xu, tu, ku, rfl, Nq245, Kq245, G0_245, G1_245, G2_245, G3_245⟩ := hQ245
  have N245 := Fr.app N218 Nq245
  obtain ⟨Xr245, hSr245, hZ245, hown245⟩ := rebS hS0 (n1 := T244.heap.size) (by rw [eh244]; omega) X245 hS245 hG245 hZ hown
  have sz246 : T152.heap.size ≤ T245.heap.size := Kq245.1
  have cr246 : CHr Z consts_1 s.vm T152.heap T245.vm T245.heap := CR245q
  have CR246 := CR155.trans cr246
  have lt247 : @LT.lt Nat _ xu T245.heap.size := G0_245.lt
  have lt248 : @LT.lt Nat _ tu T245.heap.size := G3_245.lt
  show own_Rn p e below _ (T245.setTop (mkF m 263 #[.val (.int i0), .val (.int i1), .val (.int i2), .val (.int i3), .val (.int c0), .val (.int c1), .val (.int v0), .val (.int v1), .val (.int f0), .val (.int f1), .val (.ref b1), .val (.ref b31), .val (.ref b63), .val (.ref b95), .val (.ref pp)] [(.ref xu)]))
  refine own_al Xr245 hx 265 (hb hby at_263) rfl rfl rfl ?_
  have F249 : Exa Z T245.heap b95 "java/lang/String" := ((Ex140.keep Kq152).keep Kq245)
  have F250 : Fld Z T245.heap b95 "java/lang/String" "value" "[B" (.ref t126) := ((Va140.keep Kq152 nin0).keep Kq245 nin0)
  have F251 : Fld Z T245.heap b95 "java/lang/String" "coder" "B" (.int (0 : Int32)) := ((Co140.keep Kq152 nin0).keep Kq245 nin0)
  have F252 : Arv Z T245.heap t126 kb126 .byte (7 : Int32) ((([(45 : Int32), (45 : Int32), c0, c1, (32 : Int32), v0, v1] : List Int32).map (fun c => c.toInt8.toInt32)).map Value.int) (.int 0) := ((Ab140.keep Kq152 nin0).keep Kq245 nin0)
  have F253 : Old Z n0 T245.heap := (F159.keep Kq245 all0)
  refine own_pEq Xr245 hx hZ245 hown245 (hw _ (own_mi 70 rfl)) (hw _ (own_mi 71 rfl)) (notFace_of_selects (args := #[]) (mvT hZ245 (hw _ (own_mi 73 rfl)))) (hw _ (own_mi 73 rfl)) (hw _ (own_mi 72 rfl)) (lenOf own_pd_28Ljava2flang2fObject3b29Z rfl) heq (kI := 4) (hw _ (own_mi 1 rfl)) G0_245 G1_245 G2_245 G3_245 (cs := ([(45 : Int32), (45 : Int32), c0, c1, (32 : Int32), v0, v1] : List Int32)) (StrChars.Road.codOf (n := 7) rfl (fun c hc => (hp126 c hc).2)) (fun c hc => own_up c (hp126 c hc)) (Nat.le_of_ble_eq_true rfl) F249 F250 F251 F252 (ds := ([(45 : Int32), (45 : Int32), c0, c1, (32 : Int32), v0, v1] : List Int32)) (StrChars.Road.codOf (n := 7) rfl (fun c hc => (hp126 c hc).2)) (fun c hc => own_up c (hp126 c hc)) (Nat.le_of_ble_eq_true rfl) (O2.ext F253.2) P5 (by decide) 0 (by decide) rfl [] (by rw [hml]; rfl) rfl (Nat.le_of_eq rfl) (by decide : 21 + 0 ≤ _) (by decide : 109 + 0 ≤ _) 268 (hb hby at_265) rfl ?_
  intro rv254 T254 X254 eh254 hv254
  have hw254 : rv254 = some (.int (1 : Int32)) := by rcases hv254 with h | h; exact h.1; exact absurd rfl h.2
  subst hw254
  show own_Rn p e below _ (T254.setTop (mkF m 268 #[.val (.int i0), .val (.int i1), .val (.int i2), .val (.int i3), .val (.int c0), .val (.int c1), .val (.int v0), .val (.int v1), .val (.int f0), .val (.int f1), .val (.ref b1), .val (.ref b31), .val (.ref b63), .val (.ref b95), .val (.ref pp)] [(.int (1 : Int32))]))
  refine own_ifN X254 hx 271 (hb hby at_268) rfl ((if0 _ _).trans (feq ((by decide : ¬ ((1 : Int32) = (0 : Int32))) : ¬ ((1 : Int32) = (0 : Int32)))).1) ?_
  refine own_ic X254 hx (1 : Int32) 272 (hb hby at_271) rfl rfl ?_
  refine own_gt X254 hx 276 (hb hby at_272) (by decide) (by decide) ?_
  exact own_retS X254 hSr245 (by rw [eh254]; omega) (v := some (.int (nar .boolean (1 : Int32)))) (fun h => by rw [Bd.returns] at h; cases h) (fun fs hr => retN X254 hx (t := .boolean) Bd.returns (by simp) (hb hby at_276) hr) (by rw [eh254]; exact ⟨rfl, N245⟩) (by rw [hh, eh254]; exact CR246.trans (CHv.at X254 hZ245 hEL CR246.1)) (by decide) (by decide)
set_option maxRecDepth 65536 in
set_option maxHeartbeats 40000000 in
theorem comes_1 {Post : Tables → Env → Array Value → State → Outcome → State → Prop} (hpost : ∀ tb e args s v u, (limb_1_1.after args s (.returned v) u = true ∧ limb_1_2.after args s (.returned v) u = true ∧ True) → ReturnedEndW s (.returned v) u (Jvm.fieldLocs frame_1_writes args s ++ Jvm.arrayLocs frame_1_arrays args s ++ Jvm.staticLocs frame_1_statics s) 48 2304 → Post tb e args s (.returned v) u) :
    ArmFor flags0 classFile x code maxLocals ret World_1 tables_1 room_1 Calls_1 rest_1 Pre_1 Post := by
  intro l hfl _ _ p e ha hc hk s m args below hf hA hF happ hP
  obtain ⟨hcalls, hrest, hpre⟩ := hP
  obtain ⟨-, -, -, hnamed, -, -, -, hat⟩ := (Spec.applies_iff hf).mp happ
  obtain ⟨hg, hn⟩ := and_e (Cond.before_iff.mp (show (Jvm.Cond.and given_1 narrow_1).before args s = true from hpre))
  obtain ⟨h1, hr⟩ := and_e hg
  obtain ⟨w0, w1, w2, w3, rfl⟩ : ∃ w0 w1 w2 w3 : Value, args = #[w0, w1, w2, w3] := by
    have hs : args.size = 4 := by simpa [Cond.value, given_1] using h1
    obtain ⟨L⟩ := args
    match L, hs with
    | [w0, w1, w2, w3], _ => exact ⟨w0, w1, w2, w3, rfl⟩
  have hw := fun d (hd : d ∈ tables_1) => atoms_spec (ws := Jvm.Cond.code x code maxLocals ret :: tables_1) hat d (List.mem_cons_of_mem _ hd)
  have hfit : Fit s := fun {y c} hc i hi => by
    obtain ⟨ha, rfl⟩ := Array.getElem?_eq_some_iff.mp hc
    have q := List.all_eq_true.mp ((Array.all_eq_true_iff_forall_mem.mp hF) _ (Array.getElem_mem ha)) i (List.mem_range.mpr hi)
    simpa [Array.getElem?_eq_getElem hi] using q
  obtain ⟨ha0, hr⟩ := and_e hr
  obtain ⟨i0, ee0⟩ := is_v ha0
  obtain rfl : w0 = (.int i0) := Option.some.inj ee0
  obtain ⟨ha1, hr⟩ := and_e hr
  obtain ⟨i1, ee1⟩ := is_v ha1
  obtain rfl : w1 = (.int i1) := Option.some.inj ee1
  obtain ⟨ha2, hr⟩ := and_e hr
  obtain ⟨i2, ee2⟩ := is_v ha2
  obtain rfl : w2 = (.int i2) := Option.some.inj ee2
  obtain ⟨i3, ee3⟩ := is_v hr
  obtain rfl : w3 = (.int i3) := Option.some.inj ee3
  obtain ⟨hsets, hown0⟩ := atoms_of _ (rest_1_c_eq ▸ (show rest_1_c.before _ s = true from hrest))
  have n5 := not_v (Cond.before_iff.mp (hsets _ (List.mem_of_getElem? (i := 2) rfl)))
  obtain ⟨G1, e10⟩ := is_v (Cond.before_iff.mp (hsets _ (List.mem_of_getElem? (i := 1) rfl)))
  have O2 : Sta s s.heap "java/lang/String" "COMPACT_STRINGS" "Z" (.int G1) := Sta.start e10 (Or.inl (hsets _ (List.mem_of_getElem? (i := 0) rfl)))
  obtain ⟨G3, e14, rG3⟩ := isR_v (Cond.before_iff.mp (hsets _ (List.mem_of_getElem? (i := 8) rfl)))
  have O4 : Sta s s.heap "jdk/internal/util/Preconditions" "SIOOBE_FORMATTER" "Ljava/util/function/BiFunction;" G3 := Sta.start e14 (Or.inl (hsets _ (List.mem_of_getElem? (i := 7) rfl)))
  have P5 : ¬ (G1 = (0 : Int32)) := gotF (Cond.eq_ints e10 (Term.int_eval (0))) n5
  obtain ⟨ko, eo⟩ := exa_v hn
  have OO : Sta s s.heap "com/example/elodea/elodea/cli/Parameter$Kind" "OPTION" "Lcom/example/elodea/elodea/cli/Parameter$Kind;" (.ref ko) := Sta.start eo (Or.inr ⟨(hw _ (own_mi 37 rfl)), (hw _ (own_mi 38 rfl))⟩)
  have hEL : EW s #[(.int i0), (.int i1), (.int i2), (.int i3)] consts_1 := (EW.cons (hw _ (own_mi 128 rfl)) (by decide) (EW.cons (hw _ (own_mi 178 rfl)) (by decide) EW.nil))
  have hH : CHv s consts_1 s.vm s.heap := CHv.start hEL (fun p hp => hcalls.1 p hp) (hsets _ (List.mem_of_getElem? (i := 2) rfl)) (hw _ (own_mi 19 rfl)) (hw _ (own_mi 1 rfl))
  obtain ⟨n, o, h1, h2, h3, _, L, rfl, ⟨rfl, N⟩, -, hq⟩ := rm0 l s _ hw tables_1 i0 i1 i2 i3 G1 ko s.heap s.heap.size (Nat.le_refl _) hEL O2 P5 (Old.start s) OO p e ha hc hk s m _ below hf ((Spec.applies_iff_loose hf).mp happ).1 ⟨rfl, State.Warmed39.refl s, rfl, hH, fun x hx => nomatch hx⟩ trivial
  refine ⟨n, _, h1, h2, h3, hpost _ _ _ _ _ _ ⟨Cond.after_iff.mpr rfl, Cond.after_iff.mpr (eq_i res_at (Term.int_eval (1)) rfl), trivial⟩ ⟨hq.1, hq.2.1, hq.2.2.1, (hq.2.2.2.sift fun y hy => Or.inr (N y hy)).mono (by decide) (by decide)⟩⟩
theorem main_1_1 : Claimed_1_1 := comes_1 fun _ _ _ _ _ _ h hF => ⟨h.1, hF⟩
theorem main_1_2 : Claimed_1_2 := comes_1 fun _ _ _ _ _ _ h hF => ⟨h.2.1, hF⟩
end Jvm.Pilot.@@N@@
namespace Jvm.Pilot.@@N@@
open Jvm Jvm.ClassFile Sem Op Lib Jvm.Free Jvm.Stand Jvm.Pilot.@@N@@.Jvm.D
/-! MADE BY PROGRAM (witnessworld.py) out of the Statement's table words and the real class files: 28 classes; the members and pool entries that the words name. The judged class is class 1, her method 1. -/
namespace start1
open Jvm.ClassFile
def u (s : String) : CpInfo := .utf8 (stringToUtf16 s)
/-- a pool by its gaps: so many unusable entries, then the entry; so many at the end -/
def gap : Nat → List CpInfo → List CpInfo
  | 0, r => r
  | n + 1, r => .unusable :: gap n r
def poolList (es : List (Nat × CpInfo)) (last : Nat) : List CpInfo := es.foldr (fun e r => gap e.1 (e.2 :: r)) (gap last [])
def pool (es : List (Nat × CpInfo)) (last : Nat) : Array CpInfo := ⟨poolList es last⟩
def fileOf (pool : Array CpInfo) (this : Nat) (attrs : Array Attribute := #[]) (ms : Array MethodInfo := #[]) (fl : Nat := 33) (sup : Nat := 0) (ifs : Array Nat := #[]) (fds : Array FieldInfo := #[]) : ClassFile where
  minorVersion := 0
  majorVersion := 65
  constantPool := pool
  accessFlags := fl
  thisClass := this
  superClass := sup
  interfaces := ifs
  fields := fds
  methods := ms
  attributes := attrs
def plain (name : String) (sup : Option ClassId) : Class where
  name := name
  kind := .ordinary
  loader := none
  accessFlags := 33
  super := sup
  interfaces := #[]
  cf := none
  fields := #[]
  methods := #[]
  instanceTypes := #[]
  staticTypes := #[]
  resolved := #[]
  callSites := []
  init := .initialized
  statics := none
  mirror := none

def pool0 : Array CpInfo := pool [(5, u "<init>"), (0, u "()V"), (1, .class_ 10), (1, u "java/lang/Object")] 113

def k0c0 : Code := { maxStack := 0, maxLocals := 1, code := object_method_1_code, exceptionTable := #[], attributes := #[] }
def k0m0 : Method := { name := "<init>", desc := "()V", sig := { parameters := [], returnType := none }, accessFlags := 1, code := some k0c0 }
/-- java/lang/Object -/
def k0 : Class := { plain "java/lang/Object" none with
  accessFlags := 33
  interfaces := #[]
  cf := some (fileOf pool0 8 #[] #[{ accessFlags := 1, nameIndex := 5, descriptorIndex := 6, attributes := #[] }] 33 0 #[] #[])
  fields := #[]
  methods := #[k0m0]
  instanceTypes := #[]
  staticTypes := #[]
  resolved := Array.replicate 124 none
  statics := none }

def pool1 : Array CpInfo := pool [(2, .class_ 4), (1, u "java/lang/Object"), (0, u "<init>"), (0, u "()V"), (0, .class_ 8), (0, u "java/lang/String"), (0, .methodref 7 10), (0, .nameAndType 5 11), (0, u "([C)V"), (0, .methodref 13 14), (0, .class_ 15), (0, .nameAndType 16 17), (0, u "com/example/elodea/elodea/cli/Parameter"), (0, u "option"), (0, u "(Ljava/lang/String;Ljava/lang/String;Ljava/lang/String;)Lcom/example/elodea/elodea/cli/Parameter;"), (0, .methodref 13 19), (0, .nameAndType 20 21), (0, u "getKind"), (0, u "()Lcom/example/elodea/elodea/cli/Parameter$Kind;"), (0, .fieldref 23 24), (0, .class_ 25), (0, .nameAndType 26 27), (0, u "com/example/elodea/elodea/cli/Parameter$Kind"), (0, u "OPTION"), (0, u "Lcom/example/elodea/elodea/cli/Parameter$Kind;"), (0, .methodref 13 29), (0, .nameAndType 30 31), (0, u "getName"), (0, u "()Ljava/lang/String;"), (0, .methodref 7 33), (0, .nameAndType 34 35), (0, u "equals"), (0, u "(Ljava/lang/Object;)Z"), (0, .methodref 13 37), (0, .nameAndType 38 31), (0, u "getDescription"), (0, .methodref 13 40), (0, .nameAndType 41 42), (0, u "getLeast"), (0, u "()I"), (0, .methodref 13 44), (0, .nameAndType 45 46), (0, u "isRepeated"), (0, u "()Z"), (0, .methodref 13 48), (0, .nameAndType 49 46), (0, u "isStandIn"), (0, .methodref 13 51), (0, .nameAndType 52 53), (0, u "getWordName"), (0, u "(I)Ljava/lang/String;"), (0, .methodref 13 55), (0, .nameAndType 56 31), (0, u "getUsage"), (0, .class_ 58), (0, u "com/example/elodea/elodea/cli/ParameterOptionPinLaw"), (2, u "law"), (0, u "(IIII)Z")] 5

def k1m0 : Method := { name := "<init>", desc := "()V", sig := { parameters := [], returnType := none }, accessFlags := 1, code := none }
def k1c1 : Code := { maxStack := 6, maxLocals := 15, code := code, exceptionTable := #[], attributes := #[] }
def k1m1 : Method := { name := "law", desc := "(IIII)Z", sig := { parameters := [.int, .int, .int, .int], returnType := some .boolean }, accessFlags := 9, code := some k1c1 }
/-- com/example/elodea/elodea/cli/ParameterOptionPinLaw -/
def k1 : Class := { plain "com/example/elodea/elodea/cli/ParameterOptionPinLaw" (some 0) with
  accessFlags := 49
  interfaces := #[]
  cf := some (fileOf pool1 57 #[] #[{ accessFlags := 1, nameIndex := 5, descriptorIndex := 6, attributes := #[] }, { accessFlags := 9, nameIndex := 61, descriptorIndex := 62, attributes := #[] }] 49 2 #[] #[])
  fields := #[]
  methods := #[k1m0, k1m1]
  instanceTypes := #[]
  staticTypes := #[]
  resolved := Array.replicate 68 none
  statics := none }

def pool2 : Array CpInfo := pool [(1, .class_ 2), (0, u "java/io/Serializable"), (0, .class_ 4), (0, u "java/lang/Object")] 2

/-- java/io/Serializable -/
def k2 : Class := { plain "java/io/Serializable" (some 0) with
  accessFlags := 1537
  interfaces := #[]
  cf := some (fileOf pool2 1 #[] #[] 1537 3 #[] #[])
  fields := #[]
  methods := #[]
  instanceTypes := #[]
  staticTypes := #[]
  resolved := Array.replicate 7 none
  statics := none }

def pool3 : Array CpInfo := pool [(1, .class_ 2), (0, u "java/lang/Comparable"), (0, .class_ 4), (0, u "java/lang/Object")] 7

/-- java/lang/Comparable -/
def k3 : Class := { plain "java/lang/Comparable" (some 0) with
  accessFlags := 1537
  interfaces := #[]
  cf := some (fileOf pool3 1 #[] #[] 1537 3 #[] #[])
  fields := #[]
  methods := #[]
  instanceTypes := #[]
  staticTypes := #[]
  resolved := Array.replicate 12 none
  statics := none }

def pool4 : Array CpInfo := pool [(2, .class_ 4), (1, u "java/lang/CharSequence"), (42, .class_ 48), (0, u "java/lang/CharSequence$1CodePointIterator"), (10, .class_ 60), (0, u "java/lang/CharSequence$1CharIterator"), (5, .class_ 67), (0, u "java/lang/Object")] 63

/-- java/lang/CharSequence -/
def k4 : Class := { plain "java/lang/CharSequence" (some 0) with
  accessFlags := 1537
  interfaces := #[]
  cf := some (fileOf pool4 2 #[.nestMembers #[47, 59]] #[] 1537 66 #[] #[])
  fields := #[]
  methods := #[]
  instanceTypes := #[]
  staticTypes := #[]
  resolved := Array.replicate 131 none
  statics := none }

def pool5 : Array CpInfo := pool [(1, .class_ 2), (0, u "java/lang/constant/Constable"), (0, .class_ 4), (0, u "java/lang/Object")] 6

/-- java/lang/constant/Constable -/
def k5 : Class := { plain "java/lang/constant/Constable" (some 0) with
  accessFlags := 1537
  interfaces := #[]
  cf := some (fileOf pool5 1 #[] #[] 1537 3 #[] #[])
  fields := #[]
  methods := #[]
  instanceTypes := #[]
  staticTypes := #[]
  resolved := Array.replicate 11 none
  statics := none }

def pool6 : Array CpInfo := pool [(1, .class_ 2), (0, u "java/lang/constant/ConstantDesc"), (0, .class_ 4), (0, u "java/lang/Object")] 32

/-- java/lang/constant/ConstantDesc -/
def k6 : Class := { plain "java/lang/constant/ConstantDesc" (some 0) with
  accessFlags := 1537
  interfaces := #[]
  cf := some (fileOf pool6 1 #[] #[] 1537 3 #[] #[])
  fields := #[]
  methods := #[]
  instanceTypes := #[]
  staticTypes := #[]
  resolved := Array.replicate 37 none
  statics := none }

def pool7 : Array CpInfo := pool [(1, .methodref 2 3), (0, .class_ 4), (0, .nameAndType 5 6), (0, u "java/lang/Object"), (0, u "<init>"), (0, u "()V"), (2, .fieldref 10 11), (0, .class_ 12), (0, .nameAndType 13 14), (0, u "java/lang/String"), (0, u "value"), (0, u "[B"), (0, .fieldref 10 16), (0, .nameAndType 17 18), (0, u "coder"), (0, u "B"), (2, u "hash"), (0, u "I"), (2, u "hashIsZero"), (0, u "Z"), (0, .methodref 10 28), (0, .nameAndType 5 29), (0, u "([CIILjava/lang/Void;)V"), (8, .fieldref 10 39), (0, .nameAndType 40 26), (0, u "COMPACT_STRINGS"), (1, .class_ 44), (1, u "java/lang/StringUTF16"), (0, u "compress"), (1, .methodref 42 48), (0, .nameAndType 49 50), (0, u "coderFromArrayLen"), (0, u "([BI)B"), (3, .methodref 55 56), (0, .class_ 57), (0, .nameAndType 58 59), (0, u "java/util/Arrays"), (0, u "copyOfRange"), (0, u "([BII)[B"), (47, .class_ 109), (1, u "java/lang/StringLatin1"), (32, u "()Z"), (34, .methodref 42 178), (0, .nameAndType 45 179), (0, u "([CII)[B"), (13, .class_ 195), (1, u "java/lang/System"), (16, .methodref 193 213), (0, .nameAndType 214 215), (0, u "arraycopy"), (0, u "(Ljava/lang/Object;ILjava/lang/Object;II)V"), (118, u "()I"), (0, .methodref 10 336), (0, .nameAndType 17 337), (0, u "()B"), (2, u "()[B"), (148, .methodref 10 490), (0, .nameAndType 5 491), (0, u "(Ljava/lang/AbstractStringBuilder;Ljava/lang/Void;)V"), (1, .nameAndType 494 142), (0, u "isLatin1"), (11, .nameAndType 507 334), (0, u "length"), (24, u "getBytes"), (8, .methodref 107 542), (0, .nameAndType 543 544), (0, u "equals"), (0, u "([B[B)Z"), (4, .methodref 550 506), (0, .class_ 551), (0, u "java/lang/AbstractStringBuilder"), (0, .methodref 550 553), (0, .nameAndType 554 340), (0, u "getValue"), (18, u "(Ljava/lang/Object;)Z"), (1, .class_ 576), (0, u "java/lang/CharSequence"), (22, u "CASE_INSENSITIVE_ORDER"), (0, u "Ljava/util/Comparator;"), (220, u "([BIB)V"), (188, u "([C)V"), (36, .methodref 550 493), (53, u "serialPersistentFields"), (0, u "[Ljava/io/ObjectStreamField;"), (0, .class_ 1104), (0, u "java/lang/String$CaseInsensitiveComparator"), (1, .class_ 1107), (0, u "java/io/Serializable"), (0, .class_ 1109), (0, u "java/lang/Comparable"), (0, .class_ 1111), (0, u "java/lang/constant/Constable"), (0, .class_ 1113), (0, u "java/lang/constant/ConstantDesc"), (2, u "serialVersionUID"), (0, u "J"), (3, u "REPL"), (0, u "C"), (2, u "LATIN1"), (1, u "UTF16"), (105, u "(Ljava/lang/StringBuilder;)V")] 217

def k7m0 : Method := { name := "<init>", desc := "()V", sig := { parameters := [], returnType := none }, accessFlags := 1, code := none }
def k7c1 : Code := { maxStack := 5, maxLocals := 2, code := jdk_42_method_3_code, exceptionTable := #[], attributes := #[] }
def k7m1 : Method := { name := "<init>", desc := "([C)V", sig := { parameters := [(.array .char)], returnType := none }, accessFlags := 1, code := some k7c1 }
def k7c2 : Code := { maxStack := 3, maxLocals := 2, code := jdk_42_method_53_code, exceptionTable := #[], attributes := #[] }
def k7m2 : Method := { name := "<init>", desc := "(Ljava/lang/StringBuilder;)V", sig := { parameters := [(.object "java/lang/StringBuilder")], returnType := none }, accessFlags := 1, code := some k7c2 }
def k7c3 : Code := { maxStack := 2, maxLocals := 1, code := jdk_42_method_54_code, exceptionTable := #[], attributes := #[] }
def k7m3 : Method := { name := "length", desc := "()I", sig := { parameters := [], returnType := some .int }, accessFlags := 1, code := some k7c3 }
def k7c4 : Code := { maxStack := 2, maxLocals := 3, code := jdk_42_method_66_code, exceptionTable := #[], attributes := #[] }
def k7m4 : Method := { name := "equals", desc := "(Ljava/lang/Object;)Z", sig := { parameters := [(.object "java/lang/Object")], returnType := some .boolean }, accessFlags := 1, code := some k7c4 }
def k7c5 : Code := { maxStack := 5, maxLocals := 4, code := jdk_42_method_147_code, exceptionTable := #[], attributes := #[] }
def k7m5 : Method := { name := "getBytes", desc := "([BIB)V", sig := { parameters := [(.array .byte), .int, .byte], returnType := none }, accessFlags := 0, code := some k7c5 }
def k7c6 : Code := { maxStack := 4, maxLocals := 6, code := jdk_42_method_149_code, exceptionTable := #[], attributes := #[] }
def k7m6 : Method := { name := "<init>", desc := "([CIILjava/lang/Void;)V", sig := { parameters := [(.array .char), .int, .int, (.object "java/lang/Void")], returnType := none }, accessFlags := 2, code := some k7c6 }
def k7c7 : Code := { maxStack := 5, maxLocals := 5, code := jdk_42_method_150_code, exceptionTable := #[], attributes := #[] }
def k7m7 : Method := { name := "<init>", desc := "(Ljava/lang/AbstractStringBuilder;Ljava/lang/Void;)V", sig := { parameters := [(.object "java/lang/AbstractStringBuilder"), (.object "java/lang/Void")], returnType := none }, accessFlags := 0, code := some k7c7 }
def k7c8 : Code := { maxStack := 1, maxLocals := 1, code := jdk_42_method_152_code, exceptionTable := #[], attributes := #[] }
def k7m8 : Method := { name := "coder", desc := "()B", sig := { parameters := [], returnType := some .byte }, accessFlags := 0, code := some k7c8 }
/-- java/lang/String -/
def k7 : Class := { plain "java/lang/String" (some 0) with
  accessFlags := 49
  interfaces := #[2, 3, 4, 5, 6]
  cf := some (fileOf pool7 10 #[.nestMembers #[1103]] #[{ accessFlags := 1, nameIndex := 5, descriptorIndex := 6, attributes := #[] }, { accessFlags := 1, nameIndex := 5, descriptorIndex := 1010, attributes := #[] }, { accessFlags := 1, nameIndex := 5, descriptorIndex := 1233, attributes := #[] }, { accessFlags := 1, nameIndex := 507, descriptorIndex := 334, attributes := #[] }, { accessFlags := 1, nameIndex := 543, descriptorIndex := 573, attributes := #[] }, { accessFlags := 0, nameIndex := 532, descriptorIndex := 821, attributes := #[] }, { accessFlags := 2, nameIndex := 5, descriptorIndex := 29, attributes := #[] }, { accessFlags := 0, nameIndex := 5, descriptorIndex := 491, attributes := #[] }, { accessFlags := 0, nameIndex := 17, descriptorIndex := 337, attributes := #[] }] 49 2 #[1106, 1108, 575, 1110, 1112] #[{ accessFlags := 18, nameIndex := 13, descriptorIndex := 14, attributes := #[] }, { accessFlags := 18, nameIndex := 17, descriptorIndex := 18, attributes := #[] }, { accessFlags := 2, nameIndex := 21, descriptorIndex := 22, attributes := #[] }, { accessFlags := 2, nameIndex := 25, descriptorIndex := 26, attributes := #[] }, { accessFlags := 26, nameIndex := 1116, descriptorIndex := 1117, attributes := #[] }, { accessFlags := 24, nameIndex := 40, descriptorIndex := 26, attributes := #[] }, { accessFlags := 26, nameIndex := 1101, descriptorIndex := 1102, attributes := #[] }, { accessFlags := 26, nameIndex := 1121, descriptorIndex := 1122, attributes := #[] }, { accessFlags := 25, nameIndex := 599, descriptorIndex := 600, attributes := #[] }, { accessFlags := 24, nameIndex := 1125, descriptorIndex := 18, attributes := #[] }, { accessFlags := 24, nameIndex := 1127, descriptorIndex := 18, attributes := #[] }])
  fields := #[{ name := "value", type := (.array .byte), accessFlags := 18, slot := 0, constantValue := 0 }, { name := "coder", type := .byte, accessFlags := 18, slot := 1, constantValue := 0 }, { name := "hash", type := .int, accessFlags := 2, slot := 2, constantValue := 0 }, { name := "hashIsZero", type := .boolean, accessFlags := 2, slot := 3, constantValue := 0 }, { name := "serialVersionUID", type := .long, accessFlags := 26, slot := 0, constantValue := 0 }, { name := "COMPACT_STRINGS", type := .boolean, accessFlags := 24, slot := 1, constantValue := 0 }, { name := "serialPersistentFields", type := (.array (.object "java/io/ObjectStreamField")), accessFlags := 26, slot := 2, constantValue := 0 }, { name := "REPL", type := .char, accessFlags := 26, slot := 3, constantValue := 0 }, { name := "CASE_INSENSITIVE_ORDER", type := (.object "java/util/Comparator"), accessFlags := 25, slot := 4, constantValue := 0 }, { name := "LATIN1", type := .byte, accessFlags := 24, slot := 5, constantValue := 0 }, { name := "UTF16", type := .byte, accessFlags := 24, slot := 6, constantValue := 0 }]
  methods := #[k7m0, k7m1, k7m2, k7m3, k7m4, k7m5, k7m6, k7m7, k7m8]
  instanceTypes := #[(.array .byte), .byte, .int, .boolean]
  staticTypes := #[.long, .boolean, (.array (.object "java/io/ObjectStreamField")), .char, (.object "java/util/Comparator"), .byte, .byte]
  resolved := Array.replicate 1451 none
  statics := some 0 }

def pool8 : Array CpInfo := pool [(6, .class_ 8), (1, u "java/lang/Object"), (0, u "<init>"), (0, u "()V"), (1, .class_ 14), (1, u "java/lang/StringUTF16"), (31, u "$assertionsDisabled"), (0, u "Z"), (13, u "HI_BYTE_SHIFT"), (0, u "I"), (2, u "LO_BYTE_SHIFT"), (49, .methodref 12 116), (0, .nameAndType 117 118), (0, u "compress"), (0, u "([CI[BII)I"), (3, u "([CII)[B"), (138, u "coderFromArrayLen"), (0, u "([BI)B"), (106, .class_ 371), (1, u "java/lang/StringUTF16$LinesSpliterator"), (58, u "MAX_LENGTH"), (196, .class_ 628), (0, u "java/lang/StringUTF16$CodePointsSpliterator"), (0, .class_ 630), (0, u "java/lang/StringUTF16$CharsSpliterator")] 4

def k8m0 : Method := { name := "<init>", desc := "()V", sig := { parameters := [], returnType := none }, accessFlags := 0, code := none }
def k8c1 : Code := { maxStack := 2, maxLocals := 2, code := jdk_52_method_15_code, exceptionTable := #[], attributes := #[] }
def k8m1 : Method := { name := "coderFromArrayLen", desc := "([BI)B", sig := { parameters := [(.array .byte), .int], returnType := some .byte }, accessFlags := 8, code := some k8c1 }
def k8c2 : Code := { maxStack := 5, maxLocals := 6, code := jdk_52_method_16_code, exceptionTable := #[], attributes := #[] }
def k8m2 : Method := { name := "compress", desc := "([CII)[B", sig := { parameters := [(.array .char), .int, .int], returnType := some (.array .byte) }, accessFlags := 9, code := some k8c2 }
def k8c3 : Code := { maxStack := 3, maxLocals := 7, code := jdk_52_method_21_code, exceptionTable := #[], attributes := #[] }
def k8m3 : Method := { name := "compress", desc := "([CI[BII)I", sig := { parameters := [(.array .char), .int, (.array .byte), .int, .int], returnType := some .int }, accessFlags := 9, code := some k8c3 }
/-- java/lang/StringUTF16 -/
def k8 : Class := { plain "java/lang/StringUTF16" (some 0) with
  accessFlags := 48
  interfaces := #[]
  cf := some (fileOf pool8 12 #[.nestMembers #[627, 629, 369]] #[{ accessFlags := 0, nameIndex := 9, descriptorIndex := 10, attributes := #[] }, { accessFlags := 8, nameIndex := 261, descriptorIndex := 262, attributes := #[] }, { accessFlags := 9, nameIndex := 117, descriptorIndex := 122, attributes := #[] }, { accessFlags := 9, nameIndex := 117, descriptorIndex := 118, attributes := #[] }] 48 6 #[] #[{ accessFlags := 26, nameIndex := 61, descriptorIndex := 62, attributes := #[] }, { accessFlags := 26, nameIndex := 65, descriptorIndex := 62, attributes := #[] }, { accessFlags := 24, nameIndex := 430, descriptorIndex := 62, attributes := #[] }, { accessFlags := 4120, nameIndex := 46, descriptorIndex := 47, attributes := #[] }])
  fields := #[{ name := "HI_BYTE_SHIFT", type := .int, accessFlags := 26, slot := 0, constantValue := 0 }, { name := "LO_BYTE_SHIFT", type := .int, accessFlags := 26, slot := 1, constantValue := 0 }, { name := "MAX_LENGTH", type := .int, accessFlags := 24, slot := 2, constantValue := 0 }, { name := "$assertionsDisabled", type := .boolean, accessFlags := 4120, slot := 3, constantValue := 0 }]
  methods := #[k8m0, k8m1, k8m2, k8m3]
  instanceTypes := #[]
  staticTypes := #[.int, .int, .int, .boolean]
  resolved := Array.replicate 635 none
  statics := none }

def pool9 : Array CpInfo := pool [(1, .methodref 2 3), (0, .class_ 4), (0, .nameAndType 5 6), (0, u "java/lang/Object"), (0, u "<init>"), (0, u "()V"), (0, .fieldref 8 9), (0, .class_ 10), (0, .nameAndType 11 12), (0, u "com/example/elodea/elodea/cli/Parameter"), (0, u "kind"), (0, u "Lcom/example/elodea/elodea/cli/Parameter$Kind;"), (0, .fieldref 8 14), (0, .nameAndType 15 16), (0, u "name"), (0, u "Ljava/lang/String;"), (0, .fieldref 8 18), (0, .nameAndType 19 16), (0, u "placeholder"), (0, .fieldref 8 21), (0, .nameAndType 22 23), (0, u "required"), (0, u "Z"), (0, .fieldref 8 25), (0, .nameAndType 26 27), (0, u "least"), (0, u "I"), (0, .fieldref 8 29), (0, .nameAndType 30 23), (0, u "repeated"), (0, .fieldref 8 32), (0, .nameAndType 33 23), (0, u "standIn"), (0, .fieldref 8 35), (0, .nameAndType 36 16), (0, u "description"), (0, .fieldref 38 39), (0, .class_ 40), (0, .nameAndType 41 12), (0, u "com/example/elodea/elodea/cli/Parameter$Kind"), (0, u "OPTION"), (0, .methodref 8 43), (0, .nameAndType 5 44), (0, u "(Lcom/example/elodea/elodea/cli/Parameter$Kind;Ljava/lang/String;Ljava/lang/String;ZIZZLjava/lang/String;)V"), (8, .class_ 54), (0, u "java/lang/StringBuilder"), (0, .methodref 53 3), (2, .methodref 53 59), (0, .nameAndType 60 61), (0, u "append"), (0, u "(Ljava/lang/String;)Ljava/lang/StringBuilder;"), (3, .methodref 53 66), (0, .nameAndType 67 68), (0, u "toString"), (0, u "()Ljava/lang/String;"), (5, .string 75), (0, u "--"), (0, .string 77), (0, u " "), (32, .methodref 8 111), (0, .nameAndType 112 68), (0, u "getLabel"), (6, u "option"), (0, u "(Ljava/lang/String;Ljava/lang/String;Ljava/lang/String;)Lcom/example/elodea/elodea/cli/Parameter;"), (6, u "getKind"), (0, u "()Lcom/example/elodea/elodea/cli/Parameter$Kind;"), (0, u "getName"), (0, u "getLeast"), (0, u "()I"), (0, u "isRepeated"), (0, u "()Z"), (0, u "isStandIn"), (0, u "getDescription"), (0, u "getWordName"), (0, u "(I)Ljava/lang/String;"), (0, u "getUsage")] 24

def k9c0 : Code := { maxStack := 2, maxLocals := 9, code := prog_4_method_1_code, exceptionTable := #[], attributes := #[] }
def k9m0 : Method := { name := "<init>", desc := "(Lcom/example/elodea/elodea/cli/Parameter$Kind;Ljava/lang/String;Ljava/lang/String;ZIZZLjava/lang/String;)V", sig := { parameters := [(.object "com/example/elodea/elodea/cli/Parameter$Kind"), (.object "java/lang/String"), (.object "java/lang/String"), .boolean, .int, .boolean, .boolean, (.object "java/lang/String")], returnType := none }, accessFlags := 2, code := some k9c0 }
def k9c1 : Code := { maxStack := 10, maxLocals := 3, code := prog_4_method_2_code, exceptionTable := #[], attributes := #[] }
def k9m1 : Method := { name := "option", desc := "(Ljava/lang/String;Ljava/lang/String;Ljava/lang/String;)Lcom/example/elodea/elodea/cli/Parameter;", sig := { parameters := [(.object "java/lang/String"), (.object "java/lang/String"), (.object "java/lang/String")], returnType := some (.object "com/example/elodea/elodea/cli/Parameter") }, accessFlags := 8, code := some k9c1 }
def k9c2 : Code := { maxStack := 1, maxLocals := 1, code := prog_4_method_8_code, exceptionTable := #[], attributes := #[] }
def k9m2 : Method := { name := "getKind", desc := "()Lcom/example/elodea/elodea/cli/Parameter$Kind;", sig := { parameters := [], returnType := some (.object "com/example/elodea/elodea/cli/Parameter$Kind") }, accessFlags := 0, code := some k9c2 }
def k9c3 : Code := { maxStack := 1, maxLocals := 1, code := prog_4_method_9_code, exceptionTable := #[], attributes := #[] }
def k9m3 : Method := { name := "getName", desc := "()Ljava/lang/String;", sig := { parameters := [], returnType := some (.object "java/lang/String") }, accessFlags := 0, code := some k9c3 }
def k9c4 : Code := { maxStack := 1, maxLocals := 1, code := prog_4_method_10_code, exceptionTable := #[], attributes := #[] }
def k9m4 : Method := { name := "getLeast", desc := "()I", sig := { parameters := [], returnType := some .int }, accessFlags := 0, code := some k9c4 }
def k9c5 : Code := { maxStack := 1, maxLocals := 1, code := prog_4_method_11_code, exceptionTable := #[], attributes := #[] }
def k9m5 : Method := { name := "isRepeated", desc := "()Z", sig := { parameters := [], returnType := some .boolean }, accessFlags := 0, code := some k9c5 }
def k9c6 : Code := { maxStack := 1, maxLocals := 1, code := prog_4_method_12_code, exceptionTable := #[], attributes := #[] }
def k9m6 : Method := { name := "isStandIn", desc := "()Z", sig := { parameters := [], returnType := some .boolean }, accessFlags := 0, code := some k9c6 }
def k9c7 : Code := { maxStack := 1, maxLocals := 1, code := prog_4_method_13_code, exceptionTable := #[], attributes := #[] }
def k9m7 : Method := { name := "getDescription", desc := "()Ljava/lang/String;", sig := { parameters := [], returnType := some (.object "java/lang/String") }, accessFlags := 0, code := some k9c7 }
def k9c8 : Code := { maxStack := 3, maxLocals := 2, code := prog_4_method_14_code, exceptionTable := #[], attributes := #[] }
def k9m8 : Method := { name := "getLabel", desc := "()Ljava/lang/String;", sig := { parameters := [], returnType := some (.object "java/lang/String") }, accessFlags := 0, code := some k9c8 }
def k9c9 : Code := { maxStack := 3, maxLocals := 2, code := prog_4_method_15_code, exceptionTable := #[], attributes := #[] }
def k9m9 : Method := { name := "getWordName", desc := "(I)Ljava/lang/String;", sig := { parameters := [.int], returnType := some (.object "java/lang/String") }, accessFlags := 0, code := some k9c9 }
def k9c10 : Code := { maxStack := 2, maxLocals := 1, code := prog_4_method_16_code, exceptionTable := #[], attributes := #[] }
def k9m10 : Method := { name := "getUsage", desc := "()Ljava/lang/String;", sig := { parameters := [], returnType := some (.object "java/lang/String") }, accessFlags := 0, code := some k9c10 }
/-- com/example/elodea/elodea/cli/Parameter -/
def k9 : Class := { plain "com/example/elodea/elodea/cli/Parameter" (some 0) with
  accessFlags := 48
  interfaces := #[]
  cf := some (fileOf pool9 8 #[.nestMembers #[38]] #[{ accessFlags := 2, nameIndex := 5, descriptorIndex := 44, attributes := #[] }, { accessFlags := 8, nameIndex := 119, descriptorIndex := 120, attributes := #[] }, { accessFlags := 0, nameIndex := 127, descriptorIndex := 128, attributes := #[] }, { accessFlags := 0, nameIndex := 129, descriptorIndex := 68, attributes := #[] }, { accessFlags := 0, nameIndex := 130, descriptorIndex := 131, attributes := #[] }, { accessFlags := 0, nameIndex := 132, descriptorIndex := 133, attributes := #[] }, { accessFlags := 0, nameIndex := 134, descriptorIndex := 133, attributes := #[] }, { accessFlags := 0, nameIndex := 135, descriptorIndex := 68, attributes := #[] }, { accessFlags := 0, nameIndex := 112, descriptorIndex := 68, attributes := #[] }, { accessFlags := 0, nameIndex := 136, descriptorIndex := 137, attributes := #[] }, { accessFlags := 0, nameIndex := 138, descriptorIndex := 68, attributes := #[] }] 48 2 #[] #[{ accessFlags := 18, nameIndex := 11, descriptorIndex := 12, attributes := #[] }, { accessFlags := 18, nameIndex := 15, descriptorIndex := 16, attributes := #[] }, { accessFlags := 18, nameIndex := 19, descriptorIndex := 16, attributes := #[] }, { accessFlags := 18, nameIndex := 22, descriptorIndex := 23, attributes := #[] }, { accessFlags := 18, nameIndex := 26, descriptorIndex := 27, attributes := #[] }, { accessFlags := 18, nameIndex := 30, descriptorIndex := 23, attributes := #[] }, { accessFlags := 18, nameIndex := 33, descriptorIndex := 23, attributes := #[] }, { accessFlags := 18, nameIndex := 36, descriptorIndex := 16, attributes := #[] }])
  fields := #[{ name := "kind", type := (.object "com/example/elodea/elodea/cli/Parameter$Kind"), accessFlags := 18, slot := 0, constantValue := 0 }, { name := "name", type := (.object "java/lang/String"), accessFlags := 18, slot := 1, constantValue := 0 }, { name := "placeholder", type := (.object "java/lang/String"), accessFlags := 18, slot := 2, constantValue := 0 }, { name := "required", type := .boolean, accessFlags := 18, slot := 3, constantValue := 0 }, { name := "least", type := .int, accessFlags := 18, slot := 4, constantValue := 0 }, { name := "repeated", type := .boolean, accessFlags := 18, slot := 5, constantValue := 0 }, { name := "standIn", type := .boolean, accessFlags := 18, slot := 6, constantValue := 0 }, { name := "description", type := (.object "java/lang/String"), accessFlags := 18, slot := 7, constantValue := 0 }]
  methods := #[k9m0, k9m1, k9m2, k9m3, k9m4, k9m5, k9m6, k9m7, k9m8, k9m9, k9m10]
  instanceTypes := #[(.object "com/example/elodea/elodea/cli/Parameter$Kind"), (.object "java/lang/String"), (.object "java/lang/String"), .boolean, .int, .boolean, .boolean, (.object "java/lang/String")]
  staticTypes := #[]
  resolved := Array.replicate 163 none
  statics := none }

def pool10 : Array CpInfo := pool [(2, .class_ 4), (1, u "java/lang/Enum"), (0, u "name"), (0, u "Ljava/lang/String;"), (2, u "ordinal"), (0, u "I"), (1, .class_ 14), (1, u "java/lang/Object"), (4, u "hash"), (86, .class_ 108), (1, u "java/lang/Enum$EnumDesc"), (2, .class_ 112), (0, u "java/lang/constant/Constable"), (0, .class_ 114), (0, u "java/lang/Comparable"), (0, .class_ 116), (0, u "java/io/Serializable")] 87

/-- java/lang/Enum -/
def k10 : Class := { plain "java/lang/Enum" (some 0) with
  accessFlags := 1057
  interfaces := #[5, 3, 2]
  cf := some (fileOf pool10 2 #[.nestMembers #[106]] #[] 1057 12 #[111, 113, 115] #[{ accessFlags := 18, nameIndex := 5, descriptorIndex := 6, attributes := #[] }, { accessFlags := 18, nameIndex := 9, descriptorIndex := 10, attributes := #[] }, { accessFlags := 2, nameIndex := 19, descriptorIndex := 10, attributes := #[] }])
  fields := #[{ name := "name", type := (.object "java/lang/String"), accessFlags := 18, slot := 0, constantValue := 0 }, { name := "ordinal", type := .int, accessFlags := 18, slot := 1, constantValue := 0 }, { name := "hash", type := .int, accessFlags := 2, slot := 2, constantValue := 0 }]
  methods := #[]
  instanceTypes := #[(.object "java/lang/String"), .int, .int]
  staticTypes := #[]
  resolved := Array.replicate 204 none
  statics := none }

def pool11 : Array CpInfo := pool [(1, .class_ 2), (0, u "com/example/elodea/elodea/cli/Parameter$Kind"), (2, u "OPTION"), (0, u "Lcom/example/elodea/elodea/cli/Parameter$Kind;"), (2, u "FLAG"), (2, u "ARGUMENT"), (2, u "$VALUES"), (0, u "[Lcom/example/elodea/elodea/cli/Parameter$Kind;"), (6, .class_ 25), (1, u "java/lang/Enum"), (26, .class_ 53), (0, u "com/example/elodea/elodea/cli/Parameter")] 2

/-- com/example/elodea/elodea/cli/Parameter$Kind -/
def k11 : Class := { plain "com/example/elodea/elodea/cli/Parameter$Kind" (some 10) with
  accessFlags := 16432
  interfaces := #[]
  cf := some (fileOf pool11 1 #[.nestHost 52] #[] 16432 23 #[] #[{ accessFlags := 16409, nameIndex := 5, descriptorIndex := 6, attributes := #[] }, { accessFlags := 16409, nameIndex := 9, descriptorIndex := 6, attributes := #[] }, { accessFlags := 16409, nameIndex := 12, descriptorIndex := 6, attributes := #[] }, { accessFlags := 4122, nameIndex := 15, descriptorIndex := 16, attributes := #[] }])
  fields := #[{ name := "OPTION", type := (.object "com/example/elodea/elodea/cli/Parameter$Kind"), accessFlags := 16409, slot := 0, constantValue := 0 }, { name := "FLAG", type := (.object "com/example/elodea/elodea/cli/Parameter$Kind"), accessFlags := 16409, slot := 1, constantValue := 0 }, { name := "ARGUMENT", type := (.object "com/example/elodea/elodea/cli/Parameter$Kind"), accessFlags := 16409, slot := 2, constantValue := 0 }, { name := "$VALUES", type := (.array (.object "com/example/elodea/elodea/cli/Parameter$Kind")), accessFlags := 4122, slot := 3, constantValue := 0 }]
  methods := #[]
  instanceTypes := #[(.object "java/lang/String"), .int, .int]
  staticTypes := #[(.object "com/example/elodea/elodea/cli/Parameter$Kind"), (.object "com/example/elodea/elodea/cli/Parameter$Kind"), (.object "com/example/elodea/elodea/cli/Parameter$Kind"), (.array (.object "com/example/elodea/elodea/cli/Parameter$Kind"))]
  resolved := Array.replicate 56 none
  statics := some 1 }

def pool12 : Array CpInfo := pool [(1, .class_ 2), (0, u "java/lang/Appendable"), (0, .class_ 4), (0, u "java/lang/Object")] 9

/-- java/lang/Appendable -/
def k12 : Class := { plain "java/lang/Appendable" (some 0) with
  accessFlags := 1537
  interfaces := #[]
  cf := some (fileOf pool12 1 #[] #[] 1537 3 #[] #[])
  fields := #[]
  methods := #[]
  instanceTypes := #[]
  staticTypes := #[]
  resolved := Array.replicate 14 none
  statics := none }

def pool13 : Array CpInfo := pool [(1, .class_ 2), (0, u "java/lang/String"), (0, .methodref 4 5), (0, .class_ 6), (0, .nameAndType 7 8), (0, u "java/lang/Object"), (0, u "<init>"), (0, u "()V"), (1, .class_ 12), (1, u "java/lang/AbstractStringBuilder"), (0, u "EMPTYVALUE"), (0, u "[B"), (0, .fieldref 10 16), (0, .nameAndType 17 14), (0, u "value"), (0, .fieldref 1 19), (0, .nameAndType 20 21), (0, u "COMPACT_STRINGS"), (0, u "Z"), (0, .fieldref 10 23), (0, .nameAndType 24 25), (0, u "coder"), (0, u "B"), (6, .methodref 1 33), (0, .nameAndType 34 35), (0, u "length"), (0, u "()I"), (4, .methodref 1 41), (0, .nameAndType 24 42), (0, u "()B"), (2, u "append"), (0, u "(Ljava/lang/String;)Ljava/lang/AbstractStringBuilder;"), (1, .class_ 49), (0, u "java/lang/CharSequence"), (19, u "(Ljava/lang/String;)V"), (5, u "maybeLatin1"), (3, .fieldref 10 80), (0, .nameAndType 81 82), (0, u "count"), (0, u "I"), (2, u "isLatin1"), (0, u "()Z"), (13, .methodref 10 101), (0, .nameAndType 102 103), (0, u "ensureCapacityInternal"), (0, u "(I)V"), (104, .methodref 10 209), (0, .nameAndType 210 211), (0, u "putStringAt"), (0, u "(ILjava/lang/String;)V"), (5, u "inflateIfNeededFor"), (2, .nameAndType 221 222), (0, u "getBytes"), (0, u "([BIB)V"), (174, .methodref 10 398), (0, .nameAndType 217 69), (0, .methodref 1 220), (3, u "()[B"), (40, .class_ 445), (0, u "java/lang/Appendable"), (106, u "getValue")] 56

def k13m0 : Method := { name := "<init>", desc := "()V", sig := { parameters := [], returnType := none }, accessFlags := 0, code := none }
def k13c1 : Code := { maxStack := 2, maxLocals := 2, code := jdk_68_method_2_code, exceptionTable := #[], attributes := #[] }
def k13m1 : Method := { name := "<init>", desc := "(I)V", sig := { parameters := [.int], returnType := none }, accessFlags := 0, code := some k13c1 }
def k13c2 : Code := { maxStack := 1, maxLocals := 1, code := jdk_68_method_6_code, exceptionTable := #[], attributes := #[] }
def k13m2 : Method := { name := "length", desc := "()I", sig := { parameters := [], returnType := some .int }, accessFlags := 1, code := some k13c2 }
def k13c3 : Code := { maxStack := 4, maxLocals := 3, code := jdk_68_method_9_code, exceptionTable := #[], attributes := #[] }
def k13m3 : Method := { name := "ensureCapacityInternal", desc := "(I)V", sig := { parameters := [.int], returnType := none }, accessFlags := 2, code := some k13c3 }
def k13c4 : Code := { maxStack := 3, maxLocals := 3, code := jdk_68_method_22_code, exceptionTable := #[], attributes := #[] }
def k13m4 : Method := { name := "append", desc := "(Ljava/lang/String;)Ljava/lang/AbstractStringBuilder;", sig := { parameters := [(.object "java/lang/String")], returnType := some (.object "java/lang/AbstractStringBuilder") }, accessFlags := 1, code := some k13c4 }
def k13c5 : Code := { maxStack := 1, maxLocals := 1, code := jdk_68_method_64_code, exceptionTable := #[], attributes := #[] }
def k13m5 : Method := { name := "getValue", desc := "()[B", sig := { parameters := [], returnType := some (.array .byte) }, accessFlags := 16, code := some k13c5 }
def k13c6 : Code := { maxStack := 1, maxLocals := 1, code := jdk_68_method_68_code, exceptionTable := #[], attributes := #[] }
def k13m6 : Method := { name := "isLatin1", desc := "()Z", sig := { parameters := [], returnType := some .boolean }, accessFlags := 16, code := some k13c6 }
def k13c7 : Code := { maxStack := 2, maxLocals := 2, code := jdk_68_method_71_code, exceptionTable := #[], attributes := #[] }
def k13m7 : Method := { name := "inflateIfNeededFor", desc := "(Ljava/lang/String;)V", sig := { parameters := [(.object "java/lang/String")], returnType := none }, accessFlags := 2, code := some k13c7 }
def k13c8 : Code := { maxStack := 4, maxLocals := 3, code := jdk_68_method_73_code, exceptionTable := #[], attributes := #[] }
def k13m8 : Method := { name := "putStringAt", desc := "(ILjava/lang/String;)V", sig := { parameters := [.int, (.object "java/lang/String")], returnType := none }, accessFlags := 2, code := some k13c8 }
/-- java/lang/AbstractStringBuilder -/
def k13 : Class := { plain "java/lang/AbstractStringBuilder" (some 0) with
  accessFlags := 1056
  interfaces := #[12, 4]
  cf := some (fileOf pool13 10 #[] #[{ accessFlags := 0, nameIndex := 7, descriptorIndex := 8, attributes := #[] }, { accessFlags := 0, nameIndex := 7, descriptorIndex := 103, attributes := #[] }, { accessFlags := 1, nameIndex := 34, descriptorIndex := 35, attributes := #[] }, { accessFlags := 2, nameIndex := 102, descriptorIndex := 103, attributes := #[] }, { accessFlags := 1, nameIndex := 45, descriptorIndex := 46, attributes := #[] }, { accessFlags := 16, nameIndex := 552, descriptorIndex := 403, attributes := #[] }, { accessFlags := 16, nameIndex := 85, descriptorIndex := 86, attributes := #[] }, { accessFlags := 2, nameIndex := 217, descriptorIndex := 69, attributes := #[] }, { accessFlags := 2, nameIndex := 210, descriptorIndex := 211, attributes := #[] }] 1056 4 #[444, 48] #[{ accessFlags := 0, nameIndex := 17, descriptorIndex := 14, attributes := #[] }, { accessFlags := 0, nameIndex := 24, descriptorIndex := 25, attributes := #[] }, { accessFlags := 0, nameIndex := 75, descriptorIndex := 21, attributes := #[] }, { accessFlags := 0, nameIndex := 81, descriptorIndex := 82, attributes := #[] }, { accessFlags := 26, nameIndex := 13, descriptorIndex := 14, attributes := #[] }])
  fields := #[{ name := "value", type := (.array .byte), accessFlags := 0, slot := 0, constantValue := 0 }, { name := "coder", type := .byte, accessFlags := 0, slot := 1, constantValue := 0 }, { name := "maybeLatin1", type := .boolean, accessFlags := 0, slot := 2, constantValue := 0 }, { name := "count", type := .int, accessFlags := 0, slot := 3, constantValue := 0 }, { name := "EMPTYVALUE", type := (.array .byte), accessFlags := 26, slot := 0, constantValue := 0 }]
  methods := #[k13m0, k13m1, k13m2, k13m3, k13m4, k13m5, k13m6, k13m7, k13m8]
  instanceTypes := #[(.array .byte), .byte, .boolean, .int]
  staticTypes := #[(.array .byte)]
  resolved := Array.replicate 609 none
  statics := none }

def pool14 : Array CpInfo := pool [(1, .methodref 2 3), (0, .class_ 4), (0, .nameAndType 5 6), (0, u "java/lang/AbstractStringBuilder"), (0, u "<init>"), (0, u "(I)V"), (11, .class_ 20), (1, u "java/lang/String"), (3, .class_ 26), (1, u "java/lang/StringBuilder"), (0, u "append"), (0, u "(Ljava/lang/String;)Ljava/lang/StringBuilder;"), (0, .methodref 2 30), (0, .nameAndType 27 31), (0, u "(Ljava/lang/String;)Ljava/lang/AbstractStringBuilder;"), (105, .methodref 18 138), (0, .nameAndType 5 139), (0, u "(Ljava/lang/StringBuilder;)V"), (5, u "()V"), (10, u "()I"), (186, .methodref 2 344), (0, .nameAndType 345 156), (0, u "length"), (3, .class_ 350), (0, u "java/lang/Appendable"), (0, .class_ 352), (0, u "java/io/Serializable"), (0, .class_ 354), (0, u "java/lang/Comparable"), (0, .class_ 356), (0, u "java/lang/CharSequence"), (0, u "serialVersionUID"), (0, u "J"), (40, u "toString"), (0, u "()Ljava/lang/String;")] 21

def k14c0 : Code := { maxStack := 2, maxLocals := 1, code := jdk_67_method_1_code, exceptionTable := #[], attributes := #[] }
def k14m0 : Method := { name := "<init>", desc := "()V", sig := { parameters := [], returnType := none }, accessFlags := 1, code := some k14c0 }
def k14c1 : Code := { maxStack := 2, maxLocals := 2, code := jdk_67_method_7_code, exceptionTable := #[], attributes := #[] }
def k14m1 : Method := { name := "append", desc := "(Ljava/lang/String;)Ljava/lang/StringBuilder;", sig := { parameters := [(.object "java/lang/String")], returnType := some (.object "java/lang/StringBuilder") }, accessFlags := 1, code := some k14c1 }
def k14c2 : Code := { maxStack := 3, maxLocals := 1, code := jdk_67_method_42_code, exceptionTable := #[], attributes := #[] }
def k14m2 : Method := { name := "toString", desc := "()Ljava/lang/String;", sig := { parameters := [], returnType := some (.object "java/lang/String") }, accessFlags := 1, code := some k14c2 }
def k14c3 : Code := { maxStack := 1, maxLocals := 1, code := jdk_67_method_93_code, exceptionTable := #[], attributes := #[] }
def k14m3 : Method := { name := "length", desc := "()I", sig := { parameters := [], returnType := some .int }, accessFlags := 4161, code := some k14c3 }
/-- java/lang/StringBuilder -/
def k14 : Class := { plain "java/lang/StringBuilder" (some 13) with
  accessFlags := 49
  interfaces := #[12, 2, 3, 4]
  cf := some (fileOf pool14 24 #[] #[{ accessFlags := 1, nameIndex := 5, descriptorIndex := 145, attributes := #[] }, { accessFlags := 1, nameIndex := 27, descriptorIndex := 28, attributes := #[] }, { accessFlags := 1, nameIndex := 399, descriptorIndex := 400, attributes := #[] }, { accessFlags := 4161, nameIndex := 345, descriptorIndex := 156, attributes := #[] }] 49 2 #[349, 351, 353, 355] #[{ accessFlags := 24, nameIndex := 357, descriptorIndex := 358, attributes := #[] }])
  fields := #[{ name := "serialVersionUID", type := .long, accessFlags := 24, slot := 0, constantValue := 0 }]
  methods := #[k14m0, k14m1, k14m2, k14m3]
  instanceTypes := #[(.array .byte), .byte, .boolean, .int]
  staticTypes := #[.long]
  resolved := Array.replicate 422 none
  statics := none }

def pool15 : Array CpInfo := pool [(2, .class_ 4), (1, u "java/lang/Object"), (0, u "<init>"), (0, u "()V"), (1, .class_ 10), (1, u "java/lang/System"), (0, u "allowSecurityManager"), (0, u "I"), (16, u "cons"), (0, u "Ljava/io/Console;"), (77, .class_ 110), (1, u "java/lang/System$CallersHolder"), (43, u "initialErrStream"), (0, u "Ljava/io/PrintStream;"), (19, u "security"), (0, u "Ljava/lang/SecurityManager;"), (31, .class_ 209), (0, u "java/lang/System$1"), (7, u "props"), (0, u "Ljava/util/Properties;"), (2, u "lineSeparator"), (0, u "Ljava/lang/String;"), (96, .class_ 321), (1, u "java/lang/System$LoggerFinder"), (5, .class_ 328), (0, u "java/lang/System$Logger"), (67, u "err"), (2, u "out"), (91, u "notSupportedJnuEncoding"), (15, u "in"), (17, u "initialIn"), (0, u "Ljava/io/InputStream;"), (35, u "bootLayer"), (0, u "Ljava/lang/ModuleLayer;"), (99, .class_ 664), (0, u "java/lang/System$2"), (9, u "NEVER"), (2, u "MAYBE"), (49, u "arraycopy"), (0, u "(Ljava/lang/Object;ILjava/lang/Object;II)V"), (72, .class_ 802), (0, u "java/lang/System$Logger$Level")] 31

def k15m0 : Method := { name := "<init>", desc := "()V", sig := { parameters := [], returnType := none }, accessFlags := 2, code := none }
def k15m1 : Method := { name := "arraycopy", desc := "(Ljava/lang/Object;ILjava/lang/Object;II)V", sig := { parameters := [(.object "java/lang/Object"), .int, (.object "java/lang/Object"), .int, .int], returnType := none }, accessFlags := 265, code := none }
/-- java/lang/System -/
def k15 : Class := { plain "java/lang/System" (some 0) with
  accessFlags := 49
  interfaces := #[]
  cf := some (fileOf pool15 8 #[.nestMembers #[319, 327, 801, 108, 663, 208]] #[{ accessFlags := 2, nameIndex := 5, descriptorIndex := 6, attributes := #[] }, { accessFlags := 265, nameIndex := 727, descriptorIndex := 728, attributes := #[] }] 49 2 #[] #[{ accessFlags := 25, nameIndex := 507, descriptorIndex := 526, attributes := #[] }, { accessFlags := 25, nameIndex := 399, descriptorIndex := 155, attributes := #[] }, { accessFlags := 25, nameIndex := 396, descriptorIndex := 155, attributes := #[] }, { accessFlags := 10, nameIndex := 525, descriptorIndex := 526, attributes := #[] }, { accessFlags := 26, nameIndex := 674, descriptorIndex := 12, attributes := #[] }, { accessFlags := 26, nameIndex := 677, descriptorIndex := 12, attributes := #[] }, { accessFlags := 10, nameIndex := 11, descriptorIndex := 12, attributes := #[] }, { accessFlags := 74, nameIndex := 175, descriptorIndex := 176, attributes := #[] }, { accessFlags := 10, nameIndex := 491, descriptorIndex := 222, attributes := #[] }, { accessFlags := 74, nameIndex := 29, descriptorIndex := 30, attributes := #[] }, { accessFlags := 74, nameIndex := 154, descriptorIndex := 155, attributes := #[] }, { accessFlags := 10, nameIndex := 217, descriptorIndex := 218, attributes := #[] }, { accessFlags := 10, nameIndex := 221, descriptorIndex := 222, attributes := #[] }, { accessFlags := 8, nameIndex := 562, descriptorIndex := 563, attributes := #[] }])
  fields := #[{ name := "in", type := (.object "java/io/InputStream"), accessFlags := 25, slot := 0, constantValue := 0 }, { name := "out", type := (.object "java/io/PrintStream"), accessFlags := 25, slot := 1, constantValue := 0 }, { name := "err", type := (.object "java/io/PrintStream"), accessFlags := 25, slot := 2, constantValue := 0 }, { name := "initialIn", type := (.object "java/io/InputStream"), accessFlags := 10, slot := 3, constantValue := 0 }, { name := "NEVER", type := .int, accessFlags := 26, slot := 4, constantValue := 0 }, { name := "MAYBE", type := .int, accessFlags := 26, slot := 5, constantValue := 0 }, { name := "allowSecurityManager", type := .int, accessFlags := 10, slot := 6, constantValue := 0 }, { name := "security", type := (.object "java/lang/SecurityManager"), accessFlags := 74, slot := 7, constantValue := 0 }, { name := "notSupportedJnuEncoding", type := (.object "java/lang/String"), accessFlags := 10, slot := 8, constantValue := 0 }, { name := "cons", type := (.object "java/io/Console"), accessFlags := 74, slot := 9, constantValue := 0 }, { name := "initialErrStream", type := (.object "java/io/PrintStream"), accessFlags := 74, slot := 10, constantValue := 0 }, { name := "props", type := (.object "java/util/Properties"), accessFlags := 10, slot := 11, constantValue := 0 }, { name := "lineSeparator", type := (.object "java/lang/String"), accessFlags := 10, slot := 12, constantValue := 0 }, { name := "bootLayer", type := (.object "java/lang/ModuleLayer"), accessFlags := 8, slot := 13, constantValue := 0 }]
  methods := #[k15m0, k15m1]
  instanceTypes := #[]
  staticTypes := #[(.object "java/io/InputStream"), (.object "java/io/PrintStream"), (.object "java/io/PrintStream"), (.object "java/io/InputStream"), .int, .int, .int, (.object "java/lang/SecurityManager"), (.object "java/lang/String"), (.object "java/io/Console"), (.object "java/io/PrintStream"), (.object "java/util/Properties"), (.object "java/lang/String"), (.object "java/lang/ModuleLayer")]
  resolved := Array.replicate 834 none
  statics := none }

def pool16 : Array CpInfo := pool [(2, .class_ 4), (1, u "java/lang/Object"), (0, u "<init>"), (0, u "()V"), (7, .class_ 16), (1, u "java/util/Arrays"), (57, .class_ 76), (1, u "java/util/Arrays$NaturalOrder"), (36, .class_ 115), (1, u "java/util/Arrays$LegacyMergeSort"), (1, u "Z"), (21, u "copyOfRange"), (10, .methodref 151 152), (0, .class_ 153), (0, .nameAndType 154 155), (0, u "java/lang/System"), (0, u "arraycopy"), (0, u "(Ljava/lang/Object;ILjava/lang/Object;II)V"), (148, .methodref 305 306), (0, .class_ 307), (0, .nameAndType 308 309), (0, u "java/lang/Math"), (0, u "min"), (0, u "(II)I"), (29, .methodref 14 340), (0, .nameAndType 341 342), (0, u "copyOfRangeByte"), (0, u "([BII)[B"), (0, .methodref 14 344), (0, .nameAndType 345 346), (0, u "checkLength"), (0, u "(II)V"), (28, .class_ 376), (0, u "java/util/Arrays$ArrayList"), (68, u "$assertionsDisabled"), (269, u "MIN_ARRAY_SORT_GRAN"), (0, u "I"), (2, u "INSERTIONSORT_THRESHOLD"), (255, .class_ 976), (0, u "java/util/Arrays$ArrayItr")] 52

def k16m0 : Method := { name := "<init>", desc := "()V", sig := { parameters := [], returnType := none }, accessFlags := 2, code := none }
def k16c1 : Code := { maxStack := 4, maxLocals := 2, code := jdk_65_method_131_code, exceptionTable := #[], attributes := #[] }
def k16m1 : Method := { name := "checkLength", desc := "(II)V", sig := { parameters := [.int, .int], returnType := none }, accessFlags := 10, code := some k16c1 }
def k16c2 : Code := { maxStack := 3, maxLocals := 3, code := jdk_65_method_132_code, exceptionTable := #[], attributes := #[] }
def k16m2 : Method := { name := "copyOfRange", desc := "([BII)[B", sig := { parameters := [(.array .byte), .int, .int], returnType := some (.array .byte) }, accessFlags := 9, code := some k16c2 }
def k16c3 : Code := { maxStack := 6, maxLocals := 5, code := jdk_65_method_133_code, exceptionTable := #[], attributes := #[] }
def k16m3 : Method := { name := "copyOfRangeByte", desc := "([BII)[B", sig := { parameters := [(.array .byte), .int, .int], returnType := some (.array .byte) }, accessFlags := 10, code := some k16c3 }
/-- java/util/Arrays -/
def k16 : Class := { plain "java/util/Arrays" (some 0) with
  accessFlags := 49
  interfaces := #[]
  cf := some (fileOf pool16 14 #[.nestMembers #[975, 375, 113, 74]] #[{ accessFlags := 2, nameIndex := 5, descriptorIndex := 6, attributes := #[] }, { accessFlags := 10, nameIndex := 345, descriptorIndex := 346, attributes := #[] }, { accessFlags := 9, nameIndex := 139, descriptorIndex := 342, attributes := #[] }, { accessFlags := 10, nameIndex := 341, descriptorIndex := 342, attributes := #[] }] 49 2 #[] #[{ accessFlags := 26, nameIndex := 715, descriptorIndex := 716, attributes := #[] }, { accessFlags := 26, nameIndex := 719, descriptorIndex := 716, attributes := #[] }, { accessFlags := 4120, nameIndex := 445, descriptorIndex := 117, attributes := #[] }])
  fields := #[{ name := "MIN_ARRAY_SORT_GRAN", type := .int, accessFlags := 26, slot := 0, constantValue := 0 }, { name := "INSERTIONSORT_THRESHOLD", type := .int, accessFlags := 26, slot := 1, constantValue := 0 }, { name := "$assertionsDisabled", type := .boolean, accessFlags := 4120, slot := 2, constantValue := 0 }]
  methods := #[k16m0, k16m1, k16m2, k16m3]
  instanceTypes := #[]
  staticTypes := #[.int, .int, .boolean]
  resolved := Array.replicate 1029 none
  statics := none }

def pool17 : Array CpInfo := pool [(1, .class_ 2), (0, u "java/lang/Math"), (1, .class_ 6), (1, u "java/lang/Object"), (0, u "<init>"), (0, u "()V"), (89, .class_ 100), (1, u "java/lang/Math$RandomNumberGeneratorHolder"), (71, u "negativeZeroFloatBits"), (0, u "J"), (2, u "negativeZeroDoubleBits"), (24, u "min"), (43, u "$assertionsDisabled"), (0, u "Z"), (88, u "(II)I"), (2, u "twoToTheDoubleScaleDown"), (0, u "D"), (4, u "twoToTheDoubleScaleUp"), (9, u "E"), (3, u "PI"), (2, u "TAU"), (2, u "DEGREES_TO_RADIANS"), (0, u "RADIANS_TO_DEGREES")] 94

def k17m0 : Method := { name := "<init>", desc := "()V", sig := { parameters := [], returnType := none }, accessFlags := 2, code := none }
def k17c1 : Code := { maxStack := 2, maxLocals := 2, code := jdk_29_method_69_code, exceptionTable := #[], attributes := #[] }
def k17m1 : Method := { name := "min", desc := "(II)I", sig := { parameters := [.int, .int], returnType := some .int }, accessFlags := 9, code := some k17c1 }
/-- java/lang/Math -/
def k17 : Class := { plain "java/lang/Math" (some 0) with
  accessFlags := 49
  interfaces := #[]
  cf := some (fileOf pool17 1 #[.nestMembers #[98]] #[{ accessFlags := 2, nameIndex := 7, descriptorIndex := 8, attributes := #[] }, { accessFlags := 9, nameIndex := 201, descriptorIndex := 335, attributes := #[] }] 49 4 #[] #[{ accessFlags := 25, nameIndex := 354, descriptorIndex := 339, attributes := #[] }, { accessFlags := 25, nameIndex := 358, descriptorIndex := 339, attributes := #[] }, { accessFlags := 25, nameIndex := 361, descriptorIndex := 339, attributes := #[] }, { accessFlags := 26, nameIndex := 364, descriptorIndex := 339, attributes := #[] }, { accessFlags := 26, nameIndex := 365, descriptorIndex := 339, attributes := #[] }, { accessFlags := 26, nameIndex := 172, descriptorIndex := 173, attributes := #[] }, { accessFlags := 26, nameIndex := 176, descriptorIndex := 173, attributes := #[] }, { accessFlags := 8, nameIndex := 344, descriptorIndex := 339, attributes := #[] }, { accessFlags := 8, nameIndex := 338, descriptorIndex := 339, attributes := #[] }, { accessFlags := 4120, nameIndex := 245, descriptorIndex := 246, attributes := #[] }])
  fields := #[{ name := "E", type := .double, accessFlags := 25, slot := 0, constantValue := 0 }, { name := "PI", type := .double, accessFlags := 25, slot := 1, constantValue := 0 }, { name := "TAU", type := .double, accessFlags := 25, slot := 2, constantValue := 0 }, { name := "DEGREES_TO_RADIANS", type := .double, accessFlags := 26, slot := 3, constantValue := 0 }, { name := "RADIANS_TO_DEGREES", type := .double, accessFlags := 26, slot := 4, constantValue := 0 }, { name := "negativeZeroFloatBits", type := .long, accessFlags := 26, slot := 5, constantValue := 0 }, { name := "negativeZeroDoubleBits", type := .long, accessFlags := 26, slot := 6, constantValue := 0 }, { name := "twoToTheDoubleScaleUp", type := .double, accessFlags := 8, slot := 7, constantValue := 0 }, { name := "twoToTheDoubleScaleDown", type := .double, accessFlags := 8, slot := 8, constantValue := 0 }, { name := "$assertionsDisabled", type := .boolean, accessFlags := 4120, slot := 9, constantValue := 0 }]
  methods := #[k17m0, k17m1]
  instanceTypes := #[]
  staticTypes := #[.double, .double, .double, .double, .double, .long, .long, .double, .double, .boolean]
  resolved := Array.replicate 460 none
  statics := none }

def pool18 : Array CpInfo := pool [(4, .class_ 6), (1, u "java/lang/Object"), (0, u "<init>"), (0, u "()V"), (5, .class_ 16), (1, u "java/lang/StringLatin1"), (104, u "$assertionsDisabled"), (0, u "Z"), (98, .class_ 223), (1, u "java/lang/StringLatin1$LinesSpliterator"), (57, u "equals"), (0, u "([B[B)Z"), (107, .class_ 391), (0, u "java/lang/StringLatin1$CharsSpliterator")] 3

def k18m0 : Method := { name := "<init>", desc := "()V", sig := { parameters := [], returnType := none }, accessFlags := 0, code := none }
def k18c1 : Code := { maxStack := 3, maxLocals := 3, code := jdk_43_method_13_code, exceptionTable := #[], attributes := #[] }
def k18m1 : Method := { name := "equals", desc := "([B[B)Z", sig := { parameters := [(.array .byte), (.array .byte)], returnType := some .boolean }, accessFlags := 9, code := some k18c1 }
/-- java/lang/StringLatin1 -/
def k18 : Class := { plain "java/lang/StringLatin1" (some 0) with
  accessFlags := 48
  interfaces := #[]
  cf := some (fileOf pool18 14 #[.nestMembers #[390, 221]] #[{ accessFlags := 0, nameIndex := 7, descriptorIndex := 8, attributes := #[] }, { accessFlags := 9, nameIndex := 281, descriptorIndex := 282, attributes := #[] }] 48 4 #[] #[{ accessFlags := 4120, nameIndex := 121, descriptorIndex := 122, attributes := #[] }])
  fields := #[{ name := "$assertionsDisabled", type := .boolean, accessFlags := 4120, slot := 0, constantValue := 0 }]
  methods := #[k18m0, k18m1]
  instanceTypes := #[]
  staticTypes := #[.boolean]
  resolved := Array.replicate 395 none
  statics := none }

def pool19 : Array CpInfo := pool [(2, .class_ 4), (1, u "java/lang/Object"), (0, u "<init>"), (0, u "()V"), (17, .class_ 26), (1, u "jdk/internal/util/Preconditions"), (28, .class_ 56), (0, u "jdk/internal/util/Preconditions$4"), (57, .class_ 115), (0, u "jdk/internal/util/Preconditions$1"), (7, u "SIOOBE_FORMATTER"), (0, u "Ljava/util/function/BiFunction;"), (0, .class_ 126), (0, u "jdk/internal/util/Preconditions$2"), (3, u "AIOOBE_FORMATTER"), (0, .class_ 132), (0, u "jdk/internal/util/Preconditions$3"), (3, u "IOOBE_FORMATTER")] 57

def k19m0 : Method := { name := "<init>", desc := "()V", sig := { parameters := [], returnType := none }, accessFlags := 1, code := none }
/-- jdk/internal/util/Preconditions -/
def k19 : Class := { plain "jdk/internal/util/Preconditions" (some 0) with
  accessFlags := 33
  interfaces := #[]
  cf := some (fileOf pool19 24 #[.nestMembers #[55, 131, 125, 114]] #[{ accessFlags := 1, nameIndex := 5, descriptorIndex := 6, attributes := #[] }] 33 2 #[] #[{ accessFlags := 25, nameIndex := 123, descriptorIndex := 124, attributes := #[] }, { accessFlags := 25, nameIndex := 130, descriptorIndex := 124, attributes := #[] }, { accessFlags := 25, nameIndex := 136, descriptorIndex := 124, attributes := #[] }])
  fields := #[{ name := "SIOOBE_FORMATTER", type := (.object "java/util/function/BiFunction"), accessFlags := 25, slot := 0, constantValue := 0 }, { name := "AIOOBE_FORMATTER", type := (.object "java/util/function/BiFunction"), accessFlags := 25, slot := 1, constantValue := 0 }, { name := "IOOBE_FORMATTER", type := (.object "java/util/function/BiFunction"), accessFlags := 25, slot := 2, constantValue := 0 }]
  methods := #[k19m0]
  instanceTypes := #[]
  staticTypes := #[(.object "java/util/function/BiFunction"), (.object "java/util/function/BiFunction"), (.object "java/util/function/BiFunction")]
  resolved := Array.replicate 194 none
  statics := some 2 }

def pool20 : Array CpInfo := pool [(9, u "<init>"), (6, .class_ 18), (1, u "java/lang/Object"), (0, u "()V"), (1, .class_ 23), (1, u "jdk/internal/util/ArraysSupport"), (0, u "LOG2_ARRAY_LONG_INDEX_SCALE"), (0, u "I"), (2, u "U"), (0, u "Ljdk/internal/misc/Unsafe;"), (8, u "BIG_ENDIAN"), (0, u "Z"), (8, u "LOG2_BYTE_BIT_SIZE"), (4, u "LOG2_ARRAY_INT_INDEX_SCALE"), (54, u "JLA"), (0, u "Ljdk/internal/access/JavaLangAccess;"), (11, u "LOG2_ARRAY_BOOLEAN_INDEX_SCALE"), (9, u "LOG2_ARRAY_BYTE_INDEX_SCALE"), (5, u "LOG2_ARRAY_CHAR_INDEX_SCALE"), (5, u "LOG2_ARRAY_SHORT_INDEX_SCALE"), (18, u "LOG2_ARRAY_FLOAT_INDEX_SCALE"), (24, u "LOG2_ARRAY_DOUBLE_INDEX_SCALE"), (89, u "T_BOOLEAN"), (2, u "T_CHAR"), (1, u "T_FLOAT"), (1, u "T_DOUBLE"), (1, u "T_BYTE"), (1, u "T_SHORT"), (1, u "T_INT"), (1, u "T_LONG"), (1, u "SOFT_MAX_ARRAY_LENGTH")] 83

def k20m0 : Method := { name := "<init>", desc := "()V", sig := { parameters := [], returnType := none }, accessFlags := 2, code := none }
/-- jdk/internal/util/ArraysSupport -/
def k20 : Class := { plain "jdk/internal/util/ArraysSupport" (some 0) with
  accessFlags := 33
  interfaces := #[]
  cf := some (fileOf pool20 21 #[] #[{ accessFlags := 2, nameIndex := 9, descriptorIndex := 19, attributes := #[] }] 33 16 #[] #[{ accessFlags := 24, nameIndex := 28, descriptorIndex := 29, attributes := #[] }, { accessFlags := 26, nameIndex := 38, descriptorIndex := 39, attributes := #[] }, { accessFlags := 25, nameIndex := 121, descriptorIndex := 25, attributes := #[] }, { accessFlags := 25, nameIndex := 131, descriptorIndex := 25, attributes := #[] }, { accessFlags := 25, nameIndex := 137, descriptorIndex := 25, attributes := #[] }, { accessFlags := 25, nameIndex := 143, descriptorIndex := 25, attributes := #[] }, { accessFlags := 25, nameIndex := 53, descriptorIndex := 25, attributes := #[] }, { accessFlags := 25, nameIndex := 24, descriptorIndex := 25, attributes := #[] }, { accessFlags := 25, nameIndex := 162, descriptorIndex := 25, attributes := #[] }, { accessFlags := 25, nameIndex := 187, descriptorIndex := 25, attributes := #[] }, { accessFlags := 26, nameIndex := 48, descriptorIndex := 25, attributes := #[] }, { accessFlags := 25, nameIndex := 277, descriptorIndex := 25, attributes := #[] }, { accessFlags := 25, nameIndex := 280, descriptorIndex := 25, attributes := #[] }, { accessFlags := 25, nameIndex := 282, descriptorIndex := 25, attributes := #[] }, { accessFlags := 25, nameIndex := 284, descriptorIndex := 25, attributes := #[] }, { accessFlags := 25, nameIndex := 286, descriptorIndex := 25, attributes := #[] }, { accessFlags := 25, nameIndex := 288, descriptorIndex := 25, attributes := #[] }, { accessFlags := 25, nameIndex := 290, descriptorIndex := 25, attributes := #[] }, { accessFlags := 25, nameIndex := 292, descriptorIndex := 25, attributes := #[] }, { accessFlags := 26, nameIndex := 108, descriptorIndex := 109, attributes := #[] }, { accessFlags := 25, nameIndex := 294, descriptorIndex := 25, attributes := #[] }])
  fields := #[{ name := "U", type := (.object "jdk/internal/misc/Unsafe"), accessFlags := 24, slot := 0, constantValue := 0 }, { name := "BIG_ENDIAN", type := .boolean, accessFlags := 26, slot := 1, constantValue := 0 }, { name := "LOG2_ARRAY_BOOLEAN_INDEX_SCALE", type := .int, accessFlags := 25, slot := 2, constantValue := 0 }, { name := "LOG2_ARRAY_BYTE_INDEX_SCALE", type := .int, accessFlags := 25, slot := 3, constantValue := 0 }, { name := "LOG2_ARRAY_CHAR_INDEX_SCALE", type := .int, accessFlags := 25, slot := 4, constantValue := 0 }, { name := "LOG2_ARRAY_SHORT_INDEX_SCALE", type := .int, accessFlags := 25, slot := 5, constantValue := 0 }, { name := "LOG2_ARRAY_INT_INDEX_SCALE", type := .int, accessFlags := 25, slot := 6, constantValue := 0 }, { name := "LOG2_ARRAY_LONG_INDEX_SCALE", type := .int, accessFlags := 25, slot := 7, constantValue := 0 }, { name := "LOG2_ARRAY_FLOAT_INDEX_SCALE", type := .int, accessFlags := 25, slot := 8, constantValue := 0 }, { name := "LOG2_ARRAY_DOUBLE_INDEX_SCALE", type := .int, accessFlags := 25, slot := 9, constantValue := 0 }, { name := "LOG2_BYTE_BIT_SIZE", type := .int, accessFlags := 26, slot := 10, constantValue := 0 }, { name := "T_BOOLEAN", type := .int, accessFlags := 25, slot := 11, constantValue := 0 }, { name := "T_CHAR", type := .int, accessFlags := 25, slot := 12, constantValue := 0 }, { name := "T_FLOAT", type := .int, accessFlags := 25, slot := 13, constantValue := 0 }, { name := "T_DOUBLE", type := .int, accessFlags := 25, slot := 14, constantValue := 0 }, { name := "T_BYTE", type := .int, accessFlags := 25, slot := 15, constantValue := 0 }, { name := "T_SHORT", type := .int, accessFlags := 25, slot := 16, constantValue := 0 }, { name := "T_INT", type := .int, accessFlags := 25, slot := 17, constantValue := 0 }, { name := "T_LONG", type := .int, accessFlags := 25, slot := 18, constantValue := 0 }, { name := "JLA", type := (.object "jdk/internal/access/JavaLangAccess"), accessFlags := 26, slot := 19, constantValue := 0 }, { name := "SOFT_MAX_ARRAY_LENGTH", type := .int, accessFlags := 25, slot := 20, constantValue := 0 }]
  methods := #[k20m0]
  instanceTypes := #[]
  staticTypes := #[(.object "jdk/internal/misc/Unsafe"), .boolean, .int, .int, .int, .int, .int, .int, .int, .int, .int, .int, .int, .int, .int, .int, .int, .int, .int, (.object "jdk/internal/access/JavaLangAccess"), .int]
  resolved := Array.replicate 378 none
  statics := none }

def pool21 : Array CpInfo := pool [(1, u "java/lang/Cloneable"), (0, .class_ 1), (0, u "java/lang/Object"), (0, .class_ 3)] 3

/-- java/lang/Cloneable -/
def k21 : Class := { plain "java/lang/Cloneable" (some 0) with
  accessFlags := 1537
  interfaces := #[]
  cf := some (fileOf pool21 2 #[] #[] 1537 4 #[] #[])
  fields := #[]
  methods := #[]
  instanceTypes := #[]
  staticTypes := #[]
  resolved := Array.replicate 8 none
  statics := none }

/-- the primitive byte -/
def k22 : Class := { plain "byte" none with kind := .primitive 'B', accessFlags := 0x411 }
/-- [B -/
def k23 : Class := { plain "[B" (some 0) with kind := .array 22 .byte, interfaces := #[21, 2], accessFlags := 1041 }

/-- the primitive char -/
def k24 : Class := { plain "char" none with kind := .primitive 'C', accessFlags := 0x411 }
/-- [C -/
def k25 : Class := { plain "[C" (some 0) with kind := .array 24 .char, interfaces := #[21, 2], accessFlags := 1041 }

/-- the primitive int -/
def k26 : Class := { plain "int" none with kind := .primitive 'I', accessFlags := 0x411 }
/-- [I -/
def k27 : Class := { plain "[I" (some 0) with kind := .array 26 .int, interfaces := #[21, 2], accessFlags := 1041 }

def heap : Heap := #[{ cls := 7, slots := #[.long 0, .int 1, .null, .int 0, .null, .int 0, .int 0], vm := .statics 7 },
  { cls := 11, slots := #[.ref 4, .ref 5, .ref 3, .null], vm := .statics 11 },
  { cls := 19, slots := #[.null, .null, .null], vm := .statics 19 },
  { cls := 11, slots := #[.null, .int 2, .int 0], vm := .none },
  { cls := 11, slots := #[.null, .int 0, .int 0], vm := .none },
  { cls := 11, slots := #[.null, .int 1, .int 0], vm := .none }]
def classes : Array Class := #[k0, k1, k2, k3, k4, k5, k6, k7, k8, k9, k10, k11, k12, k13, k14, k15, k16, k17, k18, k19, k20, k21, k22, k23, k24, k25, k26, k27]
def interned : List (Array UInt16 × Addr) := []
def slotsUsed : Nat := 23
def theMethod : MethodId := ⟨1, 1⟩
def args0 : Array Value := #[.int 5, .int 3, .int 7, .int 8]
def aboutOver (below : List Frame) : State where
  vm := { classes := classes, interned := interned.toArray }
  heap := heap
  slotsUsed := slotsUsed
  threads := #[{ frames := .invoking theMethod args0 :: below }]
def below0 : List Frame := [.native { method := ⟨0, 0⟩, args := #[] }]
def about1 : State := aboutOver below0
def p0 : Program := .bare "" "" ""
def e0 : Env := launch0.env 0 0 0
theorem w_frames : about1.frames = Frame.invoking theMethod args0 :: below0 := rfl
set_option maxRecDepth 65536 in
theorem w_args : argsFit about1.vm theMethod args0 = true := by decide +kernel
set_option maxRecDepth 65536 in
theorem w_heap : heapFits about1 = true := by decide +kernel
set_option maxRecDepth 65536 in
theorem w_runnable : about1.curStatus? = some .runnable := by decide +kernel
set_option maxRecDepth 65536 in
theorem w_alone : about1.alone = true := by decide +kernel
set_option maxRecDepth 65536 in
theorem w_named : about1.methodNamed? x = some theMethod := by decide +kernel
set_option maxRecDepth 65536 in
theorem w_hears : about1.hears theMethod below0 = true := by decide +kernel
set_option maxRecDepth 65536 in
theorem w_ripe : about1.ripe theMethod args0 below0 = true := by decide +kernel
theorem w_running : about1.status = .running := rfl
set_option maxRecDepth 65536 in
theorem w_room : about1.hasRoom e0.platform room_1 = true :=
  launch0.hasRoom_least _ room_1 (by decide +kernel) (by decide +kernel) (by decide +kernel) (by decide +kernel) (by decide +kernel) (by decide +kernel)
theorem allAtoms_all (ts : List Jvm.Cond) (a : Array Jvm.Value) (st : Jvm.State) : (allAtoms ts).before a st = ts.all (fun c => c.before a st) := by
  induction ts with
  | nil => rfl
  | cons c t ih =>
    show (Jvm.Cond.and c (allAtoms t)).before a st = _
    rw [Jvm.Cond.before_and, ih, List.all_cons]
def words1 : List Jvm.Cond := Jvm.Cond.code x code maxLocals ret :: tables_1
/-- a 'code' word, met by the world's own term for the bytes: nothing is compared byte by byte -/
theorem code_word {y : MethodName} {bytes : ByteArray} {mx : Nat} {rt : Option FieldType} {a : Array Value} {s : State} {m : MethodId} {meth : Method} {c : Code} (h1 : s.methodNamed? y = some m) (h2 : s.vm.method? m = some meth) (h3 : meth.code = some c) (h4 : c.code = bytes)
    (h5 : (c.maxLocals == mx && c.exceptionTable.isEmpty && decide (c.maxStack ≤ mostOperands) && decide (meth.sig.returnType = rt) && !meth.locks && decide (parseMethodDescriptor y.desc = some meth.sig)) = true) : (Jvm.Cond.code y bytes mx rt).before a s = true := by
  simp only [Bool.and_eq_true, beq_iff_eq, Bool.not_eq_true', decide_eq_true_eq] at h5
  obtain ⟨⟨⟨⟨⟨g1, g2⟩, g3⟩, g4⟩, g5⟩, g6⟩ := h5
  simp [Cond.before, Cond.holds, Cond.value, h1, h2, h3, h4, g1, g2, g3, g4, g5, g6]
def isCode : Jvm.Cond → Bool
  | .code _ _ _ _ => true
  | _ => false
theorem all_split {L : List Jvm.Cond} {P : Jvm.Cond → Bool} (h1 : L.all (fun c => isCode c || P c) = true) (h2 : ∀ c ∈ L.filter isCode, P c = true) : L.all P = true := by
  refine List.all_eq_true.mpr fun c hc => ?_
  have h := List.all_eq_true.mp h1 c hc
  rcases Bool.eq_false_or_eq_true (isCode c) with hi | hi
  · exact h2 c (List.mem_filter.mpr ⟨hc, hi⟩)
  · simpa [hi] using h
set_option maxRecDepth 65536 in
theorem w_c0 : (Jvm.Cond.code x code maxLocals ret).before args0 about1 = true := code_word (m := ⟨1, 1⟩) (meth := k1m1) (c := k1c1) (by decide +kernel) rfl rfl rfl (by decide +kernel)
set_option maxRecDepth 65536 in
theorem w_c1 : (Jvm.Cond.code ({ cls := "java/lang/String", name := "<init>", desc := "([C)V" } : Jvm.MethodName) jdk_42_method_3_code (2 : Nat) (Option.none : Option Jvm.ClassFile.FieldType)).before args0 about1 = true := code_word (m := ⟨7, 1⟩) (meth := k7m1) (c := k7c1) (by decide +kernel) rfl rfl rfl (by decide +kernel)
set_option maxRecDepth 65536 in
theorem w_c2 : (Jvm.Cond.code ({ cls := "java/lang/String", name := "<init>", desc := "([CIILjava/lang/Void;)V" } : Jvm.MethodName) jdk_42_method_149_code (6 : Nat) (Option.none : Option Jvm.ClassFile.FieldType)).before args0 about1 = true := code_word (m := ⟨7, 6⟩) (meth := k7m6) (c := k7c6) (by decide +kernel) rfl rfl rfl (by decide +kernel)
set_option maxRecDepth 65536 in
theorem w_c3 : (Jvm.Cond.code ({ cls := "java/lang/Object", name := "<init>", desc := "()V" } : Jvm.MethodName) object_method_1_code (1 : Nat) (Option.none : Option Jvm.ClassFile.FieldType)).before args0 about1 = true := code_word (m := ⟨0, 0⟩) (meth := k0m0) (c := k0c0) (by decide +kernel) rfl rfl rfl (by decide +kernel)
set_option maxRecDepth 65536 in
theorem w_c4 : (Jvm.Cond.code ({ cls := "java/lang/StringUTF16", name := "compress", desc := "([CII)[B" } : Jvm.MethodName) jdk_52_method_16_code (6 : Nat) (Option.some (Jvm.ClassFile.FieldType.array Jvm.ClassFile.FieldType.byte))).before args0 about1 = true := code_word (m := ⟨8, 2⟩) (meth := k8m2) (c := k8c2) (by decide +kernel) rfl rfl rfl (by decide +kernel)
set_option maxRecDepth 65536 in
theorem w_c5 : (Jvm.Cond.code ({ cls := "java/lang/StringUTF16", name := "compress", desc := "([CI[BII)I" } : Jvm.MethodName) jdk_52_method_21_code (7 : Nat) (Option.some Jvm.ClassFile.FieldType.int)).before args0 about1 = true := code_word (m := ⟨8, 3⟩) (meth := k8m3) (c := k8c3) (by decide +kernel) rfl rfl rfl (by decide +kernel)
set_option maxRecDepth 65536 in
theorem w_c6 : (Jvm.Cond.code ({ cls := "java/lang/StringUTF16", name := "coderFromArrayLen", desc := "([BI)B" } : Jvm.MethodName) jdk_52_method_15_code (2 : Nat) (Option.some Jvm.ClassFile.FieldType.byte)).before args0 about1 = true := code_word (m := ⟨8, 1⟩) (meth := k8m1) (c := k8c1) (by decide +kernel) rfl rfl rfl (by decide +kernel)
set_option maxRecDepth 65536 in
theorem w_c7 : (Jvm.Cond.code ({ cls := "com/example/elodea/elodea/cli/Parameter", name := "option", desc := "(Ljava/lang/String;Ljava/lang/String;Ljava/lang/String;)Lcom/example/elodea/elodea/cli/Parameter;" } : Jvm.MethodName) prog_4_method_2_code (3 : Nat) (Option.some (Jvm.ClassFile.FieldType.object "com/example/elodea/elodea/cli/Parameter"))).before args0 about1 = true := code_word (m := ⟨9, 1⟩) (meth := k9m1) (c := k9c1) (by decide +kernel) rfl rfl rfl (by decide +kernel)
set_option maxRecDepth 65536 in
theorem w_c8 : (Jvm.Cond.code ({ cls := "com/example/elodea/elodea/cli/Parameter", name := "<init>", desc := "(Lcom/example/elodea/elodea/cli/Parameter$Kind;Ljava/lang/String;Ljava/lang/String;ZIZZLjava/lang/String;)V" } : Jvm.MethodName) prog_4_method_1_code (9 : Nat) (Option.none : Option Jvm.ClassFile.FieldType)).before args0 about1 = true := code_word (m := ⟨9, 0⟩) (meth := k9m0) (c := k9c0) (by decide +kernel) rfl rfl rfl (by decide +kernel)
set_option maxRecDepth 65536 in
theorem w_c9 : (Jvm.Cond.code ({ cls := "com/example/elodea/elodea/cli/Parameter", name := "getKind", desc := "()Lcom/example/elodea/elodea/cli/Parameter$Kind;" } : Jvm.MethodName) prog_4_method_8_code (1 : Nat) (Option.some (Jvm.ClassFile.FieldType.object "com/example/elodea/elodea/cli/Parameter$Kind"))).before args0 about1 = true := code_word (m := ⟨9, 2⟩) (meth := k9m2) (c := k9c2) (by decide +kernel) rfl rfl rfl (by decide +kernel)
set_option maxRecDepth 65536 in
theorem w_c10 : (Jvm.Cond.code ({ cls := "com/example/elodea/elodea/cli/Parameter", name := "getName", desc := "()Ljava/lang/String;" } : Jvm.MethodName) prog_4_method_9_code (1 : Nat) (Option.some (Jvm.ClassFile.FieldType.object "java/lang/String"))).before args0 about1 = true := code_word (m := ⟨9, 3⟩) (meth := k9m3) (c := k9c3) (by decide +kernel) rfl rfl rfl (by decide +kernel)
set_option maxRecDepth 65536 in
theorem w_c11 : (Jvm.Cond.code ({ cls := "java/lang/String", name := "equals", desc := "(Ljava/lang/Object;)Z" } : Jvm.MethodName) jdk_42_method_66_code (3 : Nat) (Option.some Jvm.ClassFile.FieldType.boolean)).before args0 about1 = true := code_word (m := ⟨7, 4⟩) (meth := k7m4) (c := k7c4) (by decide +kernel) rfl rfl rfl (by decide +kernel)
set_option maxRecDepth 65536 in
theorem w_c12 : (Jvm.Cond.code ({ cls := "com/example/elodea/elodea/cli/Parameter", name := "getDescription", desc := "()Ljava/lang/String;" } : Jvm.MethodName) prog_4_method_13_code (1 : Nat) (Option.some (Jvm.ClassFile.FieldType.object "java/lang/String"))).before args0 about1 = true := code_word (m := ⟨9, 7⟩) (meth := k9m7) (c := k9c7) (by decide +kernel) rfl rfl rfl (by decide +kernel)
set_option maxRecDepth 65536 in
theorem w_c13 : (Jvm.Cond.code ({ cls := "com/example/elodea/elodea/cli/Parameter", name := "getLeast", desc := "()I" } : Jvm.MethodName) prog_4_method_10_code (1 : Nat) (Option.some Jvm.ClassFile.FieldType.int)).before args0 about1 = true := code_word (m := ⟨9, 4⟩) (meth := k9m4) (c := k9c4) (by decide +kernel) rfl rfl rfl (by decide +kernel)
set_option maxRecDepth 65536 in
theorem w_c14 : (Jvm.Cond.code ({ cls := "com/example/elodea/elodea/cli/Parameter", name := "isRepeated", desc := "()Z" } : Jvm.MethodName) prog_4_method_11_code (1 : Nat) (Option.some Jvm.ClassFile.FieldType.boolean)).before args0 about1 = true := code_word (m := ⟨9, 5⟩) (meth := k9m5) (c := k9c5) (by decide +kernel) rfl rfl rfl (by decide +kernel)
set_option maxRecDepth 65536 in
theorem w_c15 : (Jvm.Cond.code ({ cls := "com/example/elodea/elodea/cli/Parameter", name := "isStandIn", desc := "()Z" } : Jvm.MethodName) prog_4_method_12_code (1 : Nat) (Option.some Jvm.ClassFile.FieldType.boolean)).before args0 about1 = true := code_word (m := ⟨9, 6⟩) (meth := k9m6) (c := k9c6) (by decide +kernel) rfl rfl rfl (by decide +kernel)
set_option maxRecDepth 65536 in
theorem w_c16 : (Jvm.Cond.code ({ cls := "com/example/elodea/elodea/cli/Parameter", name := "getWordName", desc := "(I)Ljava/lang/String;" } : Jvm.MethodName) prog_4_method_15_code (2 : Nat) (Option.some (Jvm.ClassFile.FieldType.object "java/lang/String"))).before args0 about1 = true := code_word (m := ⟨9, 9⟩) (meth := k9m9) (c := k9c9) (by decide +kernel) rfl rfl rfl (by decide +kernel)
set_option maxRecDepth 65536 in
theorem w_c17 : (Jvm.Cond.code ({ cls := "com/example/elodea/elodea/cli/Parameter", name := "getUsage", desc := "()Ljava/lang/String;" } : Jvm.MethodName) prog_4_method_16_code (1 : Nat) (Option.some (Jvm.ClassFile.FieldType.object "java/lang/String"))).before args0 about1 = true := code_word (m := ⟨9, 10⟩) (meth := k9m10) (c := k9c10) (by decide +kernel) rfl rfl rfl (by decide +kernel)
set_option maxRecDepth 65536 in
theorem w_c18 : (Jvm.Cond.code ({ cls := "com/example/elodea/elodea/cli/Parameter", name := "getLabel", desc := "()Ljava/lang/String;" } : Jvm.MethodName) prog_4_method_14_code (2 : Nat) (Option.some (Jvm.ClassFile.FieldType.object "java/lang/String"))).before args0 about1 = true := code_word (m := ⟨9, 8⟩) (meth := k9m8) (c := k9c8) (by decide +kernel) rfl rfl rfl (by decide +kernel)
set_option maxRecDepth 65536 in
theorem w_c19 : (Jvm.Cond.code ({ cls := "java/lang/StringBuilder", name := "<init>", desc := "()V" } : Jvm.MethodName) jdk_67_method_1_code (1 : Nat) (Option.none : Option Jvm.ClassFile.FieldType)).before args0 about1 = true := code_word (m := ⟨14, 0⟩) (meth := k14m0) (c := k14c0) (by decide +kernel) rfl rfl rfl (by decide +kernel)
set_option maxRecDepth 65536 in
theorem w_c20 : (Jvm.Cond.code ({ cls := "java/lang/AbstractStringBuilder", name := "<init>", desc := "(I)V" } : Jvm.MethodName) jdk_68_method_2_code (2 : Nat) (Option.none : Option Jvm.ClassFile.FieldType)).before args0 about1 = true := code_word (m := ⟨13, 1⟩) (meth := k13m1) (c := k13c1) (by decide +kernel) rfl rfl rfl (by decide +kernel)
set_option maxRecDepth 65536 in
theorem w_c21 : (Jvm.Cond.code ({ cls := "java/lang/StringBuilder", name := "append", desc := "(Ljava/lang/String;)Ljava/lang/StringBuilder;" } : Jvm.MethodName) jdk_67_method_7_code (2 : Nat) (Option.some (Jvm.ClassFile.FieldType.object "java/lang/StringBuilder"))).before args0 about1 = true := code_word (m := ⟨14, 1⟩) (meth := k14m1) (c := k14c1) (by decide +kernel) rfl rfl rfl (by decide +kernel)
set_option maxRecDepth 65536 in
theorem w_c22 : (Jvm.Cond.code ({ cls := "java/lang/AbstractStringBuilder", name := "append", desc := "(Ljava/lang/String;)Ljava/lang/AbstractStringBuilder;" } : Jvm.MethodName) jdk_68_method_22_code (3 : Nat) (Option.some (Jvm.ClassFile.FieldType.object "java/lang/AbstractStringBuilder"))).before args0 about1 = true := code_word (m := ⟨13, 4⟩) (meth := k13m4) (c := k13c4) (by decide +kernel) rfl rfl rfl (by decide +kernel)
set_option maxRecDepth 65536 in
theorem w_c23 : (Jvm.Cond.code ({ cls := "java/lang/String", name := "length", desc := "()I" } : Jvm.MethodName) jdk_42_method_54_code (1 : Nat) (Option.some Jvm.ClassFile.FieldType.int)).before args0 about1 = true := code_word (m := ⟨7, 3⟩) (meth := k7m3) (c := k7c3) (by decide +kernel) rfl rfl rfl (by decide +kernel)
set_option maxRecDepth 65536 in
theorem w_c24 : (Jvm.Cond.code ({ cls := "java/lang/String", name := "coder", desc := "()B" } : Jvm.MethodName) jdk_42_method_152_code (1 : Nat) (Option.some Jvm.ClassFile.FieldType.byte)).before args0 about1 = true := code_word (m := ⟨7, 8⟩) (meth := k7m8) (c := k7c8) (by decide +kernel) rfl rfl rfl (by decide +kernel)
set_option maxRecDepth 65536 in
theorem w_c25 : (Jvm.Cond.code ({ cls := "java/lang/AbstractStringBuilder", name := "ensureCapacityInternal", desc := "(I)V" } : Jvm.MethodName) jdk_68_method_9_code (3 : Nat) (Option.none : Option Jvm.ClassFile.FieldType)).before args0 about1 = true := code_word (m := ⟨13, 3⟩) (meth := k13m3) (c := k13c3) (by decide +kernel) rfl rfl rfl (by decide +kernel)
set_option maxRecDepth 65536 in
theorem w_c26 : (Jvm.Cond.code ({ cls := "java/lang/AbstractStringBuilder", name := "putStringAt", desc := "(ILjava/lang/String;)V" } : Jvm.MethodName) jdk_68_method_73_code (3 : Nat) (Option.none : Option Jvm.ClassFile.FieldType)).before args0 about1 = true := code_word (m := ⟨13, 8⟩) (meth := k13m8) (c := k13c8) (by decide +kernel) rfl rfl rfl (by decide +kernel)
set_option maxRecDepth 65536 in
theorem w_c27 : (Jvm.Cond.code ({ cls := "java/lang/AbstractStringBuilder", name := "inflateIfNeededFor", desc := "(Ljava/lang/String;)V" } : Jvm.MethodName) jdk_68_method_71_code (2 : Nat) (Option.none : Option Jvm.ClassFile.FieldType)).before args0 about1 = true := code_word (m := ⟨13, 7⟩) (meth := k13m7) (c := k13c7) (by decide +kernel) rfl rfl rfl (by decide +kernel)
set_option maxRecDepth 65536 in
theorem w_c28 : (Jvm.Cond.code ({ cls := "java/lang/String", name := "getBytes", desc := "([BIB)V" } : Jvm.MethodName) jdk_42_method_147_code (4 : Nat) (Option.none : Option Jvm.ClassFile.FieldType)).before args0 about1 = true := code_word (m := ⟨7, 5⟩) (meth := k7m5) (c := k7c5) (by decide +kernel) rfl rfl rfl (by decide +kernel)
set_option maxRecDepth 65536 in
theorem w_c29 : (Jvm.Cond.code ({ cls := "java/lang/StringBuilder", name := "toString", desc := "()Ljava/lang/String;" } : Jvm.MethodName) jdk_67_method_42_code (1 : Nat) (Option.some (Jvm.ClassFile.FieldType.object "java/lang/String"))).before args0 about1 = true := code_word (m := ⟨14, 2⟩) (meth := k14m2) (c := k14c2) (by decide +kernel) rfl rfl rfl (by decide +kernel)
set_option maxRecDepth 65536 in
theorem w_c30 : (Jvm.Cond.code ({ cls := "java/lang/String", name := "<init>", desc := "(Ljava/lang/StringBuilder;)V" } : Jvm.MethodName) jdk_42_method_53_code (2 : Nat) (Option.none : Option Jvm.ClassFile.FieldType)).before args0 about1 = true := code_word (m := ⟨7, 2⟩) (meth := k7m2) (c := k7c2) (by decide +kernel) rfl rfl rfl (by decide +kernel)
set_option maxRecDepth 65536 in
theorem w_c31 : (Jvm.Cond.code ({ cls := "java/lang/String", name := "<init>", desc := "(Ljava/lang/AbstractStringBuilder;Ljava/lang/Void;)V" } : Jvm.MethodName) jdk_42_method_150_code (5 : Nat) (Option.none : Option Jvm.ClassFile.FieldType)).before args0 about1 = true := code_word (m := ⟨7, 7⟩) (meth := k7m7) (c := k7c7) (by decide +kernel) rfl rfl rfl (by decide +kernel)
set_option maxRecDepth 65536 in
theorem w_c32 : (Jvm.Cond.code ({ cls := "java/lang/AbstractStringBuilder", name := "getValue", desc := "()[B" } : Jvm.MethodName) jdk_68_method_64_code (1 : Nat) (Option.some (Jvm.ClassFile.FieldType.array Jvm.ClassFile.FieldType.byte))).before args0 about1 = true := code_word (m := ⟨13, 5⟩) (meth := k13m5) (c := k13c5) (by decide +kernel) rfl rfl rfl (by decide +kernel)
set_option maxRecDepth 65536 in
theorem w_c33 : (Jvm.Cond.code ({ cls := "java/lang/StringBuilder", name := "length", desc := "()I" } : Jvm.MethodName) jdk_67_method_93_code (1 : Nat) (Option.some Jvm.ClassFile.FieldType.int)).before args0 about1 = true := code_word (m := ⟨14, 3⟩) (meth := k14m3) (c := k14c3) (by decide +kernel) rfl rfl rfl (by decide +kernel)
set_option maxRecDepth 65536 in
theorem w_c34 : (Jvm.Cond.code ({ cls := "java/lang/AbstractStringBuilder", name := "length", desc := "()I" } : Jvm.MethodName) jdk_68_method_6_code (1 : Nat) (Option.some Jvm.ClassFile.FieldType.int)).before args0 about1 = true := code_word (m := ⟨13, 2⟩) (meth := k13m2) (c := k13c2) (by decide +kernel) rfl rfl rfl (by decide +kernel)
set_option maxRecDepth 65536 in
theorem w_c35 : (Jvm.Cond.code ({ cls := "java/lang/AbstractStringBuilder", name := "isLatin1", desc := "()Z" } : Jvm.MethodName) jdk_68_method_68_code (1 : Nat) (Option.some Jvm.ClassFile.FieldType.boolean)).before args0 about1 = true := code_word (m := ⟨13, 6⟩) (meth := k13m6) (c := k13c6) (by decide +kernel) rfl rfl rfl (by decide +kernel)
set_option maxRecDepth 65536 in
theorem w_c36 : (Jvm.Cond.code ({ cls := "java/util/Arrays", name := "copyOfRange", desc := "([BII)[B" } : Jvm.MethodName) jdk_65_method_132_code (3 : Nat) (Option.some (Jvm.ClassFile.FieldType.array Jvm.ClassFile.FieldType.byte))).before args0 about1 = true := code_word (m := ⟨16, 2⟩) (meth := k16m2) (c := k16c2) (by decide +kernel) rfl rfl rfl (by decide +kernel)
set_option maxRecDepth 65536 in
theorem w_c37 : (Jvm.Cond.code ({ cls := "java/util/Arrays", name := "copyOfRangeByte", desc := "([BII)[B" } : Jvm.MethodName) jdk_65_method_133_code (5 : Nat) (Option.some (Jvm.ClassFile.FieldType.array Jvm.ClassFile.FieldType.byte))).before args0 about1 = true := code_word (m := ⟨16, 3⟩) (meth := k16m3) (c := k16c3) (by decide +kernel) rfl rfl rfl (by decide +kernel)
set_option maxRecDepth 65536 in
theorem w_c38 : (Jvm.Cond.code ({ cls := "java/util/Arrays", name := "checkLength", desc := "(II)V" } : Jvm.MethodName) jdk_65_method_131_code (2 : Nat) (Option.none : Option Jvm.ClassFile.FieldType)).before args0 about1 = true := code_word (m := ⟨16, 1⟩) (meth := k16m1) (c := k16c1) (by decide +kernel) rfl rfl rfl (by decide +kernel)
set_option maxRecDepth 65536 in
theorem w_c39 : (Jvm.Cond.code ({ cls := "java/lang/Math", name := "min", desc := "(II)I" } : Jvm.MethodName) jdk_29_method_69_code (2 : Nat) (Option.some Jvm.ClassFile.FieldType.int)).before args0 about1 = true := code_word (m := ⟨17, 1⟩) (meth := k17m1) (c := k17c1) (by decide +kernel) rfl rfl rfl (by decide +kernel)
set_option maxRecDepth 65536 in
theorem w_c40 : (Jvm.Cond.code ({ cls := "java/lang/StringLatin1", name := "equals", desc := "([B[B)Z" } : Jvm.MethodName) jdk_43_method_13_code (3 : Nat) (Option.some Jvm.ClassFile.FieldType.boolean)).before args0 about1 = true := code_word (m := ⟨18, 1⟩) (meth := k18m1) (c := k18c1) (by decide +kernel) rfl rfl rfl (by decide +kernel)
def codes1 : List Jvm.Cond := [Jvm.Cond.code x code maxLocals ret, Jvm.Cond.code ({ cls := "java/lang/String", name := "<init>", desc := "([C)V" } : Jvm.MethodName) jdk_42_method_3_code (2 : Nat) (Option.none : Option Jvm.ClassFile.FieldType), Jvm.Cond.code ({ cls := "java/lang/String", name := "<init>", desc := "([CIILjava/lang/Void;)V" } : Jvm.MethodName) jdk_42_method_149_code (6 : Nat) (Option.none : Option Jvm.ClassFile.FieldType), Jvm.Cond.code ({ cls := "java/lang/Object", name := "<init>", desc := "()V" } : Jvm.MethodName) object_method_1_code (1 : Nat) (Option.none : Option Jvm.ClassFile.FieldType), Jvm.Cond.code ({ cls := "java/lang/StringUTF16", name := "compress", desc := "([CII)[B" } : Jvm.MethodName) jdk_52_method_16_code (6 : Nat) (Option.some (Jvm.ClassFile.FieldType.array Jvm.ClassFile.FieldType.byte)), Jvm.Cond.code ({ cls := "java/lang/StringUTF16", name := "compress", desc := "([CI[BII)I" } : Jvm.MethodName) jdk_52_method_21_code (7 : Nat) (Option.some Jvm.ClassFile.FieldType.int), Jvm.Cond.code ({ cls := "java/lang/StringUTF16", name := "coderFromArrayLen", desc := "([BI)B" } : Jvm.MethodName) jdk_52_method_15_code (2 : Nat) (Option.some Jvm.ClassFile.FieldType.byte), Jvm.Cond.code ({ cls := "com/example/elodea/elodea/cli/Parameter", name := "option", desc := "(Ljava/lang/String;Ljava/lang/String;Ljava/lang/String;)Lcom/example/elodea/elodea/cli/Parameter;" } : Jvm.MethodName) prog_4_method_2_code (3 : Nat) (Option.some (Jvm.ClassFile.FieldType.object "com/example/elodea/elodea/cli/Parameter")), Jvm.Cond.code ({ cls := "com/example/elodea/elodea/cli/Parameter", name := "<init>", desc := "(Lcom/example/elodea/elodea/cli/Parameter$Kind;Ljava/lang/String;Ljava/lang/String;ZIZZLjava/lang/String;)V" } : Jvm.MethodName) prog_4_method_1_code (9 : Nat) (Option.none : Option Jvm.ClassFile.FieldType), Jvm.Cond.code ({ cls := "com/example/elodea/elodea/cli/Parameter", name := "getKind", desc := "()Lcom/example/elodea/elodea/cli/Parameter$Kind;" } : Jvm.MethodName) prog_4_method_8_code (1 : Nat) (Option.some (Jvm.ClassFile.FieldType.object "com/example/elodea/elodea/cli/Parameter$Kind")), Jvm.Cond.code ({ cls := "com/example/elodea/elodea/cli/Parameter", name := "getName", desc := "()Ljava/lang/String;" } : Jvm.MethodName) prog_4_method_9_code (1 : Nat) (Option.some (Jvm.ClassFile.FieldType.object "java/lang/String")), Jvm.Cond.code ({ cls := "java/lang/String", name := "equals", desc := "(Ljava/lang/Object;)Z" } : Jvm.MethodName) jdk_42_method_66_code (3 : Nat) (Option.some Jvm.ClassFile.FieldType.boolean), Jvm.Cond.code ({ cls := "com/example/elodea/elodea/cli/Parameter", name := "getDescription", desc := "()Ljava/lang/String;" } : Jvm.MethodName) prog_4_method_13_code (1 : Nat) (Option.some (Jvm.ClassFile.FieldType.object "java/lang/String")), Jvm.Cond.code ({ cls := "com/example/elodea/elodea/cli/Parameter", name := "getLeast", desc := "()I" } : Jvm.MethodName) prog_4_method_10_code (1 : Nat) (Option.some Jvm.ClassFile.FieldType.int), Jvm.Cond.code ({ cls := "com/example/elodea/elodea/cli/Parameter", name := "isRepeated", desc := "()Z" } : Jvm.MethodName) prog_4_method_11_code (1 : Nat) (Option.some Jvm.ClassFile.FieldType.boolean), Jvm.Cond.code ({ cls := "com/example/elodea/elodea/cli/Parameter", name := "isStandIn", desc := "()Z" } : Jvm.MethodName) prog_4_method_12_code (1 : Nat) (Option.some Jvm.ClassFile.FieldType.boolean), Jvm.Cond.code ({ cls := "com/example/elodea/elodea/cli/Parameter", name := "getWordName", desc := "(I)Ljava/lang/String;" } : Jvm.MethodName) prog_4_method_15_code (2 : Nat) (Option.some (Jvm.ClassFile.FieldType.object "java/lang/String")), Jvm.Cond.code ({ cls := "com/example/elodea/elodea/cli/Parameter", name := "getUsage", desc := "()Ljava/lang/String;" } : Jvm.MethodName) prog_4_method_16_code (1 : Nat) (Option.some (Jvm.ClassFile.FieldType.object "java/lang/String")), Jvm.Cond.code ({ cls := "com/example/elodea/elodea/cli/Parameter", name := "getLabel", desc := "()Ljava/lang/String;" } : Jvm.MethodName) prog_4_method_14_code (2 : Nat) (Option.some (Jvm.ClassFile.FieldType.object "java/lang/String")), Jvm.Cond.code ({ cls := "java/lang/StringBuilder", name := "<init>", desc := "()V" } : Jvm.MethodName) jdk_67_method_1_code (1 : Nat) (Option.none : Option Jvm.ClassFile.FieldType), Jvm.Cond.code ({ cls := "java/lang/AbstractStringBuilder", name := "<init>", desc := "(I)V" } : Jvm.MethodName) jdk_68_method_2_code (2 : Nat) (Option.none : Option Jvm.ClassFile.FieldType), Jvm.Cond.code ({ cls := "java/lang/StringBuilder", name := "append", desc := "(Ljava/lang/String;)Ljava/lang/StringBuilder;" } : Jvm.MethodName) jdk_67_method_7_code (2 : Nat) (Option.some (Jvm.ClassFile.FieldType.object "java/lang/StringBuilder")), Jvm.Cond.code ({ cls := "java/lang/AbstractStringBuilder", name := "append", desc := "(Ljava/lang/String;)Ljava/lang/AbstractStringBuilder;" } : Jvm.MethodName) jdk_68_method_22_code (3 : Nat) (Option.some (Jvm.ClassFile.FieldType.object "java/lang/AbstractStringBuilder")), Jvm.Cond.code ({ cls := "java/lang/String", name := "length", desc := "()I" } : Jvm.MethodName) jdk_42_method_54_code (1 : Nat) (Option.some Jvm.ClassFile.FieldType.int), Jvm.Cond.code ({ cls := "java/lang/String", name := "coder", desc := "()B" } : Jvm.MethodName) jdk_42_method_152_code (1 : Nat) (Option.some Jvm.ClassFile.FieldType.byte), Jvm.Cond.code ({ cls := "java/lang/AbstractStringBuilder", name := "ensureCapacityInternal", desc := "(I)V" } : Jvm.MethodName) jdk_68_method_9_code (3 : Nat) (Option.none : Option Jvm.ClassFile.FieldType), Jvm.Cond.code ({ cls := "java/lang/AbstractStringBuilder", name := "putStringAt", desc := "(ILjava/lang/String;)V" } : Jvm.MethodName) jdk_68_method_73_code (3 : Nat) (Option.none : Option Jvm.ClassFile.FieldType), Jvm.Cond.code ({ cls := "java/lang/AbstractStringBuilder", name := "inflateIfNeededFor", desc := "(Ljava/lang/String;)V" } : Jvm.MethodName) jdk_68_method_71_code (2 : Nat) (Option.none : Option Jvm.ClassFile.FieldType), Jvm.Cond.code ({ cls := "java/lang/String", name := "getBytes", desc := "([BIB)V" } : Jvm.MethodName) jdk_42_method_147_code (4 : Nat) (Option.none : Option Jvm.ClassFile.FieldType), Jvm.Cond.code ({ cls := "java/lang/StringBuilder", name := "toString", desc := "()Ljava/lang/String;" } : Jvm.MethodName) jdk_67_method_42_code (1 : Nat) (Option.some (Jvm.ClassFile.FieldType.object "java/lang/String")), Jvm.Cond.code ({ cls := "java/lang/String", name := "<init>", desc := "(Ljava/lang/StringBuilder;)V" } : Jvm.MethodName) jdk_42_method_53_code (2 : Nat) (Option.none : Option Jvm.ClassFile.FieldType), Jvm.Cond.code ({ cls := "java/lang/String", name := "<init>", desc := "(Ljava/lang/AbstractStringBuilder;Ljava/lang/Void;)V" } : Jvm.MethodName) jdk_42_method_150_code (5 : Nat) (Option.none : Option Jvm.ClassFile.FieldType), Jvm.Cond.code ({ cls := "java/lang/AbstractStringBuilder", name := "getValue", desc := "()[B" } : Jvm.MethodName) jdk_68_method_64_code (1 : Nat) (Option.some (Jvm.ClassFile.FieldType.array Jvm.ClassFile.FieldType.byte)), Jvm.Cond.code ({ cls := "java/lang/StringBuilder", name := "length", desc := "()I" } : Jvm.MethodName) jdk_67_method_93_code (1 : Nat) (Option.some Jvm.ClassFile.FieldType.int), Jvm.Cond.code ({ cls := "java/lang/AbstractStringBuilder", name := "length", desc := "()I" } : Jvm.MethodName) jdk_68_method_6_code (1 : Nat) (Option.some Jvm.ClassFile.FieldType.int), Jvm.Cond.code ({ cls := "java/lang/AbstractStringBuilder", name := "isLatin1", desc := "()Z" } : Jvm.MethodName) jdk_68_method_68_code (1 : Nat) (Option.some Jvm.ClassFile.FieldType.boolean), Jvm.Cond.code ({ cls := "java/util/Arrays", name := "copyOfRange", desc := "([BII)[B" } : Jvm.MethodName) jdk_65_method_132_code (3 : Nat) (Option.some (Jvm.ClassFile.FieldType.array Jvm.ClassFile.FieldType.byte)), Jvm.Cond.code ({ cls := "java/util/Arrays", name := "copyOfRangeByte", desc := "([BII)[B" } : Jvm.MethodName) jdk_65_method_133_code (5 : Nat) (Option.some (Jvm.ClassFile.FieldType.array Jvm.ClassFile.FieldType.byte)), Jvm.Cond.code ({ cls := "java/util/Arrays", name := "checkLength", desc := "(II)V" } : Jvm.MethodName) jdk_65_method_131_code (2 : Nat) (Option.none : Option Jvm.ClassFile.FieldType), Jvm.Cond.code ({ cls := "java/lang/Math", name := "min", desc := "(II)I" } : Jvm.MethodName) jdk_29_method_69_code (2 : Nat) (Option.some Jvm.ClassFile.FieldType.int), Jvm.Cond.code ({ cls := "java/lang/StringLatin1", name := "equals", desc := "([B[B)Z" } : Jvm.MethodName) jdk_43_method_13_code (3 : Nat) (Option.some Jvm.ClassFile.FieldType.boolean)]
set_option maxRecDepth 65536 in
theorem codes_eq : words1.filter isCode = codes1 := rfl
theorem w_codes : ∀ c ∈ words1.filter isCode, c.before args0 about1 = true := by
  rw [codes_eq]
  intro c hc
  simp only [codes1, List.mem_cons, List.not_mem_nil, or_false] at hc
  rcases hc with rfl | rfl | rfl | rfl | rfl | rfl | rfl | rfl | rfl | rfl | rfl | rfl | rfl | rfl | rfl | rfl | rfl | rfl | rfl | rfl | rfl | rfl | rfl | rfl | rfl | rfl | rfl | rfl | rfl | rfl | rfl | rfl | rfl | rfl | rfl | rfl | rfl | rfl | rfl | rfl | rfl
  · exact w_c0
  · exact w_c1
  · exact w_c2
  · exact w_c3
  · exact w_c4
  · exact w_c5
  · exact w_c6
  · exact w_c7
  · exact w_c8
  · exact w_c9
  · exact w_c10
  · exact w_c11
  · exact w_c12
  · exact w_c13
  · exact w_c14
  · exact w_c15
  · exact w_c16
  · exact w_c17
  · exact w_c18
  · exact w_c19
  · exact w_c20
  · exact w_c21
  · exact w_c22
  · exact w_c23
  · exact w_c24
  · exact w_c25
  · exact w_c26
  · exact w_c27
  · exact w_c28
  · exact w_c29
  · exact w_c30
  · exact w_c31
  · exact w_c32
  · exact w_c33
  · exact w_c34
  · exact w_c35
  · exact w_c36
  · exact w_c37
  · exact w_c38
  · exact w_c39
  · exact w_c40
set_option maxRecDepth 65536 in
theorem w_t1 : (words1.take 24).all (fun c => isCode c || c.before args0 about1) = true := by decide +kernel
set_option maxRecDepth 65536 in
theorem w_t2 : ((words1.drop 24).take 24).all (fun c => isCode c || c.before args0 about1) = true := by decide +kernel
set_option maxRecDepth 65536 in
theorem w_t3 : (((words1.drop 24).drop 24).take 24).all (fun c => isCode c || c.before args0 about1) = true := by decide +kernel
set_option maxRecDepth 65536 in
theorem w_t4 : ((((words1.drop 24).drop 24).drop 24).take 24).all (fun c => isCode c || c.before args0 about1) = true := by decide +kernel
set_option maxRecDepth 65536 in
theorem w_t5 : (((((words1.drop 24).drop 24).drop 24).drop 24).take 24).all (fun c => isCode c || c.before args0 about1) = true := by decide +kernel
set_option maxRecDepth 65536 in
theorem w_t6 : ((((((words1.drop 24).drop 24).drop 24).drop 24).drop 24).take 24).all (fun c => isCode c || c.before args0 about1) = true := by decide +kernel
set_option maxRecDepth 65536 in
theorem w_t7 : (((((((words1.drop 24).drop 24).drop 24).drop 24).drop 24).drop 24).take 24).all (fun c => isCode c || c.before args0 about1) = true := by decide +kernel
set_option maxRecDepth 65536 in
theorem w_t8 : ((((((((words1.drop 24).drop 24).drop 24).drop 24).drop 24).drop 24).drop 24).take 24).all (fun c => isCode c || c.before args0 about1) = true := by decide +kernel
set_option maxRecDepth 65536 in
theorem w_t9 : (((((((((words1.drop 24).drop 24).drop 24).drop 24).drop 24).drop 24).drop 24).drop 24).take 24).all (fun c => isCode c || c.before args0 about1) = true := by decide +kernel
set_option maxRecDepth 65536 in
theorem w_t10 : (((((((((words1.drop 24).drop 24).drop 24).drop 24).drop 24).drop 24).drop 24).drop 24).drop 24).all (fun c => isCode c || c.before args0 about1) = true := by decide +kernel
theorem w_tables : (allAtoms (Jvm.Cond.code x code maxLocals ret :: tables_1)).before args0 about1 = true := by
  rw [allAtoms_all]
  show words1.all (fun c => c.before args0 about1) = true
  refine all_split ?_ w_codes
  rw [← List.take_append_drop 24 words1, List.all_append, w_t1, ← List.take_append_drop 24 (words1.drop 24), List.all_append, w_t2, ← List.take_append_drop 24 ((words1.drop 24).drop 24), List.all_append, w_t3, ← List.take_append_drop 24 (((words1.drop 24).drop 24).drop 24), List.all_append, w_t4, ← List.take_append_drop 24 ((((words1.drop 24).drop 24).drop 24).drop 24), List.all_append, w_t5, ← List.take_append_drop 24 (((((words1.drop 24).drop 24).drop 24).drop 24).drop 24), List.all_append, w_t6, ← List.take_append_drop 24 ((((((words1.drop 24).drop 24).drop 24).drop 24).drop 24).drop 24), List.all_append, w_t7, ← List.take_append_drop 24 (((((((words1.drop 24).drop 24).drop 24).drop 24).drop 24).drop 24).drop 24), List.all_append, w_t8, ← List.take_append_drop 24 ((((((((words1.drop 24).drop 24).drop 24).drop 24).drop 24).drop 24).drop 24).drop 24), List.all_append, w_t9, w_t10]
  rfl
set_option maxRecDepth 65536 in
theorem w_rest : rest_1_c.before args0 about1 = true := by decide +kernel
set_option maxRecDepth 65536 in
theorem w_case : (Jvm.Cond.and given_1 narrow_1).before args0 about1 = true := by decide +kernel
set_option maxRecDepth 65536 in
theorem w_consts : constsHeld consts_1 about1 := Jvm.Lit.constsHeldB_iff.mp (by decide +kernel)
theorem w_applies : (headSpec (Jvm.Cond.code x code maxLocals ret :: tables_1) room_1).applies x e0.platform about1 = true :=
  (Spec.applies_iff w_frames).mpr ⟨w_running, w_runnable, w_alone, w_named, w_hears, w_ripe, w_room, w_tables⟩
theorem atStart : AtStart classFile x code maxLocals ret World_1 tables_1 room_1 Calls_1 rest_1 Pre_1 launch0 p0 e0 about1 theMethod args0 below0 :=
  ⟨lists_1, trivial, launch0.admits_env _ _ _, launch0.least_env, fairChoices_fair.cas, fairChoices_fair.clock, w_frames, w_args, w_heap, w_applies, ⟨w_consts, trivial⟩, w_rest, w_case⟩
end start1
theorem witness_1 : WitnessClaimed_1 := ⟨start1.p0, start1.e0, start1.about1, start1.theMethod, start1.args0, start1.below0, start1.atStart⟩
end Jvm.Pilot.@@N@@
