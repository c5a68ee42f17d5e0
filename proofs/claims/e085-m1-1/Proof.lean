import JvmDerived
import JvmDerived.Pilot.@@N@@Statement
import JvmDerived.Pilot.@@N@@Code
set_option linter.unusedVariables false
set_option linter.unusedSimpArgs false
@@BLOCK:NumsL.lean.txt@@
namespace Jvm.RoadKit
open Sem ClassFile Op Lib Jvm.Stand Jvm.Free Jvm.LawKit
section New
variable {p : Program} {l : Launch} {e : Env} {R : Room} {s : State} {m : MethodId} {args : Array Value} {below : List Frame} {meth : Method} {c : Code} {T : State} {locs : List Loc} {cells slots : Nat}
theorem retI (X : Stand p l e R s m args below meth c T locs cells slots) (hx : p.tables.exec = Jvm.exec) {pc : Nat} {Ls : Array Slot} {z : Int32} {rest : List Value} (hret : meth.sig.returnType = some .int) (hd : decode c.code pc = .ok (.ireturn, 1)) {fs : List Frame}
    (hl : ∀ (f : JFrame) (acts : List Action), f.method = m → f.locked = none → f.entered = [] → (doReturn e (T.setTop f) acts (some (.int z))).1 = T.setFrames fs) : Steps p.tables e below (T.setTop (mkF m pc Ls (.int z :: rest))) (T.setFrames fs) := by
  have hm' : T.vm.method? m = some meth := X.method'
  have hn : narrow .int (.int z) = .int z := rfl
  show Steps p.tables e below (T.setTop { method := m, pc := pc, locals := Ls, stack := _ :: rest, locked := none }) _
  jvm_step X.here [X.here.top, hx, hd, hm', hret, hn]
  first | (intro acts; rw [hl _ acts rfl rfl rfl]) | rw [hl _ _ rfl rfl rfl]
  exact Steps.refl _
end New
end Jvm.RoadKit
/- laws to paste: Road.backV (cut by pick.py; bodies as the Statement names them) -/
namespace Jvm.Pilot.@@N@@
namespace StrChars
open Jvm Sem ClassFile Op Lib Jvm.Stand Jvm.Free.XT Jvm.Free.ALB Jvm.Free.JM Jvm.Free
open Jvm.Lib.Cold (StaticIs)
/-- a char array whose places are chars -/
def Ch (a : Addr) (A : Cell) (U : State) : Prop := Arr .char a A U ∧ Typed .char A
theorem Ch.mv {a : Addr} {A : Cell} {U U' : State} (h : Ch a A U) (hal : U.vm.Alike U'.vm) (hh : U'.heap = U.heap) : Ch a A U' := ⟨h.1.mv hal hh, h.2⟩
theorem Ch.keep {a : Addr} {A : Cell} {U U' : State} (h : Ch a A U) (hal : U.vm.Alike U'.vm) (hk : U'.heap[a]? = some A) : Ch a A U' := ⟨h.1.keep hal hk, h.2⟩
/-- what place i of a char[]'s cell holds -/
def cv (A : Cell) (i : Nat) : Int32 := match A.slots[i]? with | some (.int x) => x | _ => 0
theorem Ch.get {a : Addr} {A : Cell} {U : State} (h : Ch a A U) {i : Nat} (hi : i < A.slots.size) : A.slots[i]? = some (.int (cv A i)) := by
  have e := Array.getElem?_eq_getElem hi
  have f := h.2 i _ e
  unfold cv; rw [e]
  generalize A.slots[i] = v at f
  cases v <;> simp [fits] at f ⊢
/-- the byte that i2b leaves of a char -/
def lo8 (x : Int32) : Int32 := x.toInt8.toInt32
theorem fits_lo8 (y : Int32) : fits .byte (.int (lo8 y)) = true := by
  have h1 := y.toInt8.le_toInt
  have h2 := y.toInt8.toInt_lt
  simp only [lo8, fits, Bool.and_eq_true, decide_eq_true_eq, Int32.le_iff_toInt_le, Int8.toInt_toInt32, show (-128 : Int32).toInt = -128 from by decide, show (127 : Int32).toInt = 127 from by decide]
  omega
/-- A' is A but that each place j of lo .. hi - 1 holds f j -/
def Laid (A A' : Cell) (lo hi : Nat) (f : Nat → Value) : Prop := A'.cls = A.cls ∧ A'.vm = A.vm ∧ A'.slots.size = A.slots.size ∧ ∀ i, A'.slots[i]? = if lo ≤ i ∧ i < hi then some (f i) else A.slots[i]?
theorem Laid.zero (A : Cell) (lo : Nat) (f : Nat → Value) : Laid A A lo (lo + 0) f := ⟨rfl, rfl, rfl, fun i => by rw [if_neg (by omega)]⟩
theorem Laid.step {A Ak : Cell} {lo k : Nat} {f : Nat → Value} {v : Value} (h : Laid A Ak lo k f) (hlo : lo ≤ k) (hk : k < Ak.slots.size) (hv : v = f k) : Laid A (Ak.setSlot k v) lo (k + 1) f := by
  refine ⟨h.1, h.2.1, by simpa [Cell.setSlot] using h.2.2.1, fun i => ?_⟩
  by_cases e : k = i
  · subst e; rw [Cell.slots_setSlot_self v hk, if_pos (by omega), hv]
  · rw [Cell.slots_setSlot_ne v e, h.2.2.2 i]
    by_cases q : lo ≤ i ∧ i < k
    · rw [if_pos q, if_pos (by omega)]
    · rw [if_neg q, if_neg (by omega)]
def U16 : String := "java/lang/StringUTF16"
namespace Cmp5
def yN : MethodName := ⟨"java/lang/StringUTF16", "compress", "([CI[BII)I"⟩
abbrev yB : ByteArray := jdk_52_method_21_code
theorem d0 : decode yB 0 = .ok (.iconst 0, 1) := by decide +kernel
theorem d1 : decode yB 1 = .ok (.istore 5, 2) := by decide +kernel
theorem d3 : decode yB 3 = .ok (.iload 5, 2) := by decide +kernel
theorem d5 : decode yB 5 = .ok (.iload 4, 2) := by decide +kernel
theorem d7 : decode yB 7 = .ok (.if_icmp (.ge) 37, 3) := by decide +kernel
theorem d10 : decode yB 10 = .ok (.aload_n 0, 1) := by decide +kernel
theorem d11 : decode yB 11 = .ok (.iload_n 1, 1) := by decide +kernel
theorem d12 : decode yB 12 = .ok (.caload, 1) := by decide +kernel
theorem d13 : decode yB 13 = .ok (.istore 6, 2) := by decide +kernel
theorem d15 : decode yB 15 = .ok (.iload 6, 2) := by decide +kernel
theorem d17 : decode yB 17 = .ok (.sipush 255, 3) := by decide +kernel
theorem d20 : decode yB 20 = .ok (.if_icmp (.le) 6, 3) := by decide +kernel
theorem d26 : decode yB 26 = .ok (.aload_n 2, 1) := by decide +kernel
theorem d27 : decode yB 27 = .ok (.iload_n 3, 1) := by decide +kernel
theorem d28 : decode yB 28 = .ok (.iload 6, 2) := by decide +kernel
theorem d30 : decode yB 30 = .ok (.i2b, 1) := by decide +kernel
theorem d31 : decode yB 31 = .ok (.bastore, 1) := by decide +kernel
theorem d32 : decode yB 32 = .ok (.iinc 1 1, 3) := by decide +kernel
theorem d35 : decode yB 35 = .ok (.iinc 3 1, 3) := by decide +kernel
theorem d38 : decode yB 38 = .ok (.iinc 5 1, 3) := by decide +kernel
theorem d41 : decode yB 41 = .ok (.goto (-38), 3) := by decide +kernel
theorem d44 : decode yB 44 = .ok (.iload 4, 2) := by decide +kernel
theorem d46 : decode yB 46 = .ok (.ireturn, 1) := by decide +kernel
def site : List Cond := []
def tab : Cond := tabOf yN yB 7 (some .int) site
def P (b : Addr) (A : Cell) (d : Addr) (B : Cell) (o q len : Nat) (args : Array Value) (s : State) : Prop := args = #[.ref b, .int (Int32.ofNat o), .ref d, .int (Int32.ofNat q), .int (Int32.ofNat len)] ∧ Ch b A s ∧ Arr .byte d B s ∧ b ≠ d ∧ o + len ≤ A.slots.size ∧ q + len ≤ B.slots.size ∧ ∀ i, i < len → ¬ 255 < cv A (o + i)
def E (b : Addr) (A : Cell) (d : Addr) (B : Cell) (o q len : Nat) (r : Option Value) (s u : State) : Prop := r = some (.int (Int32.ofNat len)) ∧ ∃ B', Put d B' s u ∧ Laid B B' q (q + len) (fun j => Value.int (lo8 (cv A (o + (j - q)))))
/-- no char of the range above 255: len; the places written hold each char's low byte -/
theorem law (l : Launch) (b : Addr) (A : Cell) (d : Addr) (B : Cell) (o q len : Nat) : Law l yN 5 5 0 0 yB 7 (some .int) site (P b A d B o q len) (E b A d B o q len) (copyLocs d q len) 0 0 := by
  refine Law.of_walk (plainFor_of_name (by decide +kernel)) (by decide +kernel) (by decide +kernel) (by decide) (fun _ _ h => by rw [h.1]; rfl) (fun _ U U' hal hh h => ⟨h.1, h.2.1.mv hal hh, h.2.2.1.mv hal hh, h.2.2.2⟩) (fun r U U' V V' h1 hal h2 h => ⟨h.1, h.2.elim fun B' q => ⟨B', q.1.mv h1 h2, q.2⟩⟩) ?_
  intro p e s m args below meth c s₁ X0 hexec hbytes hml hret hlk hnm hown hh0 W hP
  obtain ⟨rfl, hA, hB, hne, l1, l2, hp⟩ := hP
  have c1 : Steps p.tables e below (s₁.setTop (entryFrame m #[.ref b, .int (Int32.ofNat o), .ref d, .int (Int32.ofNat q), .int (Int32.ofNat len)] 7)) (s₁.setTop (mkF m 0 #[.val (.ref b), .val (.int (Int32.ofNat o)), .val (.ref d), .val (.int (Int32.ofNat q)), .val (.int (Int32.ofNat len)), .unset, .unset] [])) := entry rfl
  have hA0 := hA.1.mv X0.warmed.alike hh0
  have hB0 := hB.mv X0.warmed.alike hh0
  have a31 := hA.1.2.2.2
  have c2 : Steps p.tables e below (s₁.setTop (entryFrame m #[.ref b, .int (Int32.ofNat o), .ref d, .int (Int32.ofNat q), .int (Int32.ofNat len)] 7)) (s₁.setTop (mkF m 3 #[.val (.ref b), .val (.int (Int32.ofNat o)), .val (.ref d), .val (.int (Int32.ofNat q)), .val (.int (Int32.ofNat len)), .val (.int 0), .unset] [])) := c1.trans (by
    refine iconstV X0.here hexec rfl 0 (hb hbytes d0) (by decide) ?_
    refine XS.istore X0.here hexec rfl (hb hbytes d1) rfl rfl ?_
    exact Steps.refl _)
  have loop : ∀ (r i : Nat), i + r = len → ∀ (z : Slot), (z = .unset ∨ ∃ w, z = .val w ∧ w.category = 1) → ∀ (Tl : State) (Bk : Cell), Stand p l e { frames := 0, locals := 0, cells := 0, slots := 0 } s m #[.ref b, .int (Int32.ofNat o), .ref d, .int (Int32.ofNat q), .int (Int32.ofNat len)] below meth c Tl ([] ++ copyLocs d q i) 0 0 → Put d Bk s₁ Tl → Laid B Bk q (q + i) (fun j => Value.int (lo8 (cv A (o + (j - q))))) →
      Steps p.tables e below (s₁.setTop (entryFrame m #[.ref b, .int (Int32.ofNat o), .ref d, .int (Int32.ofNat q), .int (Int32.ofNat len)] 7)) (Tl.setTop (mkF m 3 #[.val (.ref b), .val (.int (Int32.ofNat (o + i))), .val (.ref d), .val (.int (Int32.ofNat (q + i))), .val (.int (Int32.ofNat len)), .val (.int (Int32.ofNat i)), z] [])) → ∃ (T' : State) (B' : Cell) (z' : Slot), Stand p l e { frames := 0, locals := 0, cells := 0, slots := 0 } s m #[.ref b, .int (Int32.ofNat o), .ref d, .int (Int32.ofNat q), .int (Int32.ofNat len)] below meth c T' ([] ++ copyLocs d q len) 0 0 ∧ Put d B' s₁ T' ∧ Laid B B' q (q + len) (fun j => Value.int (lo8 (cv A (o + (j - q))))) ∧
      Steps p.tables e below (s₁.setTop (entryFrame m #[.ref b, .int (Int32.ofNat o), .ref d, .int (Int32.ofNat q), .int (Int32.ofNat len)] 7)) (T'.setTop (mkF m 3 #[.val (.ref b), .val (.int (Int32.ofNat (o + len))), .val (.ref d), .val (.int (Int32.ofNat (q + len))), .val (.int (Int32.ofNat len)), .val (.int (Int32.ofNat len)), z'] [])) := by
    intro r
    induction r with
    | zero =>
      intro i hi z hz Tl Bk Xl pl fl cl
      have hil : i = len := by omega
      rw [hil] at Xl fl cl
      exact ⟨Tl, Bk, z, Xl, pl, fl, cl⟩
    | succ r ih =>
      intro i hi z hz Tl Bk Xl pl fl cl
      have all := X0.warmed.alike.symm.trans Xl.warmed.alike
      have hAl := hA0.keep all (pl.other hne hA0.1)
      have hBk := hB0.like all pl.1 fl.1 fl.2.1 fl.2.2.1
      have hlt : q + i < Bk.slots.size := by rw [fl.2.2.1]; omega
      have c3 : Steps p.tables e below (s₁.setTop (entryFrame m #[.ref b, .int (Int32.ofNat o), .ref d, .int (Int32.ofNat q), .int (Int32.ofNat len)] 7)) (Tl.setTop (mkF m 12 #[.val (.ref b), .val (.int (Int32.ofNat (o + i))), .val (.ref d), .val (.int (Int32.ofNat (q + i))), .val (.int (Int32.ofNat len)), .val (.int (Int32.ofNat i)), z] [.int (Int32.ofNat (o + i)), .ref b])) := cl.trans (by
        refine XS.iload Xl.here hexec rfl (hb hbytes d3) rfl ?_
        refine XS.iload Xl.here hexec rfl (hb hbytes d5) rfl ?_
        refine XS.icmpNo Xl.here hexec rfl (hb hbytes d7) rfl (ii_ge_f (lt32 (by omega) (by omega))) ?_
        refine XS.aloadN Xl.here hexec rfl (hb hbytes d10) rfl rfl ?_
        refine XS.iloadN Xl.here hexec rfl (hb hbytes d11) rfl ?_
        exact Steps.refl _)
      have c4 : Steps p.tables e below (s₁.setTop (entryFrame m #[.ref b, .int (Int32.ofNat o), .ref d, .int (Int32.ofNat q), .int (Int32.ofNat len)] 7)) (Tl.setTop (mkF m 13 #[.val (.ref b), .val (.int (Int32.ofNat (o + i))), .val (.ref d), .val (.int (Int32.ofNat (q + i))), .val (.int (Int32.ofNat len)), .val (.int (Int32.ofNat i)), z] [.int (cv A (o + i))])) := c3.trans (by
        refine Xl.aget hexec hAl rfl (hA.get (i := o + i) (by omega)) rfl rfl (hb hbytes d12) ?_
        exact Steps.refl _)
      have c5 : Steps p.tables e below (s₁.setTop (entryFrame m #[.ref b, .int (Int32.ofNat o), .ref d, .int (Int32.ofNat q), .int (Int32.ofNat len)] 7)) (Tl.setTop (mkF m 15 #[.val (.ref b), .val (.int (Int32.ofNat (o + i))), .val (.ref d), .val (.int (Int32.ofNat (q + i))), .val (.int (Int32.ofNat len)), .val (.int (Int32.ofNat i)), .val (.int (cv A (o + i)))] [])) := c4.trans (by
        refine XS.istoreS Xl.here hexec rfl (hb hbytes d13) rfl rfl hz ?_
        exact Steps.refl _)
      have c6 : Steps p.tables e below (s₁.setTop (entryFrame m #[.ref b, .int (Int32.ofNat o), .ref d, .int (Int32.ofNat q), .int (Int32.ofNat len)] 7)) (Tl.setTop (mkF m 31 #[.val (.ref b), .val (.int (Int32.ofNat (o + i))), .val (.ref d), .val (.int (Int32.ofNat (q + i))), .val (.int (Int32.ofNat len)), .val (.int (Int32.ofNat i)), .val (.int (cv A (o + i)))] [.int (lo8 (cv A (o + i))), .int (Int32.ofNat (q + i)), .ref d])) := c5.trans (by
        refine XS.iload Xl.here hexec rfl (hb hbytes d15) rfl ?_
        refine sipushV Xl.here hexec rfl 255 (hb hbytes d17) (by decide) ?_
        refine XS.icmpYes Xl.here hexec rfl (pc0 := 20) rfl (hb hbytes d20) rfl (ii_le_t (hp i (by omega))) (by decide) rfl ?_
        refine XS.aloadN Xl.here hexec rfl (hb hbytes d26) rfl rfl ?_
        refine XS.iloadN Xl.here hexec rfl (hb hbytes d27) rfl ?_
        refine XS.iload Xl.here hexec rfl (hb hbytes d28) rfl ?_
        refine i2b Xl.here hexec rfl (hb hbytes d30) rfl ?_
        exact Steps.refl _)
      obtain ⟨T7, X7, p7, st7⟩ := Xl.aput hexec hBk rfl hlt rfl (fits_lo8 (cv A (o + i))) (g := (mkF m 31 #[.val (.ref b), .val (.int (Int32.ofNat (o + i))), .val (.ref d), .val (.int (Int32.ofNat (q + i))), .val (.int (Int32.ofNat len)), .val (.int (Int32.ofNat i)), .val (.int (cv A (o + i)))] [.int (lo8 (cv A (o + i))), .int (Int32.ofNat (q + i)), .ref d])) rfl (rest := []) rfl (hb hbytes d31)
      have c8 : Steps p.tables e below (s₁.setTop (entryFrame m #[.ref b, .int (Int32.ofNat o), .ref d, .int (Int32.ofNat q), .int (Int32.ofNat len)] 7)) (T7.setTop (mkF m 32 #[.val (.ref b), .val (.int (Int32.ofNat (o + i))), .val (.ref d), .val (.int (Int32.ofNat (q + i))), .val (.int (Int32.ofNat len)), .val (.int (Int32.ofNat i)), .val (.int (cv A (o + i)))] [])) := c6.trans (st7 _ (Steps.refl _))
      have c9 : Steps p.tables e below (s₁.setTop (entryFrame m #[.ref b, .int (Int32.ofNat o), .ref d, .int (Int32.ofNat q), .int (Int32.ofNat len)] 7)) (T7.setTop (mkF m 3 #[.val (.ref b), .val (.int (Int32.ofNat (o + i) + 1)), .val (.ref d), .val (.int (Int32.ofNat (q + i) + 1)), .val (.int (Int32.ofNat len)), .val (.int (Int32.ofNat i + 1)), .val (.int (cv A (o + i)))] [])) := c8.trans (by
        refine iincV X7.here hexec rfl 1 (hb hbytes d32) (by decide) rfl rfl ?_
        refine iincV X7.here hexec rfl 1 (hb hbytes d35) (by decide) rfl rfl ?_
        refine iincV X7.here hexec rfl 1 (hb hbytes d38) (by decide) rfl rfl ?_
        refine XS.goto X7.here hexec rfl (pc0 := 41) rfl (hb hbytes d41) (by decide) rfl ?_
        exact Steps.refl _)
      have c10 : Steps p.tables e below (s₁.setTop (entryFrame m #[.ref b, .int (Int32.ofNat o), .ref d, .int (Int32.ofNat q), .int (Int32.ofNat len)] 7)) (T7.setTop (mkF m 3 #[.val (.ref b), .val (.int (Int32.ofNat (o + (i + 1)))), .val (.ref d), .val (.int (Int32.ofNat (q + (i + 1)))), .val (.int (Int32.ofNat len)), .val (.int (Int32.ofNat (i + 1))), .val (.int (cv A (o + i)))] [])) := by
        have := c9
        rw [succ32, succ32, succ32] at this
        exact this
      exact ih (i + 1) (by omega) _ (Or.inr ⟨_, rfl, rfl⟩) T7 _ (by rw [copyLocs_step, ← List.append_assoc]; exact X7) (pl.trans p7) (fl.step (by omega) hlt (by simp)) c10
  obtain ⟨T9, B9, z9, X9, p9, f9, g9⟩ := loop len 0 (by omega) .unset (Or.inl rfl) s₁ B (by simpa [copyLocs] using X0) ⟨hB0.1, fun _ _ => rfl, rfl⟩ (Laid.zero _ _ _) c2
  have c11 : Steps p.tables e below (s₁.setTop (entryFrame m #[.ref b, .int (Int32.ofNat o), .ref d, .int (Int32.ofNat q), .int (Int32.ofNat len)] 7)) (T9.setTop (mkF m 46 #[.val (.ref b), .val (.int (Int32.ofNat (o + len))), .val (.ref d), .val (.int (Int32.ofNat (q + len))), .val (.int (Int32.ofNat len)), .val (.int (Int32.ofNat len)), z9] [.int (Int32.ofNat len)])) := g9.trans (by
    refine XS.iload X9.here hexec rfl (hb hbytes d3) rfl ?_
    refine XS.iload X9.here hexec rfl (hb hbytes d5) rfl ?_
    refine XS.icmpYes X9.here hexec rfl (pc0 := 7) rfl (hb hbytes d7) rfl (ii_ge_t (nlt32 (by omega) (Nat.le_refl _))) (by decide) rfl ?_
    refine XS.iload X9.here hexec rfl (hb hbytes d44) rfl ?_
    exact Steps.refl _)
  exact ⟨T9, some (.int (Int32.ofNat len)), _, _, _, X9, by simp, rfl, rfl, (fun h => by cases h), ⟨rfl, B9, p9.from hh0, f9⟩, fun fs hl => c11.trans (X9.ireturnOut hexec hret rfl (Or.inl rfl) (hb hbytes d46) hl)⟩
end Cmp5
namespace Cmp3
def yN : MethodName := ⟨"java/lang/StringUTF16", "compress", "([CII)[B"⟩
abbrev yB : ByteArray := jdk_52_method_16_code
theorem d0 : decode yB 0 = .ok (.iload_n 2, 1) := by decide +kernel
theorem d1 : decode yB 1 = .ok (.newarray .byte, 2) := by decide +kernel
theorem d3 : decode yB 3 = .ok (.astore_n 3, 1) := by decide +kernel
theorem d4 : decode yB 4 = .ok (.aload_n 0, 1) := by decide +kernel
theorem d5 : decode yB 5 = .ok (.iload_n 1, 1) := by decide +kernel
theorem d6 : decode yB 6 = .ok (.aload_n 3, 1) := by decide +kernel
theorem d7 : decode yB 7 = .ok (.iconst 0, 1) := by decide +kernel
theorem d8 : decode yB 8 = .ok (.iload_n 2, 1) := by decide +kernel
theorem d9 : decode yB 9 = .ok (.invokestatic 115, 3) := by decide +kernel
theorem d12 : decode yB 12 = .ok (.istore 4, 2) := by decide +kernel
theorem d14 : decode yB 14 = .ok (.iload 4, 2) := by decide +kernel
theorem d16 : decode yB 16 = .ok (.iload_n 2, 1) := by decide +kernel
theorem d17 : decode yB 17 = .ok (.if_icmp (.eq) 40, 3) := by decide +kernel
theorem d57 : decode yB 57 = .ok (.aload_n 3, 1) := by decide +kernel
theorem d58 : decode yB 58 = .ok (.areturn, 1) := by decide +kernel
def site : List Cond := [.arrayClass .byte, Cmp5.tab] ++ staticW U16 115 Cmp5.yN
def tab : Cond := tabOf yN yB 6 (some (.array .byte)) site
def P (b : Addr) (A : Cell) (o len : Nat) (args : Array Value) (s : State) : Prop := args = #[.ref b, .int (Int32.ofNat o), .int (Int32.ofNat len)] ∧ Ch b A s ∧ o + len ≤ A.slots.size ∧ len ≤ 536870912 ∧ ∀ i, i < len → ¬ 255 < cv A (o + i)
def E (b : Addr) (A : Cell) (o len : Nat) (r : Option Value) (s u : State) : Prop := NewArr .byte "[B" len (fun j => .int (lo8 (cv A (o + j)))) r s u ∧ u.heap.size = s.heap.size + 1
/-- no char of the range above 255: a new byte[] of their low bytes -/
theorem law (l : Launch) (b : Addr) (A : Cell) (o len : Nat) : Law l yN 3 3 1 18 yB 6 (some (.array .byte)) site (P b A o len) (E b A o len) [] 1 len := by
  refine Law.of_walk (plainFor_of_name (by decide +kernel)) (by decide +kernel) (by decide +kernel) (by decide) (fun _ _ h => by rw [h.1]; rfl) (fun _ U U' hal hh h => ⟨h.1, h.2.1.mv hal hh, h.2.2⟩) (fun r U U' V V' h1 hal h2 h => ⟨NewArr.mv r U U' V V' h1 hal h2 h.1, by rw [h1, h2]; exact h.2⟩) ?_
  intro p e s m args below meth c s₁ X0 hexec hbytes hml hret hlk hnm hown hh0 W hP
  obtain ⟨rfl, hA, l1, l2, hp⟩ := hP
  have a31 := hA.1.2.2.2
  have c1 : Steps p.tables e below (s₁.setTop (entryFrame m #[.ref b, .int (Int32.ofNat o), .int (Int32.ofNat len)] 6)) (s₁.setTop (mkF m 0 #[.val (.ref b), .val (.int (Int32.ofNat o)), .val (.int (Int32.ofNat len)), .unset, .unset, .unset] [])) := entry rfl
  have c2 : Steps p.tables e below (s₁.setTop (entryFrame m #[.ref b, .int (Int32.ofNat o), .int (Int32.ofNat len)] 6)) (s₁.setTop (mkF m 1 #[.val (.ref b), .val (.int (Int32.ofNat o)), .val (.int (Int32.ofNat len)), .unset, .unset, .unset] [.int (Int32.ofNat len)])) := c1.trans (by
    refine XS.iloadN X0.here hexec rfl (hb hbytes d0) rfl ?_
    exact Steps.refl _)
  obtain ⟨T3, B3, X3, ba3, bs3, bv3, bh3, bf3, st3⟩ := X0.anew hexec (atype := .byte) (wk W (.arrayClass .byte)) rfl (by show len * 1 ≤ _; omega) (by omega) (g := (mkF m 1 #[.val (.ref b), .val (.int (Int32.ofNat o)), .val (.int (Int32.ofNat len)), .unset, .unset, .unset] [.int (Int32.ofNat len)])) rfl (hb hbytes d1) (rest := []) rfl (Nat.le_refl _) (by show 0 + len ≤ len; omega)
  rw [hh0] at ba3 st3
  have kp3 : XT.Kept s T3 := (XT.Kept.of_eq hh0).push bh3
  have hA3 := hA.keep X3.warmed.alike (kp3 _ _ hA.1.1)
  have hne : b ≠ s.heap.size := hA.1.ne
  have c4 : Steps p.tables e below (s₁.setTop (entryFrame m #[.ref b, .int (Int32.ofNat o), .int (Int32.ofNat len)] 6)) (T3.setTop (mkF m 3 #[.val (.ref b), .val (.int (Int32.ofNat o)), .val (.int (Int32.ofNat len)), .unset, .unset, .unset] [.ref s.heap.size])) := c2.trans (st3 _ (Steps.refl _))
  have c5 : Steps p.tables e below (s₁.setTop (entryFrame m #[.ref b, .int (Int32.ofNat o), .int (Int32.ofNat len)] 6)) (T3.setTop (mkF m 9 #[.val (.ref b), .val (.int (Int32.ofNat o)), .val (.int (Int32.ofNat len)), .val (.ref s.heap.size), .unset, .unset] [.int (Int32.ofNat len), .int 0, .ref s.heap.size, .int (Int32.ofNat o), .ref b])) := c4.trans (by
    refine XS.astoreN X3.here hexec rfl (hb hbytes d3) rfl rfl rfl ?_
    refine XS.aloadN X3.here hexec rfl (hb hbytes d4) rfl rfl ?_
    refine XS.iloadN X3.here hexec rfl (hb hbytes d5) rfl ?_
    refine XS.aloadN X3.here hexec rfl (hb hbytes d6) rfl rfl ?_
    refine iconstV X3.here hexec rfl 0 (hb hbytes d7) (by decide) ?_
    refine XS.iloadN X3.here hexec rfl (hb hbytes d8) rfl ?_
    exact Steps.refl _)
  obtain ⟨v6, T6, X6, E6, g6⟩ := X3.callS hexec (Cmp5.law l b A s.heap.size B3 o 0 len) hown (wks W (staticW U16 115 Cmp5.yN)) (wk W Cmp5.tab) (W := 0) (Nat.le_of_ble_eq_true rfl) (Nat.le_of_ble_eq_true rfl) (Nat.le_refl _) (by show 0 + len + 0 ≤ len; omega) (g := (mkF m 9 #[.val (.ref b), .val (.int (Int32.ofNat o)), .val (.int (Int32.ofNat len)), .val (.ref s.heap.size), .unset, .unset] [.int (Int32.ofNat len), .int (Int32.ofNat 0), .ref s.heap.size, .int (Int32.ofNat o), .ref b])) rfl (by rw [hml]; rfl) c5 (argsL := [.ref b, .int (Int32.ofNat o), .ref s.heap.size, .int (Int32.ofNat 0), .int (Int32.ofNat len)]) (rest := []) rfl rfl (by show 2 * 0 + 0 ≤ _; decide) (hb hbytes d9) (⟨rfl, hA3, ba3, hne, l1, by rw [bs3]; simp, hp⟩)
  obtain ⟨rfl, B6, p6, f6⟩ := E6
  have c7 : Steps p.tables e below (s₁.setTop (entryFrame m #[.ref b, .int (Int32.ofNat o), .int (Int32.ofNat len)] 6)) (T6.setTop (mkF m 12 #[.val (.ref b), .val (.int (Int32.ofNat o)), .val (.int (Int32.ofNat len)), .val (.ref s.heap.size), .unset, .unset] [.int (Int32.ofNat len)])) := g6
  have c8 : Steps p.tables e below (s₁.setTop (entryFrame m #[.ref b, .int (Int32.ofNat o), .int (Int32.ofNat len)] 6)) (T6.setTop (mkF m 58 #[.val (.ref b), .val (.int (Int32.ofNat o)), .val (.int (Int32.ofNat len)), .val (.ref s.heap.size), .val (.int (Int32.ofNat len)), .unset] [.ref s.heap.size])) := c7.trans (by
    refine XS.istore X6.here hexec rfl (hb hbytes d12) rfl rfl ?_
    refine XS.iload X6.here hexec rfl (hb hbytes d14) rfl ?_
    refine XS.iloadN X6.here hexec rfl (hb hbytes d16) rfl ?_
    refine XS.icmpYes X6.here hexec rfl (pc0 := 17) rfl (hb hbytes d17) rfl (ii_eq_t rfl) (by decide) rfl ?_
    refine XS.aloadN X6.here hexec rfl (hb hbytes d57) rfl rfl ?_
    exact Steps.refl _)
  have X8 := X6.wide (L' := []) (cells' := 1) (slots' := len) (fun x hx hlt => by
    simp only [List.nil_append, copyLocs, List.mem_map, List.mem_range] at hx
    obtain ⟨i, -, rfl⟩ := hx
    exact absurd hlt (Nat.lt_irrefl _)) (Nat.le_refl _) (by omega)
  exact ⟨T6, some (.ref s.heap.size), _, _, _, X8, rfl, rfl, rfl, (fun h => by cases h), ⟨⟨rfl, B6, ba3.like (X3.warmed.alike.symm.trans X6.warmed.alike) p6.1 f6.1 f6.2.1 f6.2.2.1, f6.2.1.trans bv3, by rw [X6.warmed.alike.findClass, f6.1]; exact bf3, by rw [f6.2.2.1, bs3]; simp, fun j hj => by rw [f6.2.2.2 j, if_pos (by omega)]; rfl, kp3.put p6 (Nat.le_refl _)⟩, by rw [p6.2.2, bh3, hh0]; simp⟩, fun fs hl => c8.trans (X8.areturnOut hexec rfl hret rfl (hb hbytes d58) hl)⟩
end Cmp3
namespace CodL
def yN : MethodName := ⟨"java/lang/StringUTF16", "coderFromArrayLen", "([BI)B"⟩
abbrev yB : ByteArray := jdk_52_method_15_code
theorem d0 : decode yB 0 = .ok (.iload_n 1, 1) := by decide +kernel
theorem d1 : decode yB 1 = .ok (.aload_n 0, 1) := by decide +kernel
theorem d2 : decode yB 2 = .ok (.arraylength, 1) := by decide +kernel
theorem d3 : decode yB 3 = .ok (.isub, 1) := by decide +kernel
theorem d4 : decode yB 4 = .ok (.bipush 31, 2) := by decide +kernel
theorem d6 : decode yB 6 = .ok (.iushr, 1) := by decide +kernel
theorem d7 : decode yB 7 = .ok (.i2b, 1) := by decide +kernel
theorem d8 : decode yB 8 = .ok (.ireturn, 1) := by decide +kernel
def site : List Cond := []
def tab : Cond := tabOf yN yB 2 (some .byte) site
def P (d : Addr) (B : Cell) (args : Array Value) (s : State) : Prop := args = #[.ref d, .int (Int32.ofNat B.slots.size)] ∧ Arr .byte d B s
def E (r : Option Value) (s u : State) : Prop := XT.PureE (some (.int 0)) r s u
/-- an array as long as the number of chars: LATIN1 -/
theorem law (l : Launch) (d : Addr) (B : Cell) : Law l yN 2 2 0 0 yB 2 (some .byte) site (P d B) E [] 0 0 := by
  refine Law.of_walk (plainFor_of_name (by decide +kernel)) (by decide +kernel) (by decide +kernel) (by decide) (fun _ _ h => by rw [h.1]; rfl) (fun _ U U' hal hh h => ⟨h.1, h.2.mv hal hh⟩) (fun r U U' V V' h1 hal h2 h => XT.PureE.mv r U U' V V' h1 hal h2 h) ?_
  intro p e s m args below meth c s₁ X0 hexec hbytes hml hret hlk hnm hown hh0 W hP
  obtain ⟨rfl, hB⟩ := hP
  have hB0 := hB.mv X0.warmed.alike hh0
  have c1 : Steps p.tables e below (s₁.setTop (entryFrame m #[.ref d, .int (Int32.ofNat B.slots.size)] 2)) (s₁.setTop (mkF m 0 #[.val (.ref d), .val (.int (Int32.ofNat B.slots.size))] [])) := entry rfl
  have c2 : Steps p.tables e below (s₁.setTop (entryFrame m #[.ref d, .int (Int32.ofNat B.slots.size)] 2)) (s₁.setTop (mkF m 2 #[.val (.ref d), .val (.int (Int32.ofNat B.slots.size))] [.ref d, .int (Int32.ofNat B.slots.size)])) := c1.trans (by
    refine XS.iloadN X0.here hexec rfl (hb hbytes d0) rfl ?_
    refine XS.aloadN X0.here hexec rfl (hb hbytes d1) rfl rfl ?_
    exact Steps.refl _)
  have c3 : Steps p.tables e below (s₁.setTop (entryFrame m #[.ref d, .int (Int32.ofNat B.slots.size)] 2)) (s₁.setTop (mkF m 8 #[.val (.ref d), .val (.int (Int32.ofNat B.slots.size))] [.int (lo8 (ushr (Int32.ofNat B.slots.size - Int32.ofNat B.slots.size) 31))])) := c2.trans (by
    refine X0.alen hexec hB0 rfl rfl (hb hbytes d2) ?_
    refine XS.isub X0.here hexec rfl (hb hbytes d3) rfl ?_
    refine bipushV X0.here hexec rfl 31 (hb hbytes d4) (by decide) ?_
    refine iushr X0.here hexec rfl (hb hbytes d6) rfl ?_
    refine i2b X0.here hexec rfl (hb hbytes d7) rfl ?_
    exact Steps.refl _)
  have e0 : lo8 (ushr (Int32.ofNat B.slots.size - Int32.ofNat B.slots.size) 31) = 0 := by rw [Int32.sub_self]; decide
  rw [e0] at c3
  exact ⟨s₁, some (.int 0), _, _, _, X0, rfl, rfl, rfl, (fun h => by cases h), ⟨rfl, hh0⟩, fun fs hl => c3.trans (X0.ireturnOut hexec hret rfl (Or.inr (Or.inr (Or.inl rfl))) (hb hbytes d8) hl)⟩
end CodL
/-- the String at a is Latin-1 over a new byte[] (the heap's one new cell): the low bytes of the len chars of A from o on; every cell but a is kept -/
def Got (a : Addr) (D : Cell) (fV fC : Field) (A : Cell) (o len : Nat) (r : Option Value) (s u : State) : Prop := r = none ∧ ∃ D' V : Cell, Blank "java/lang/String" a D' u ∧ Same D D' [fV.slot, fC.slot] ∧ D'.slots[fV.slot]? = some (.ref s.heap.size) ∧ D'.slots[fC.slot]? = some (.int 0) ∧ Arr .byte s.heap.size V u ∧ V.vm = .none ∧ u.vm.findClass "[B" = some V.cls ∧ V.slots.size = len ∧ (∀ j, j < len → V.slots[j]? = some (.int (lo8 (cv A (o + j))))) ∧ (∀ (y : Addr) (c : Cell), y ≠ a → s.heap[y]? = some c → u.heap[y]? = some c) ∧ u.heap.size = s.heap.size + 1
theorem Got.mv {a : Addr} {D A : Cell} {fV fC : Field} {o len : Nat} : ∀ r (U U' V V' : State), U'.heap = U.heap → V.vm.Alike V'.vm → V'.heap = V.heap → Got a D fV fC A o len r U V → Got a D fV fC A o len r U' V' :=
  fun r U U' V V' h1 hal h2 ⟨e0, D', X, a1, a2, a3, a4, a5, a6, a7, a8, a9, a10, a11⟩ => ⟨e0, D', X, a1.mv hal h2, a2, by rw [h1]; exact a3, a4, by rw [h1]; exact a5.mv hal h2, a6, by rw [hal.findClass]; exact a7, a8, a9, by rw [h1, h2]; exact a10, by rw [h1, h2]; exact a11⟩
namespace New4
def yN : MethodName := ⟨"java/lang/String", "<init>", "([CIILjava/lang/Void;)V"⟩
abbrev yB : ByteArray := jdk_42_method_149_code
theorem d0 : decode yB 0 = .ok (.aload_n 0, 1) := by decide +kernel
theorem d1 : decode yB 1 = .ok (.invokespecial 1, 3) := by decide +kernel
theorem d4 : decode yB 4 = .ok (.iload_n 3, 1) := by decide +kernel
theorem d5 : decode yB 5 = .ok (.ifCond (.ne) 22, 3) := by decide +kernel
theorem d27 : decode yB 27 = .ok (.getstatic 38, 3) := by decide +kernel
theorem d30 : decode yB 30 = .ok (.ifCond (.eq) 28, 3) := by decide +kernel
theorem d33 : decode yB 33 = .ok (.aload_n 1, 1) := by decide +kernel
theorem d34 : decode yB 34 = .ok (.iload_n 2, 1) := by decide +kernel
theorem d35 : decode yB 35 = .ok (.iload_n 3, 1) := by decide +kernel
theorem d36 : decode yB 36 = .ok (.invokestatic 177, 3) := by decide +kernel
theorem d39 : decode yB 39 = .ok (.astore 5, 2) := by decide +kernel
theorem d41 : decode yB 41 = .ok (.aload_n 0, 1) := by decide +kernel
theorem d42 : decode yB 42 = .ok (.aload 5, 2) := by decide +kernel
theorem d44 : decode yB 44 = .ok (.iload_n 3, 1) := by decide +kernel
theorem d45 : decode yB 45 = .ok (.invokestatic 47, 3) := by decide +kernel
theorem d48 : decode yB 48 = .ok (.putfield 15, 3) := by decide +kernel
theorem d51 : decode yB 51 = .ok (.aload_n 0, 1) := by decide +kernel
theorem d52 : decode yB 52 = .ok (.aload 5, 2) := by decide +kernel
theorem d54 : decode yB 54 = .ok (.putfield 9, 3) := by decide +kernel
theorem d57 : decode yB 57 = .ok (.return_, 1) := by decide +kernel
def site : List Cond := [.fieldLink "java/lang/String" 38 "java/lang/String" "COMPACT_STRINGS" "Z", Cmp3.tab, CodL.tab, .laysFinal "java/lang/String" "java/lang/String" "value" "[B", .fieldLink "java/lang/String" 9 "java/lang/String" "value" "[B", .laysFinal "java/lang/String" "java/lang/String" "coder" "B", .fieldLink "java/lang/String" 15 "java/lang/String" "coder" "B"] ++ objW "java/lang/String" 1 ++ staticW "java/lang/String" 177 Cmp3.yN ++ staticW "java/lang/String" 47 CodL.yN
def tab : Cond := tabOf yN yB 6 none site
def P (a : Addr) (D : Cell) (fV fC : Field) (b : Addr) (A : Cell) (z : Int32) (o len : Nat) (args : Array Value) (s : State) : Prop := args = #[.ref a, .ref b, .int (Int32.ofNat o), .int (Int32.ofNat len), .null] ∧ Blank "java/lang/String" a D s ∧ Found "java/lang/String" "value" "[B" fV s ∧ Found "java/lang/String" "coder" "B" fC s ∧ Ch b A s ∧ StaticIs s "java/lang/String" "COMPACT_STRINGS" "Z" (.int z) ∧ ¬ z = 0 ∧ 0 < len ∧ o + len ≤ A.slots.size ∧ len ≤ 536870912 ∧ ∀ i, i < len → ¬ 255 < cv A (o + i)
def E (a : Addr) (D : Cell) (fV fC : Field) (A : Cell) (o len : Nat) (r : Option Value) (s u : State) : Prop := Got a D fV fC A o len r s u
/-- len > 0, no char of the range above 255: a Latin-1 String of their low bytes -/
theorem law (l : Launch) (a : Addr) (D : Cell) (fV fC : Field) (b : Addr) (A : Cell) (z : Int32) (o len : Nat) : Law l yN 5 4 2 35 yB 6 none site (P a D fV fC b A z o len) (E a D fV fC A o len) [⟨a, fC.slot⟩, ⟨a, fV.slot⟩] 1 len := by
  refine Law.of_walk (plainFor_of_name (by decide +kernel)) (by decide +kernel) (by decide +kernel) (by decide) (fun _ _ h => by rw [h.1]; rfl) (fun _ U U' hal hh h => ⟨h.1, h.2.1.mv hal hh, h.2.2.1.al hal, h.2.2.2.1.al hal, h.2.2.2.2.1.mv hal hh, h.2.2.2.2.2.1.there hal hh, h.2.2.2.2.2.2⟩) (fun r U U' V V' h1 hal h2 h => Got.mv r U U' V V' h1 hal h2 h) ?_
  intro p e s m args below meth c s₁ X0 hexec hbytes hml hret hlk hnm hown hh0 W hP
  obtain ⟨rfl, hB, f1, f2, hA, s1, hz, l0, l1, l2, hp⟩ := hP
  have a31 := hA.1.2.2.2
  have c1 : Steps p.tables e below (s₁.setTop (entryFrame m #[.ref a, .ref b, .int (Int32.ofNat o), .int (Int32.ofNat len), .null] 6)) (s₁.setTop (mkF m 0 #[.val (.ref a), .val (.ref b), .val (.int (Int32.ofNat o)), .val (.int (Int32.ofNat len)), .val .null, .unset] [])) := entry rfl
  have c2 : Steps p.tables e below (s₁.setTop (entryFrame m #[.ref a, .ref b, .int (Int32.ofNat o), .int (Int32.ofNat len), .null] 6)) (s₁.setTop (mkF m 1 #[.val (.ref a), .val (.ref b), .val (.int (Int32.ofNat o)), .val (.int (Int32.ofNat len)), .val .null, .unset] [.ref a])) := c1.trans (by
    refine XS.aloadN X0.here hexec rfl (hb hbytes d0) rfl rfl ?_
    exact Steps.refl _)
  obtain ⟨T3, X3, q3, st3⟩ := X0.oinit hexec hown (wks W (objW "java/lang/String" 1)) (g := (mkF m 1 #[.val (.ref a), .val (.ref b), .val (.int (Int32.ofNat o)), .val (.int (Int32.ofNat len)), .val .null, .unset] [.ref a])) rfl (by rw [hml]; rfl) (rest := []) rfl (hb hbytes d1) (W := 0) (by show 2 * 0 + 0 ≤ _; decide) (Nat.le_of_ble_eq_true rfl) (Nat.le_of_ble_eq_true rfl)
  have hh3 := q3.trans hh0
  have c4 : Steps p.tables e below (s₁.setTop (entryFrame m #[.ref a, .ref b, .int (Int32.ofNat o), .int (Int32.ofNat len), .null] 6)) (T3.setTop (mkF m 27 #[.val (.ref a), .val (.ref b), .val (.int (Int32.ofNat o)), .val (.int (Int32.ofNat len)), .val .null, .unset] [])) := (c2.trans (st3 _ (Steps.refl _))).trans (by
    refine XS.iloadN X3.here hexec rfl (hb hbytes d4) rfl ?_
    refine XS.ifYes X3.here hexec rfl (pc0 := 5) rfl (hb hbytes d5) rfl (i0_ne_t (nz32 (by omega) l0)) (by decide) rfl ?_
    exact Steps.refl _)
  obtain ⟨T5, X5, q5, st5⟩ := X3.sget hexec hown (wk W (.fieldLink "java/lang/String" 38 "java/lang/String" "COMPACT_STRINGS" "Z")) s1 (fun _ _ h => by rw [hh3]; exact h) (g := (mkF m 27 #[.val (.ref a), .val (.ref b), .val (.int (Int32.ofNat o)), .val (.int (Int32.ofNat len)), .val .null, .unset] [])) rfl (hb hbytes d27)
  have hh5 := q5.trans hh3
  have c6 : Steps p.tables e below (s₁.setTop (entryFrame m #[.ref a, .ref b, .int (Int32.ofNat o), .int (Int32.ofNat len), .null] 6)) (T5.setTop (mkF m 30 #[.val (.ref a), .val (.ref b), .val (.int (Int32.ofNat o)), .val (.int (Int32.ofNat len)), .val .null, .unset] [.int z])) := c4.trans (st5 _ (Steps.refl _))
  have c7 : Steps p.tables e below (s₁.setTop (entryFrame m #[.ref a, .ref b, .int (Int32.ofNat o), .int (Int32.ofNat len), .null] 6)) (T5.setTop (mkF m 36 #[.val (.ref a), .val (.ref b), .val (.int (Int32.ofNat o)), .val (.int (Int32.ofNat len)), .val .null, .unset] [.int (Int32.ofNat len), .int (Int32.ofNat o), .ref b])) := c6.trans (by
    refine XS.ifNo X5.here hexec rfl (hb hbytes d30) rfl (i0_eq_f hz) ?_
    refine XS.aloadN X5.here hexec rfl (hb hbytes d33) rfl rfl ?_
    refine XS.iloadN X5.here hexec rfl (hb hbytes d34) rfl ?_
    refine XS.iloadN X5.here hexec rfl (hb hbytes d35) rfl ?_
    exact Steps.refl _)
  obtain ⟨v8, T8, X8, E8, g8⟩ := X5.callS hexec (Cmp3.law l b A o len) hown (wks W (staticW "java/lang/String" 177 Cmp3.yN)) (wk W Cmp3.tab) (W := 0) (Nat.le_of_ble_eq_true rfl) (Nat.le_of_ble_eq_true rfl) (Nat.le_refl _) (by show 0 + len ≤ len; omega) (g := (mkF m 36 #[.val (.ref a), .val (.ref b), .val (.int (Int32.ofNat o)), .val (.int (Int32.ofNat len)), .val .null, .unset] [.int (Int32.ofNat len), .int (Int32.ofNat o), .ref b])) rfl (by rw [hml]; rfl) c7 (argsL := [.ref b, .int (Int32.ofNat o), .int (Int32.ofNat len)]) (rest := []) rfl rfl (by show 2 * 0 + 0 ≤ _; decide) (hb hbytes d36) (⟨rfl, hA.mv X5.warmed.alike hh5, l1, l2, hp⟩)
  obtain ⟨e8, z8⟩ := E8
  obtain ⟨rfl, N, n1, n2, n3, n4, n5, n6⟩ := NewArr.mv _ T5 s _ _ hh5.symm (Vm.Alike.refl _) rfl e8
  rw [hh5] at z8
  have hB1 := hB.keep X8.warmed.alike (n6 _ _ hB.1)
  have hne : s.heap.size ≠ a := (Nat.ne_of_lt (Array.getElem?_eq_some_iff.mp hB.1).1).symm
  have c9 : Steps p.tables e below (s₁.setTop (entryFrame m #[.ref a, .ref b, .int (Int32.ofNat o), .int (Int32.ofNat len), .null] 6)) (T8.setTop (mkF m 39 #[.val (.ref a), .val (.ref b), .val (.int (Int32.ofNat o)), .val (.int (Int32.ofNat len)), .val .null, .unset] [.ref s.heap.size])) := g8
  have c10 : Steps p.tables e below (s₁.setTop (entryFrame m #[.ref a, .ref b, .int (Int32.ofNat o), .int (Int32.ofNat len), .null] 6)) (T8.setTop (mkF m 45 #[.val (.ref a), .val (.ref b), .val (.int (Int32.ofNat o)), .val (.int (Int32.ofNat len)), .val .null, .val (.ref s.heap.size)] [.int (Int32.ofNat N.slots.size), .ref s.heap.size, .ref a])) := by
    have hc : Steps p.tables e below (s₁.setTop (entryFrame m #[.ref a, .ref b, .int (Int32.ofNat o), .int (Int32.ofNat len), .null] 6)) (T8.setTop (mkF m 45 #[.val (.ref a), .val (.ref b), .val (.int (Int32.ofNat o)), .val (.int (Int32.ofNat len)), .val .null, .val (.ref s.heap.size)] [.int (Int32.ofNat len), .ref s.heap.size, .ref a])) := c9.trans (by
      refine XS.astore X8.here hexec rfl (hb hbytes d39) rfl rfl rfl ?_
      refine XS.aloadN X8.here hexec rfl (hb hbytes d41) rfl rfl ?_
      refine XS.aload X8.here hexec rfl (hb hbytes d42) rfl rfl ?_
      refine XS.iloadN X8.here hexec rfl (hb hbytes d44) rfl ?_
      exact Steps.refl _)
    rw [n4]; exact hc
  obtain ⟨v11, T11, X11, E11, g11⟩ := X8.callS hexec (CodL.law l s.heap.size N) hown (wks W (staticW "java/lang/String" 47 CodL.yN)) (wk W CodL.tab) (W := 1) (Nat.le_of_ble_eq_true rfl) (Nat.le_of_ble_eq_true rfl) (Nat.le_refl _) (by show 0 + len + 0 ≤ len; omega) (g := (mkF m 45 #[.val (.ref a), .val (.ref b), .val (.int (Int32.ofNat o)), .val (.int (Int32.ofNat len)), .val .null, .val (.ref s.heap.size)] [.int (Int32.ofNat N.slots.size), .ref s.heap.size, .ref a])) rfl (by rw [hml]; rfl) c10 (argsL := [.ref s.heap.size, .int (Int32.ofNat N.slots.size)]) (rest := [.ref a]) rfl rfl (by show 2 * 0 + (1 + 0) ≤ _; decide) (hb hbytes d45) (⟨rfl, n1⟩)
  obtain ⟨rfl, q11⟩ := E11
  have hB11 := hB1.mv (X8.warmed.alike.symm.trans X11.warmed.alike) q11
  have c12 : Steps p.tables e below (s₁.setTop (entryFrame m #[.ref a, .ref b, .int (Int32.ofNat o), .int (Int32.ofNat len), .null] 6)) (T11.setTop (mkF m 48 #[.val (.ref a), .val (.ref b), .val (.int (Int32.ofNat o)), .val (.int (Int32.ofNat len)), .val .null, .val (.ref s.heap.size)] [.int 0, .ref a])) := g11
  obtain ⟨T13, X13, p13, bl13, sl13, st13⟩ := X11.finit hexec hown (wk W (.fieldLink "java/lang/String" 15 "java/lang/String" "coder" "B")) (Or.inr ⟨_, (wk W (.laysFinal "java/lang/String" "java/lang/String" "coder" "B"))⟩) (Or.inl ⟨rfl, hnm⟩) f2 (Or.inl rfl) hB11 (t := .byte) (by decide +kernel) rfl (g := (mkF m 48 #[.val (.ref a), .val (.ref b), .val (.int (Int32.ofNat o)), .val (.int (Int32.ofNat len)), .val .null, .val (.ref s.heap.size)] [.int 0, .ref a])) rfl (rest := []) rfl (hb hbytes d48)
  have c14 : Steps p.tables e below (s₁.setTop (entryFrame m #[.ref a, .ref b, .int (Int32.ofNat o), .int (Int32.ofNat len), .null] 6)) (T13.setTop (mkF m 54 #[.val (.ref a), .val (.ref b), .val (.int (Int32.ofNat o)), .val (.int (Int32.ofNat len)), .val .null, .val (.ref s.heap.size)] [.ref s.heap.size, .ref a])) := (c12.trans (st13 _ (Steps.refl _))).trans (by
    refine XS.aloadN X13.here hexec rfl (hb hbytes d51) rfl rfl ?_
    refine XS.aload X13.here hexec rfl (hb hbytes d52) rfl rfl ?_
    exact Steps.refl _)
  obtain ⟨T15, X15, p15, bl15, sl15, st15⟩ := X13.finit hexec hown (wk W (.fieldLink "java/lang/String" 9 "java/lang/String" "value" "[B")) (Or.inr ⟨_, (wk W (.laysFinal "java/lang/String" "java/lang/String" "value" "[B"))⟩) (Or.inl ⟨rfl, hnm⟩) f1 (Or.inl rfl) bl13 (t := (.array .byte)) (by decide +kernel) rfl (g := (mkF m 54 #[.val (.ref a), .val (.ref b), .val (.int (Int32.ofNat o)), .val (.int (Int32.ofNat len)), .val .null, .val (.ref s.heap.size)] [.ref s.heap.size, .ref a])) rfl (rest := []) rfl (hb hbytes d54)
  have c16 : Steps p.tables e below (s₁.setTop (entryFrame m #[.ref a, .ref b, .int (Int32.ofNat o), .int (Int32.ofNat len), .null] 6)) (T15.setTop (mkF m 57 #[.val (.ref a), .val (.ref b), .val (.int (Int32.ofNat o)), .val (.int (Int32.ofNat len)), .val .null, .val (.ref s.heap.size)] [])) := c14.trans (st15 _ (Steps.refl _))
  have ap := apart (Or.inr ⟨_, (wk W (.laysFinal "java/lang/String" "java/lang/String" "value" "[B"))⟩) (Or.inr ⟨_, (wk W (.laysFinal "java/lang/String" "java/lang/String" "coder" "B"))⟩) f1 f2 (t₁ := .array .byte) (t₂ := .byte) (by decide +kernel) (by decide +kernel) (by decide)
  have al := X8.warmed.alike.symm.trans X15.warmed.alike
  have n7 : T11.heap[s.heap.size]? = some N := by rw [q11]; exact n1.1
  exact ⟨T15, none, _, _, _, X15, by simp, rfl, by omega, (fun _ => rfl), ⟨rfl, _, N, bl15, ((Same.refl D _).set _ (by simp)).set _ (by simp), sl15, (Cell.slots_setSlot_ne _ ap).trans sl13, n1.keep al (p15.other hne (p13.other hne n7)), n2, by rw [al.findClass]; exact n3, n4, n5, fun y c h1 h2 => p15.other h1 (p13.other h1 (by rw [q11]; exact n6 y c h2)), by rw [p15.2.2, p13.2.2, q11]; exact z8⟩, fun fs hl => c16.trans (X15.returnOut hexec hret (hb hbytes d57) hl)⟩
end New4
namespace New1
def yN : MethodName := ⟨"java/lang/String", "<init>", "([C)V"⟩
abbrev yB : ByteArray := jdk_42_method_3_code
theorem d0 : decode yB 0 = .ok (.aload_n 0, 1) := by decide +kernel
theorem d1 : decode yB 1 = .ok (.aload_n 1, 1) := by decide +kernel
theorem d2 : decode yB 2 = .ok (.iconst 0, 1) := by decide +kernel
theorem d3 : decode yB 3 = .ok (.aload_n 1, 1) := by decide +kernel
theorem d4 : decode yB 4 = .ok (.arraylength, 1) := by decide +kernel
theorem d5 : decode yB 5 = .ok (.aconst_null, 1) := by decide +kernel
theorem d6 : decode yB 6 = .ok (.invokespecial 27, 3) := by decide +kernel
theorem d9 : decode yB 9 = .ok (.return_, 1) := by decide +kernel
def site : List Cond := [New4.tab] ++ initW "java/lang/String" 27 New4.yN
def tab : Cond := tabOf yN yB 2 none site
def P (a : Addr) (D : Cell) (fV fC : Field) (b : Addr) (A : Cell) (z : Int32) (args : Array Value) (s : State) : Prop := args = #[.ref a, .ref b] ∧ Blank "java/lang/String" a D s ∧ Found "java/lang/String" "value" "[B" fV s ∧ Found "java/lang/String" "coder" "B" fC s ∧ Ch b A s ∧ StaticIs s "java/lang/String" "COMPACT_STRINGS" "Z" (.int z) ∧ ¬ z = 0 ∧ 0 < A.slots.size ∧ A.slots.size ≤ 536870912 ∧ ∀ i, i < A.slots.size → ¬ 255 < cv A i
def E (a : Addr) (D : Cell) (fV fC : Field) (A : Cell) (r : Option Value) (s u : State) : Prop := Got a D fV fC A 0 A.slots.size r s u
/-- new String(chars), not empty, no char above 255: a Latin-1 String of their low bytes -/
theorem law (l : Launch) (a : Addr) (D : Cell) (fV fC : Field) (b : Addr) (A : Cell) (z : Int32) : Law l yN 2 1 3 52 yB 2 none site (P a D fV fC b A z) (E a D fV fC A) [⟨a, fC.slot⟩, ⟨a, fV.slot⟩] 1 A.slots.size := by
  refine Law.of_walk (plainFor_of_name (by decide +kernel)) (by decide +kernel) (by decide +kernel) (by decide) (fun _ _ h => by rw [h.1]; rfl) (fun _ U U' hal hh h => ⟨h.1, h.2.1.mv hal hh, h.2.2.1.al hal, h.2.2.2.1.al hal, h.2.2.2.2.1.mv hal hh, h.2.2.2.2.2.1.there hal hh, h.2.2.2.2.2.2⟩) (fun r U U' V V' h1 hal h2 h => Got.mv r U U' V V' h1 hal h2 h) ?_
  intro p e s m args below meth c s₁ X0 hexec hbytes hml hret hlk hnm hown hh0 W hP
  obtain ⟨rfl, hB, f1, f2, hA, s1, hz, l0, l2, hp⟩ := hP
  have c1 : Steps p.tables e below (s₁.setTop (entryFrame m #[.ref a, .ref b] 2)) (s₁.setTop (mkF m 0 #[.val (.ref a), .val (.ref b)] [])) := entry rfl
  have c2 : Steps p.tables e below (s₁.setTop (entryFrame m #[.ref a, .ref b] 2)) (s₁.setTop (mkF m 6 #[.val (.ref a), .val (.ref b)] [.null, .int (Int32.ofNat A.slots.size), .int 0, .ref b, .ref a])) := c1.trans (by
    refine XS.aloadN X0.here hexec rfl (hb hbytes d0) rfl rfl ?_
    refine XS.aloadN X0.here hexec rfl (hb hbytes d1) rfl rfl ?_
    refine iconstV X0.here hexec rfl 0 (hb hbytes d2) (by decide) ?_
    refine XS.aloadN X0.here hexec rfl (hb hbytes d3) rfl rfl ?_
    refine X0.alen hexec (hA.1.mv X0.warmed.alike hh0) rfl rfl (hb hbytes d4) ?_
    refine XS.aconstNull X0.here hexec rfl (hb hbytes d5) ?_
    exact Steps.refl _)
  obtain ⟨v3, T3, X3, E3, g3⟩ := X0.callN hexec (New4.law l a D fV fC b A z 0 A.slots.size) rfl hown (wks W (initW "java/lang/String" 27 New4.yN)) (W New4.tab (by simp only [site, List.mem_cons, List.mem_append, true_or, or_true])) (W := 0) (Nat.le_of_ble_eq_true rfl) (Nat.le_of_ble_eq_true rfl) (Nat.le_refl _) (by show 0 + A.slots.size ≤ A.slots.size; omega) (g := (mkF m 6 #[.val (.ref a), .val (.ref b)] [.null, .int (Int32.ofNat A.slots.size), .int (Int32.ofNat 0), .ref b, .ref a])) rfl (by rw [hml]; rfl) c2 (argsL := [.ref b, .int (Int32.ofNat 0), .int (Int32.ofNat A.slots.size), .null]) (rest := []) rfl rfl (by show 2 * 0 + 0 ≤ _; decide) (hb hbytes d6) (⟨rfl, hB.mv X0.warmed.alike hh0, f1.al X0.warmed.alike, f2.al X0.warmed.alike, hA.mv X0.warmed.alike hh0, s1.there X0.warmed.alike hh0, hz, l0, by omega, l2, fun i hi => by rw [Nat.zero_add]; exact hp i hi⟩)
  have e0 := Got.mv _ s₁ s _ _ hh0.symm (Vm.Alike.refl _) rfl E3
  obtain rfl := e0.1
  have c4 : Steps p.tables e below (s₁.setTop (entryFrame m #[.ref a, .ref b] 2)) (T3.setTop (mkF m 9 #[.val (.ref a), .val (.ref b)] [])) := g3
  exact ⟨T3, none, _, _, _, X3, by simp, rfl, by omega, (fun _ => rfl), e0, fun fs hl => c4.trans (X3.returnOut hexec hret (hb hbytes d9) hl)⟩
theorem pays {l : Launch} {R : Room} {p : Program} {e : Env} {below : List Frame} {s : State} {sargs : Array Value} {len W : Nat} (a : Addr) (D : Cell) (fV fC : Field) (b : Addr) (A : Cell) (z : Int32) (htab : tab.before sargs s = true) (hfr : 4 ≤ R.frames) (hlo : W + 65 ≤ R.locals) :
    Back l R p e below s sargs yN len W (fun A₁ a₁ => A₁.cells + 1 ≤ R.cells ∧ A₁.slots + A.slots.size ≤ R.slots ∧ P a D fV fC b A z a₁ A₁.U) (fun A₁ _ v₁ B₁ => E a D fV fC A v₁ A₁.U B₁.U ∧ B₁.locs = A₁.locs ++ [⟨a, fC.slot⟩, ⟨a, fV.slot⟩] ∧ B₁.cells = A₁.cells + 1 ∧ B₁.slots = A₁.slots + A.slots.size) :=
  (law l a D fV fC b A z).pays htab hfr (by omega)
end New1
end StrChars
namespace StrChars.Road
open Jvm Sem ClassFile Op Lib Jvm.Stand Jvm.Free Jvm.Free.XT
open Jvm.Lib.Cold (StaticIs)
abbrev ST : String := "java/lang/String"
/-- every table word that New1's law asks, flat -/
abbrev words : List Jvm.Cond := [.code New1.yN New1.yB 2 none, .initialized ST, .methodLink ST 27 New4.yN, .instanceMethod New4.yN,
  .code New4.yN New4.yB 6 none, .fieldLink ST 38 ST "COMPACT_STRINGS" "Z", .laysFinal ST ST "value" "[B", .fieldLink ST 9 ST "value" "[B", .laysFinal ST ST "coder" "B", .fieldLink ST 15 ST "coder" "B",
  .methodLink ST 1 Lib.objectInit, .instanceMethod Lib.objectInit, .code Lib.objectInit ⟨#[0xb1]⟩ 1 none, .methodLink ST 177 Cmp3.yN, .static Cmp3.yN, .methodLink ST 47 CodL.yN, .static CodL.yN,
  .code Cmp3.yN Cmp3.yB 6 (some (.array .byte)), .initialized U16, .arrayClass .byte, .methodLink U16 115 Cmp5.yN, .static Cmp5.yN, .code Cmp5.yN Cmp5.yB 7 (some .int), .code CodL.yN CodL.yB 2 (some .byte)]
theorem tab_of {a : Array Value} {s : State} (h : ∀ w ∈ words, w.before a s = true) : New1.tab.before a s = true := by
  have h5 : Cmp5.tab.before a s = true := unparts (wk h (.code Cmp5.yN Cmp5.yB 7 (some .int))) (wks h (.initialized Cmp5.yN.cls :: Cmp5.site))
  have hc : CodL.tab.before a s = true := unparts (wk h (.code CodL.yN CodL.yB 2 (some .byte))) (wks h (.initialized CodL.yN.cls :: CodL.site))
  have q5 : ∀ w ∈ Cmp5.tab :: words, w.before a s = true := fun w hw => (List.mem_cons.mp hw).elim (fun e => e ▸ h5) (h w)
  have h3 : Cmp3.tab.before a s = true := unparts (wk q5 (.code Cmp3.yN Cmp3.yB 6 (some (.array .byte)))) (wks q5 (.initialized Cmp3.yN.cls :: Cmp3.site))
  have q3 : ∀ w ∈ Cmp3.tab :: CodL.tab :: words, w.before a s = true := fun w hw => (List.mem_cons.mp hw).elim (fun e => e ▸ h3) fun hw => (List.mem_cons.mp hw).elim (fun e => e ▸ hc) (h w)
  have h4 : New4.tab.before a s = true := unparts (wk q3 (.code New4.yN New4.yB 6 none)) (wks q3 (.initialized New4.yN.cls :: New4.site))
  have q4 : ∀ w ∈ New4.tab :: words, w.before a s = true := fun w hw => (List.mem_cons.mp hw).elim (fun e => e ▸ h4) (h w)
  exact unparts (wk q4 (.code New1.yN New1.yB 2 none)) (wks q4 (.initialized New1.yN.cls :: New1.site))
/-- the words ride from the start Z to the walk's own state -/
theorem moved {Z s : State} {a0 args : Array Value} (hZ : Z.Warmed39 s.vm) (hw : ∀ d ∈ words, d.before a0 Z = true) : ∀ d ∈ words, d.before args s = true := fun d hd => by
  have q := hw d hd
  have t : ∀ d ∈ words, d = .arrayClass .byte ∨ (d.onTables && d.keepsFace) = true := by decide +kernel
  rcases t d hd with rfl | t
  · exact RoadKit.mvA hZ q
  · exact RoadKit.mv hZ q t
/-- WHAT COMES BACK, over the tables of the start Z: h the heap at the call, h' behind it -/
def Q (Z : State) (x : Addr) (A : Cell) (h : Heap) (v : Option Value) (h' : Heap) (L : List Loc) : Prop := v = none ∧ (∀ y ∈ L, y.base = x) ∧ RoadKit.Keep h h' [x] ∧ h'.size = h.size + 1 ∧ RoadKit.Exa Z h' x ST ∧ RoadKit.Fld Z h' x ST "value" "[B" (.ref h.size) ∧ RoadKit.Fld Z h' x ST "coder" "B" (.int 0) ∧
  (∃ V : Cell, RoadKit.Arr Z h' h.size V .byte ∧ V.vm = .none ∧ Z.vm.findClass "[B" = some V.cls ∧ V.slots.size = A.slots.size ∧ ∀ j, j < A.slots.size → V.slots[j]? = some (.int (lo8 (cv A j)))) ∧
  ∀ (O n d : String) (w : Value), RoadKit.Fld Z h x O n d w → RoadKit.slotOf Z O n d ≠ RoadKit.slotOf Z ST "value" "[B" → RoadKit.slotOf Z O n d ≠ RoadKit.slotOf Z ST "coder" "B" → RoadKit.Fld Z h' x O n d w
/-- **new String(chars) AT A CALL, IN THE ROAD'S FORM**: for specialBack behind newO: x the fresh String, b the char[] with the cell A -/
theorem back {p : Program} {l : Launch} {e : Env} {R : Room} {s : State} {args : Array Value} {below : List Frame} {len W : Nat} {Z : State} {a0 : Array Value} {h : Heap} (hZ : Z.Warmed39 s.vm) (hw : ∀ d ∈ words, d.before a0 Z = true) {kI : Nat} (wi : (Jvm.Cond.instantiable ST kI).before a0 Z = true)
    {x b : Addr} {A : Cell} {z : Int32} {v0 c0 : Value} (E : RoadKit.Exa Z h x ST) (V : RoadKit.Fld Z h x ST "value" "[B" v0) (C : RoadKit.Fld Z h x ST "coder" "B" c0) (K : RoadKit.Arr Z h b A .char) (hty : Typed .char A) (S : RoadKit.Sta Z h ST "COMPACT_STRINGS" "Z" (.int z)) (hz : ¬ z = 0)
    (l0 : 0 < A.slots.size) (l2 : A.slots.size ≤ 536870912) (hp : ∀ i, i < A.slots.size → ¬ 255 < cv A i) (hfr : 4 ≤ R.frames) (hlo : W + 65 ≤ R.locals) :
    Back l R p e below s args New1.yN len W (fun P a => a = #[.ref x, .ref b] ∧ P.U.heap = h ∧ P.cells + 1 ≤ R.cells ∧ P.slots + A.slots.size ≤ R.slots)
      (fun P _ v B => ∃ L, Q Z x A h v B.U.heap L ∧ B.locs = P.locs ++ L ∧ B.cells = P.cells + 1 ∧ B.slots = P.slots + A.slots.size) := by
  intro m meth c P g ig mk a X hg hsize hdg hW hn hp'
  obtain ⟨rfl, rfl, r1, r2⟩ := hp'
  have al : Z.vm.Alike P.U.vm := hZ.alike.trans X.warmed.alike
  obtain ⟨D, cfV, kV, iV, fV, hD, gV, stV, knV, obV, asV, slV⟩ := id V
  obtain ⟨D', cfC, kC, iC, fC, hD', gC, stC, -, -, asC, slC⟩ := id C
  cases hD.symm.trans hD'
  obtain ⟨D2, kD, e1, e2, e3, e4, e5⟩ := id E
  cases hD.symm.trans e1
  obtain ⟨c2, k2, i1, i2, i3, -⟩ := Cond.instantiable_spec wi
  cases e2.symm.trans i1
  cases e3.symm.trans i2
  obtain ⟨kU, u1, u2⟩ := al.2.2 _ _ e3
  have hB : Blank ST x D P.U := ⟨hD, ⟨knV, fun q hq => by rw [hq] at obV; cases obV⟩, by rw [al.findClass]; exact e2, kU, u1, by rw [u2]; exact i3, by rw [u2]; exact e5 i3⟩
  have F1 : Found ST "value" "[B" fV P.U := ⟨SBG.found_only al ⟨cfV, kV, iV, gV⟩, stV⟩
  have F2 : Found ST "coder" "B" fC P.U := ⟨SBG.found_only al ⟨cfC, kC, iC, gC⟩, stC⟩
  have hA : Ch b A P.U := ⟨⟨K.1, State.isArrayOf_alike al K.2.1, K.2.2, by omega⟩, hty⟩
  have hS : StaticIs P.U ST "COMPACT_STRINGS" "Z" (.int z) := by
    obtain ⟨cfS, iS, kS, fS, st, cS, t1, t2, t3, t4, t5, t6, t7⟩ := S
    exact StaticIs.there (s := { Z with heap := P.U.heap }) ⟨cfS, iS, kS, fS, st, cS, t1, t2, t3, t4, t5, (fun q => by rw [q] at t6; cases t6), t7⟩ al rfl
  obtain ⟨v, B, X', ⟨⟨hv, E', V', q1, q2, q3, q4, q5, q6, q7, q8, q9, q10, q11⟩, hl, hc, hs⟩, st⟩ := New1.pays x D fV fC b A z (tab_of (moved hZ hw)) hfr hlo m meth c P g ig mk _ X hg hsize hdg hW hn ⟨r1, r2, rfl, hB, F1, F2, hA, hS, hz, l0, l2, hp⟩
  have al' : Z.vm.Alike B.U.vm := hZ.alike.trans X'.warmed.alike
  have hsz : E'.slots.size = D.slots.size := by
    obtain ⟨-, -, -, kB, w1, w2, w3⟩ := q1
    obtain ⟨kB', y1, y2⟩ := al'.2.2 _ _ e3
    rw [q2.2.1] at w1
    cases w1.symm.trans y1
    rw [w3, e5 i3, y2]
  refine ⟨v, B, X', ⟨_, ⟨hv, ?_, ⟨by omega, fun y cy hy hn' => q10 y cy (by simpa using hn') hy, fun y cy hy => ?_⟩, q11, ⟨E', _, q1.1, by rw [q2.2.1]; exact e2, by rw [q2.2.1]; exact e3, by rw [q2.1]; exact obV, fun _ => by rw [hsz]; exact e5 i3⟩,
    ⟨E', cfV, kV, iV, fV, q1.1, gV, stV, by rw [q2.1]; exact knV, by rw [q2.1]; exact obV, by rw [q2.2.1]; exact asV, q3⟩, ⟨E', cfC, kC, iC, fC, q1.1, gC, stC, by rw [q2.1]; exact knV, by rw [q2.1]; exact obV, by rw [q2.2.1]; exact asC, q4⟩,
    ⟨V', ⟨q5.1, State.isArrayOf_alike al'.symm q5.2.1, q5.2.2.1⟩, q6, by rw [← al'.findClass]; exact q7, q8, fun j hj => by have := q9 j hj; rwa [Nat.zero_add] at this⟩, fun O n d w F n1 n2 => ?_⟩, hl, hc, hs⟩, st⟩
  · intro y hy
    simp only [List.mem_cons, List.not_mem_nil, or_false] at hy
    rcases hy with rfl | rfl <;> rfl
  · by_cases q : y = x
    · subst q
      cases hD.symm.trans hy
      exact ⟨E', q1.1, q2.2.1, q2.1, hsz⟩
    · exact ⟨cy, q10 y cy q hy, rfl, rfl, rfl⟩
  · obtain ⟨D3, cf, k, i, f, g1, g2, g3, g4, g5, g6, g7⟩ := F
    cases hD.symm.trans g1
    simp only [RoadKit.slotOf, g2, gV, gC, Option.map_some, Option.getD_some] at n1 n2
    exact ⟨E', cf, k, i, f, q1.1, g2, g3, by rw [q2.1]; exact g4, by rw [q2.1]; exact g5, by rw [q2.2.1]; exact g6, by rw [q2.2.2 f.slot (by simp [n1, n2])]; exact g7⟩
end StrChars.Road
namespace StrChars.Road
open Jvm Sem ClassFile Op Lib Jvm.Stand Jvm.Free Jvm.Free.XT
/-- WHAT COMES BACK, the byte[] as a list of values -/
def QA (Z : State) (x : Addr) (zn : Int32) (cs : List Int32) (h : Heap) (v : Option Value) (h' : Heap) (L : List Loc) : Prop := v = none ∧ (∀ y ∈ L, y.base = x) ∧ RoadKit.Keep h h' [x] ∧ h'.size = h.size + 1 ∧ RoadKit.Exa Z h' x ST ∧ RoadKit.Fld Z h' x ST "value" "[B" (.ref h.size) ∧ RoadKit.Fld Z h' x ST "coder" "B" (.int 0) ∧
  (∃ kb, Z.vm.findClass "[B" = some kb ∧ RoadKit.Arv Z h' h.size kb .byte zn (cs.map fun c => .int (lo8 c)) (.int 0)) ∧
  ∀ (O n d : String) (w : Value), RoadKit.Fld Z h x O n d w → RoadKit.slotOf Z O n d ≠ RoadKit.slotOf Z ST "value" "[B" → RoadKit.slotOf Z O n d ≠ RoadKit.slotOf Z ST "coder" "B" → RoadKit.Fld Z h' x O n d w
/-- **new String(chars) AT A CALL, THE ARRAYS AS LISTS**: the char[] at b holds cs, not empty, no char above 255 -/
theorem backArv {p : Program} {l : Launch} {e : Env} {R : Room} {s : State} {args : Array Value} {below : List Frame} {len W : Nat} {Z : State} {a0 : Array Value} {h : Heap} (hZ : Z.Warmed39 s.vm) (hw : ∀ d ∈ words, d.before a0 Z = true) {kI : Nat} (wi : (Jvm.Cond.instantiable ST kI).before a0 Z = true)
    {x b : Addr} {k : ClassId} {zn z : Int32} {cs : List Int32} {dv v0 c0 : Value} (E : RoadKit.Exa Z h x ST) (V : RoadKit.Fld Z h x ST "value" "[B" v0) (C : RoadKit.Fld Z h x ST "coder" "B" c0) (K : RoadKit.Arv Z h b k .char zn (cs.map Value.int) dv) (S : RoadKit.Sta Z h ST "COMPACT_STRINGS" "Z" (.int z)) (hz : ¬ z = 0)
    (hlen : zn.toNatClampNeg = cs.length) (h0 : 0 < cs.length) (hbig : cs.length ≤ 536870912) (hall : ∀ c ∈ cs, ¬ 255 < c) (hfr : 4 ≤ R.frames) (hlo : W + 65 ≤ R.locals) :
    Back l R p e below s args New1.yN len W (fun P a => a = #[.ref x, .ref b] ∧ P.U.heap = h ∧ P.cells + 1 ≤ R.cells ∧ P.slots + cs.length ≤ R.slots)
      (fun P _ v B => ∃ L, QA Z x zn cs h v B.U.heap L ∧ B.locs = P.locs ++ L ∧ B.cells = P.cells + 1 ∧ B.slots = P.slots + cs.length) := by
  obtain ⟨A, K1, K2, K3, K4, K5, K6⟩ := K
  have e : A.slots.size = cs.length := K3.trans hlen
  have hat : ∀ (i : Nat) (hi : i < cs.length), A.slots[i]? = some (.int cs[i]) := fun i hi => by rw [K5 i (by omega)]; simp [List.getD_eq_getElem?_getD, hi]
  have hcv : ∀ (i : Nat) (hi : i < cs.length), cv A i = cs[i] := fun i hi => by unfold cv; rw [hat i hi]
  have hty : Typed .char A := fun i v hv => by
    have hi : i < A.slots.size := (Array.getElem?_eq_some_iff.mp hv).1
    have q := K5 i hi
    rw [hv] at q
    rw [Option.some.inj q]
    exact K6 i hi
  refine Back.mono (back hZ hw wi E V C K1 hty S hz (by omega) (by omega) (fun i hi => by rw [hcv i (by omega)]; exact hall _ (List.getElem_mem _)) hfr hlo) (fun P a hp => ⟨hp.1, hp.2.1, hp.2.2.1, by rw [e]; exact hp.2.2.2⟩) (fun P a v B hp hq => ?_)
  obtain ⟨L, ⟨q1, q2, q3, q4, q5, q6, q7, ⟨V', v1, v2, v3, v4, v5⟩, q9⟩, hl, hc, hs⟩ := hq
  refine ⟨L, ⟨q1, q2, q3, q4, q5, q6, q7, ⟨V'.cls, v3, V', v1, rfl, by rw [v4, e, hlen], K4, fun i hi => ?_, fun i hi => ?_⟩, q9⟩, hl, hc, by rw [hs, e]⟩
  · have hi' : i < cs.length := by omega
    rw [v5 i (by omega), hcv i hi']; simp [List.getD_eq_getElem?_getD, hi']
  · have hi' : i < cs.length := by omega
    simp only [List.getD_eq_getElem?_getD, List.getElem?_map, List.getElem?_eq_getElem hi', Option.map_some, Option.getD_some]
    exact fits_lo8 _
end StrChars.Road
namespace StrChars.Road
open Jvm Sem ClassFile Op Lib Jvm.Stand Jvm.Free Jvm.Free.XT
/-- WHAT COMES BACK, in the writer's own shape -/
def QV (Z : State) (x : Addr) (N : Int32) (bs : List Int32) (h : Heap) (n0 : Nat) (v : Option Value) (h' : Heap) (L : List Loc) : Prop := v = none ∧ RoadKit.Fr n0 L ∧ RoadKit.Keep h h' [x] ∧ RoadKit.Exa Z h' x ST ∧ RoadKit.Fld Z h' x ST "coder" "B" (.int 0) ∧
  ∃ (t : Addr) (kb : ClassId), n0 ≤ t ∧ h.size ≤ t ∧ ¬ t = x ∧ RoadKit.Fld Z h' x ST "value" "[B" (.ref t) ∧ RoadKit.Arv Z h' t kb .byte N (bs.map Value.int) (.int 0)
/-- **new String(chars) AT A CALL, FOR THE WRITER**: a char[] of n known ints, each 0 to 255 -/
theorem backV {p : Program} {l : Launch} {e : Env} {R : Room} {s : State} {args : Array Value} {below : List Frame} {len W : Nat} {Z : State} {a0 : Array Value} {h : Heap} (hZ : Z.Warmed39 s.vm) (hw : ∀ d ∈ words, d.before a0 Z = true) {kI : Nat} (wi : (Jvm.Cond.instantiable ST kI).before a0 Z = true)
    {x b : Addr} {kC : ClassId} {cs bs : List Int32} {d v0 c0 : Value} {z N : Int32} {n n0 : Nat} (hx0 : n0 ≤ x) (hh0 : n0 ≤ h.size) (E : RoadKit.Exa Z h x ST) (V : RoadKit.Fld Z h x ST "value" "[B" v0) (C : RoadKit.Fld Z h x ST "coder" "B" c0) (K : RoadKit.Arv Z h b kC .char N (cs.map Value.int) d) (S : RoadKit.Sta Z h ST "COMPACT_STRINGS" "Z" (.int z)) (hz : ¬ z = 0)
    (hn : cs.length = n) (hN : N = Int32.ofNat n) (l0 : 0 < n) (l2 : n ≤ 4000) (hp : ∀ c ∈ cs, ¬ c < 0 ∧ ¬ (255 : Int32) < c) (hb : bs = cs.map (fun c => c.toInt8.toInt32)) (hfr : 4 ≤ R.frames) (hlo : W + 65 ≤ R.locals) :
    Back l R p e below s args (⟨"java/lang/String", "<init>", "([C)V"⟩ : MethodName) len W (fun P a => a = #[.ref x, .ref b] ∧ P.U.heap = h ∧ P.cells + 1 ≤ R.cells ∧ P.slots + n ≤ R.slots)
      (fun P _ v B => ∃ L, QV Z x N bs h n0 v B.U.heap L ∧ B.locs = P.locs ++ L ∧ B.cells = P.cells + 1 ∧ B.slots = P.slots + n) := by
  subst hn hN hb
  refine Back.mono (backArv hZ hw wi E V C K S hz (n32 (by omega)) l0 (by omega) (fun c hc => (hp c hc).2) hfr hlo) (fun P a hp => hp) (fun P a v B hp hq => ?_)
  obtain ⟨L, ⟨q1, q2, q3, q4, q5, q6, q7, ⟨kb, v1, v2⟩, q9⟩, hl, hc, hs⟩ := hq
  exact ⟨L, ⟨q1, fun y hy => by rw [q2 y hy]; exact hx0, q3, q5, q7, h.size, kb, hh0, Nat.le_refl _, Nat.ne_of_gt E.lt, q6, by rw [List.map_map]; exact v2⟩, hl, hc, hs⟩
end StrChars.Road
end Jvm.Pilot.@@N@@
namespace Jvm.Pilot.@@N@@
open Jvm Jvm.ClassFile Sem Op Lib Jvm.Free Jvm.Stand Jvm.LawKit Jvm.RoadKit Bundle Jvm.Pilot.@@N@@.Jvm.D
def Gl (tb : Tables) (e : Env) (below : List Frame) (Q : Outcome → State → Prop) (A : State) : Prop := ∃ s₂ o, Steps tb e below A s₂ ∧ s₂.status = .running ∧ Ended s₂ below o ∧ Q o s₂
theorem Gl.step {tb : Tables} {e : Env} {below : List Frame} {Q : Outcome → State → Prop} {A B : State} (h : ∀ t, Steps tb e below B t → Steps tb e below A t) (g : Gl tb e below Q B) : Gl tb e below Q A := by
  obtain ⟨s₂, o, a, r⟩ := g; exact ⟨s₂, o, h _ a, r⟩
theorem Gl.tr {tb : Tables} {e : Env} {below : List Frame} {Q : Outcome → State → Prop} {A B : State} (h : Steps tb e below A B) (g : Gl tb e below Q B) : Gl tb e below Q A := by
  obtain ⟨s₂, o, a, r⟩ := g; exact ⟨s₂, o, h.trans a, r⟩
theorem own_oz {Z : State} {n0 : Nat} {h : Heap} (X : Old Z n0 h) : n0 ≤ h.size := by
  have q := X.2.1
  rw [X.1] at q
  exact q
theorem own_ke {h h' : Heap} (K : Keep h h' []) : Ext h h' := ⟨K.1, fun x c q => K.2.1 x c q nin0⟩
section Own
variable {p : Program} {l : Launch} {e : Env} {R : Room} {s : State} {m : MethodId} {args : Array Value} {below : List Frame} {meth : Method} {c : Code} {T : State} {locs : List Loc} {cells slots : Nat} {Z : State} {a0 : Array Value} {h : Heap}
theorem own_getFR (X : Stand p l e R s m args below meth c T locs cells slots) (hx : p.tables.exec = Jvm.exec) (hZ : Z.Warmed39 s.vm) {own O n d : String} {index : Nat} (hown : s.vm.findClass own = some m.cls) (w : (Cond.fieldRef own index O n d).before a0 Z = true)
    (eT : T.heap = h) {a : Addr} {v : Value} (F : Fld Z h a O n d v) {g : JFrame} (hg : g.method = m) {rest : List Value} (hs : g.stack = .ref a :: rest) (hd : decode c.code g.pc = .ok (.getfield index, 3)) : ∃ T', Stand p l e R s m args below meth c T' locs cells slots ∧ T'.heap = h ∧ ∀ target, Steps p.tables e below (T'.setTop { g with pc := g.pc + 3, stack := v :: rest }) target → Steps p.tables e below (T.setTop g) target := by
  obtain ⟨cell, cf, k, i, f, h1, h2, h3, h4, -, -, h7⟩ := F
  have hW : Z.Warmed39 T.vm := wtrans hZ X.warmed
  have w' : (Cond.fieldRef own index O n d).before a0 (Z.setVm T.vm) = true := Cond.fieldRef_warmed39 hW w
  have hcur : (Z.setVm T.vm).vm.findClass own = some m.cls := by
    show T.vm.findClass own = _
    rw [X.warmed.alike.findClass]; exact hown
  obtain ⟨c', k', i', f', q1, q2⟩ := Cond.fieldRef_spec hcur w'
  obtain ⟨k'', hi, -⟩ := State.fieldFound?_setVm (s := Z) hW.alike h2
  cases q1.symm.trans hi
  refine ⟨T, X, eT, fun target hrest => ?_⟩
  subst hg
  jvm_step X.here [hx, hd, getfield.wp_ready (e := e) (s := T) (f := g) X.here.top q2 h3 hs (show T.heap[a]? = some cell by rw [eT]; exact h1) h4 h7]
  exact hrest
theorem own_mvNM {own host : String} {index : Nat} {y : MethodName} (hZ : Z.Warmed39 s.vm) (w : (Cond.methodLinkNest own index y host).before a0 Z = true) : (Cond.methodLinkNest own index y host).before args s = true := (Cond.methodLinkNest_wide hZ w :)
theorem own_specialRef (X : Stand p l e R s m args below meth c T locs cells slots) (hx : p.tables.exec = Jvm.exec) (hZ : Z.Warmed39 s.vm) {own : String} {index : Nat} {y : MethodName} (hy1 : y.name = "<init>")
    (hown : s.vm.findClass own = some m.cls) (w : (Cond.methodRef own index y).before a0 Z = true) {bytes : ByteArray} {maxL : Nat} (wc : (Cond.code y bytes maxL none).before a0 Z = true) (hinst : (Cond.instanceMethod y).before args s = true)
    (hcode : (Cond.code y bytes maxL none).before args s = true)
    (hy : y.cls ≠ "java/lang/invoke/MethodHandle" ∧ y.cls ≠ "java/lang/invoke/VarHandle")
    {W : Nat} {Pre : Pt → Array Value → Prop} {Post : Pt → Array Value → Option Value → Pt → Prop} (hK : Back l R p e below s args y 3 W Pre Post)
    {g : JFrame} (hg : g.method = m) (hsize : g.locals.size = c.maxLocals) {a : Addr} {argsL rest : List Value}
    (hlen : ∀ sig, parseMethodDescriptor y.desc = some sig → argsL.length = sig.parameters.length) (hstack : g.stack = argsL.reverse ++ .ref a :: rest) (hW : 2 * g.monitorRoom + (rest.map fun v => v.category).sum ≤ W)
    (hdg : decode c.code g.pc = .ok (.invokespecial index, 3)) (hpre : ∀ vm₁, s.WarmedH vm₁ → Pre ⟨T.setVm vm₁, locs, cells, slots⟩ (.ref a :: argsL).toArray) :
    ∃ (v : Option Value) (vm₁ : Vm) (B : Pt), s.WarmedH vm₁ ∧ Stand p l e R s m args below meth c B.U B.locs B.cells B.slots ∧ Post ⟨T.setVm vm₁, locs, cells, slots⟩ (.ref a :: argsL).toArray v B ∧
      Steps p.tables e below (T.setTop g) (B.U.setTop { g with pc := g.pc + 3, stack := v.toList ++ rest }) := by
  obtain ⟨obj, methO, hnO, hmO, hstO, habO⟩ := Cond.instanceMethod_spec hinst
  obtain ⟨methO', cO, hmO', hcO, hbO, hlO, -, hlockO, -, hsigO⟩ := Cond.code_spec hnO hcode
  cases hmO.symm.trans hmO'
  obtain ⟨kO, hkO, hnameO⟩ := className_of_methodNamed hnO
  obtain ⟨hnameMO, hdescO⟩ := name_of_methodNamed hnO hmO
  have hWT : Z.Warmed39 T.vm := wtrans hZ X.warmed
  obtain ⟨mz, hnz⟩ := Cond.code_named wc
  have w' : (Cond.methodRef own index y).before a0 (Z.setVm T.vm) = true := Cond.methodRef_warmed39 hWT hnz hy w
  have hcur : (Z.setVm T.vm).vm.findClass own = some m.cls := by
    show T.vm.findClass own = _
    rw [X.warmed.alike.findClass]; exact hown
  obtain ⟨mm, c', ci, b, r1, r2, r3, r4, r5⟩ := Cond.methodRef_spec (e := e) hcur w'
  have hnT : T.methodNamed? y = some obj := X.named hnO
  have hnT' : (Z.setVm T.vm).methodNamed? y = some obj := hnT
  have hfT := State.methodFound?_of_named hnT' hy
  have em : mm = obj := Option.some.inj (r1.symm.trans hfT)
  subst em
  have hcT : (Z.setVm T.vm).vm.findClass y.cls = some mm.cls := findClass_of_methodNamed hnT'
  have ec : c' = mm.cls := Option.some.inj (r3.symm.trans hcT)
  subst ec
  have hpool : ∃ (k : Class) (cf : ClassFile) (nt : Nat), T.vm.classes[m.cls]? = some k ∧ k.cf = some cf ∧ (cf.constantPool[index]? = some (.methodref ci nt) ∨ cf.constantPool[index]? = some (.interfaceMethodref ci nt)) := by
    simp only [Cond.before, Cond.holds, Cond.value, hcur, hfT, beq_iff_eq, Option.some.injEq, Bool.and_eq_true, decide_eq_true_eq] at w'
    obtain ⟨⟨hnames, -⟩, -⟩ := w'
    obtain ⟨cp, hcp, hn⟩ := State.names_spec hnames
    obtain ⟨ci', nt, hentry, hnt, -⟩ := namesOf?_method hn
    obtain ⟨k, cf, hk, hcf, rfl⟩ := State.poolOf?_spec hcur hcp
    obtain ⟨b', hask⟩ := memberRef_ask' (e := e) hk hcf hentry hnt
    have z := r4.symm.trans hask
    simp only [Except.ok.injEq, Prod.mk.injEq] at z
    obtain ⟨rfl, -⟩ := z
    exact ⟨k, cf, nt, hk, hcf, hentry⟩
  obtain ⟨kc, cf, nt, p1, p2, p3⟩ := hpool
  obtain ⟨kO₂, hkO₂, -⟩ := X.warmed.alike.2.2 _ _ hkO
  have hmT : T.vm.method? mm = some methO := by rw [X.warmed.alike.method?]; exact hmO
  have hfound : lookupSpecial T.vm mm.cls "<init>" methO.desc = .method mm := by
    rw [X.warmed.alike.lookupSpecial, hdescO, ← hy1]; exact lookupSpecial_of_named hnO hmO hstO
  have hWT₁ : s.WarmedH T.vm := X.warmed
  have X₁ : Stand p l e R s m args below meth c (T.setVm T.vm) locs cells slots := X
  subst hg
  obtain ⟨v, B, X', hpost, hsteps⟩ := hK g.method meth c ⟨T.setVm T.vm, locs, cells, slots⟩ { g with stack := rest } (.invokespecial index) mm (.ref a :: argsL).toArray X₁ rfl hsize hdg hW (X₁.named hnO) (hpre T.vm hWT₁)
  refine ⟨v, T.vm, B, hWT₁, X', hpost, Steps.trans ?_ hsteps⟩
  jvm_step X.here [hx, hdg, invokespecial.wp_init (e := e) (s := T) (k := kO₂) (meth := methO) (m := mm) (a := a) (args := argsL) (rest := rest) (f := g) X.here.top ⟨kc, cf, ci, nt, p1, p2, p3, r5⟩ r2 hkO₂ hmT (by rw [hnameMO]; exact hy1) hstO habO hfound (hlen _ hsigO) hstack]
  intro acts
  rw [doInvoke_state]
  exact Steps.refl _
theorem own_retV (X : Stand p l e R s m args below meth c T locs cells slots) (hx : p.tables.exec = Jvm.exec) {pc : Nat} {Ls : Array Slot} {v : Value} {C : String} {rest : List Value} (hret : meth.sig.returnType = some (.object C)) (hv : v.isRef = true) (hd : decode c.code pc = .ok (.areturn, 1)) {fs : List Frame}
    (hl : ∀ (f : JFrame) (acts : List Action), f.method = m → f.locked = none → f.entered = [] → (doReturn e (T.setTop f) acts (some v)).1 = T.setFrames fs) : Steps p.tables e below (T.setTop (mkF m pc Ls (v :: rest))) (T.setFrames fs) := by
  rcases ref_cases hv with rfl | ⟨a, rfl⟩
  · exact retOut X hx hret rfl (Or.inr (Or.inr (Or.inr (Or.inr ⟨rfl, rfl, rfl⟩)))) hd hl
  · exact retOut X hx hret rfl (Or.inr (Or.inr (Or.inr (Or.inr ⟨rfl, rfl, rfl⟩)))) hd hl
end Own
abbrev own_ST : String := "java/lang/String"
abbrev own_ND : String := "com/example/isogloss/isogloss/util/PersistentMap$Node"
abbrev own_PM : String := "com/example/isogloss/isogloss/util/PersistentMap"
abbrev own_LN : String := "Lcom/example/isogloss/isogloss/util/PersistentMap$Node;"
def Ky (x : Int32) : Prop := x = 97 ∨ x = 98 ∨ x = 99 ∨ x = 100
def Str (Z : State) (h : Heap) (a : Addr) (x : Int32) : Prop := Exa Z h a own_ST ∧ Fld Z h a own_ST "coder" "B" (.int 0) ∧ ∃ (t : Addr) (kb : ClassId), Fld Z h a own_ST "value" "[B" (.ref t) ∧ Arv Z h t kb .byte (1 : Int32) [.int x] (.int 0)
theorem Str.ext {Z : State} {h h' : Heap} {a : Addr} {x : Int32} (S : Str Z h a x) (E : Ext h h') : Str Z h' a x := by
  obtain ⟨s1, s2, t, kb, s3, s4⟩ := S
  exact ⟨s1.ext E, s2.ext E, t, kb, s3.ext E, s4.ext E⟩
def Ht (Z : State) (h : Heap) (v : Value) (n : Nat) : Prop := (v = .null ∧ n = 0) ∨ ∃ a : Addr, v = .ref a ∧ Fld Z h a own_ND "height" "I" (.int (Int32.ofNat n))
theorem Ht.ext {Z : State} {h h' : Heap} {v : Value} {n : Nat} (S : Ht Z h v n) (E : Ext h h') : Ht Z h' v n := by
  rcases S with S | ⟨a, rfl, F⟩
  · exact Or.inl S
  · exact Or.inr ⟨a, rfl, F.ext E⟩
theorem Ht.isRef {Z : State} {h : Heap} {v : Value} {n : Nat} (S : Ht Z h v n) : v.isRef = true := by
  rcases S with ⟨rfl, -⟩ | ⟨a, rfl, -⟩ <;> rfl
def Tree (Z : State) (h : Heap) : Nat → Nat → Value → (Int32 → Prop) → Prop
  | 0, n, v, P => n = 0 ∧ v = .null ∧ ∀ k, ¬ P k
  | f + 1, n, v, P => (n = 0 ∧ v = .null ∧ ∀ k, ¬ P k) ∨ ∃ (a ka va : Addr) (x : Int32) (l r : Value) (nl nr : Nat) (PL PR : Int32 → Prop), v = .ref a ∧ Exa Z h a own_ND ∧ Fld Z h a own_ND "key" "Ljava/lang/String;" (.ref ka) ∧ Str Z h ka x ∧ Ky x ∧ Fld Z h a own_ND "value" "Ljava/lang/Object;" (.ref va) ∧
      Fld Z h a own_ND "left" own_LN l ∧ Fld Z h a own_ND "right" own_LN r ∧ Fld Z h a own_ND "height" "I" (.int (Int32.ofNat n)) ∧ n = max nl nr + 1 ∧ nl ≤ nr + 1 ∧ nr ≤ nl + 1 ∧ Tree Z h f nl l PL ∧ Tree Z h f nr r PR ∧ (∀ k, PL k → k < x) ∧ (∀ k, PR k → x < k) ∧ ∀ k, P k ↔ k = x ∨ PL k ∨ PR k
theorem own_text {Z : State} {h h' : Heap} (E : Ext h h') : ∀ {f n : Nat} {v : Value} {P : Int32 → Prop}, Tree Z h f n v P → Tree Z h' f n v P
  | 0, _, _, _, T => T
  | f + 1, _, _, _, T => by
    rcases T with T | ⟨a, ka, va, x, l, r, nl, nr, PL, PR, t1, t2, t3, t4, t5, t6, t7, t8, t9, t10, t11, t12, t13, t14, t15⟩
    · exact Or.inl T
    · exact Or.inr ⟨a, ka, va, x, l, r, nl, nr, PL, PR, t1, t2.ext E, t3.ext E, t4.ext E, t5, t6.ext E, t7.ext E, t8.ext E, t9.ext E, t10, t11, t12, own_text E t13, own_text E t14, t15⟩
theorem Tree.ext {Z : State} {h h' : Heap} {f n : Nat} {v : Value} {P : Int32 → Prop} (T : Tree Z h f n v P) (E : Ext h h') : Tree Z h' f n v P := own_text E T
theorem Tree.le {Z : State} {h : Heap} : ∀ {f n : Nat} {v : Value} {P : Int32 → Prop}, Tree Z h f n v P → n ≤ f
  | 0, _, _, _, T => Nat.le_of_eq T.1
  | f + 1, _, _, _, T => by
    rcases T with T | ⟨a, ka, va, x, l, r, nl, nr, PL, PR, t1, t2, t3, t4, t5, t6, t7, t8, t9, t10, t11, t12, t13, t14, t15⟩
    · rw [T.1]; exact Nat.zero_le _
    · have q1 := Tree.le t13
      have q2 := Tree.le t14
      omega
theorem Tree.fuel {Z : State} {h : Heap} : ∀ {f g n : Nat} {v : Value} {P : Int32 → Prop}, Tree Z h f n v P → n ≤ g → Tree Z h g n v P
  | 0, 0, _, _, _, T, _ => T
  | 0, g + 1, _, _, _, T, _ => Or.inl T
  | f + 1, 0, n, v, P, T, q => by
    rcases T with T | ⟨a, ka, va, x, l, r, nl, nr, PL, PR, t1, t2, t3, t4, t5, t6, t7, t8, t9, t10, t11, t12, t13, t14, t15⟩
    · exact T
    · omega
  | f + 1, g + 1, n, v, P, T, q => by
    rcases T with T | ⟨a, ka, va, x, l, r, nl, nr, PL, PR, t1, t2, t3, t4, t5, t6, t7, t8, t9, t10, t11, t12, t13, t14, t15⟩
    · exact Or.inl T
    · exact Or.inr ⟨a, ka, va, x, l, r, nl, nr, PL, PR, t1, t2, t3, t4, t5, t6, t7, t8, t9, t10, t11, t12, Tree.fuel t13 (by omega), Tree.fuel t14 (by omega), t15⟩
theorem Tree.ht {Z : State} {h : Heap} {f n : Nat} {v : Value} {P : Int32 → Prop} (T : Tree Z h f n v P) : Ht Z h v n := by
  cases f with
  | zero => exact Or.inl ⟨T.2.1, T.1⟩
  | succ f =>
    rcases T with T | ⟨a, ka, va, x, l, r, nl, nr, PL, PR, t1, t2, t3, t4, t5, t6, t7, t8, t9, t10⟩
    · exact Or.inl ⟨T.2.1, T.1⟩
    · exact Or.inr ⟨a, t1, t9⟩
theorem Tree.isRef {Z : State} {h : Heap} {f n : Nat} {v : Value} {P : Int32 → Prop} (T : Tree Z h f n v P) : v.isRef = true := T.ht.isRef
theorem Tree.iff {Z : State} {h : Heap} : ∀ {f n : Nat} {v : Value} {P P' : Int32 → Prop}, Tree Z h f n v P → (∀ k, P' k ↔ P k) → Tree Z h f n v P'
  | 0, _, _, _, _, T, q => ⟨T.1, T.2.1, fun k hk => T.2.2 k ((q k).mp hk)⟩
  | f + 1, _, _, _, _, T, q => by
    rcases T with T | ⟨a, ka, va, x, l, r, nl, nr, PL, PR, t1, t2, t3, t4, t5, t6, t7, t8, t9, t10, t11, t12, t13, t14, t15, t16, t17⟩
    · exact Or.inl ⟨T.1, T.2.1, fun k hk => T.2.2 k ((q k).mp hk)⟩
    · exact Or.inr ⟨a, ka, va, x, l, r, nl, nr, PL, PR, t1, t2, t3, t4, t5, t6, t7, t8, t9, t10, t11, t12, t13, t14, t15, t16, fun k => (q k).trans (t17 k)⟩
theorem Tree.up {Z : State} {h : Heap} {f n : Nat} {v : Value} {P : Int32 → Prop} (T : Tree Z h f n v P) : Tree Z h (f + 1) n v P := T.fuel (Nat.le_succ_of_le T.le)
theorem Ht.nf {Z : State} {h : Heap} {v : Value} {n : Nat} {b : Addr} (S : Ht Z h v n) (hb : h.size ≤ b) : v ≠ .ref b := by
  rcases S with ⟨rfl, -⟩ | ⟨a, rfl, F⟩
  · exact fun q => nomatch q
  · intro q
    have u := F.lt
    cases q
    exact absurd u (Nat.not_lt.mpr hb)
def NF (Z : State) (h : Heap) (b ka va : Addr) (l r : Value) (n : Nat) : Prop := Exa Z h b own_ND ∧ Fld Z h b own_ND "key" "Ljava/lang/String;" (.ref ka) ∧ Fld Z h b own_ND "value" "Ljava/lang/Object;" (.ref va) ∧ Fld Z h b own_ND "left" own_LN l ∧ Fld Z h b own_ND "right" own_LN r ∧ Fld Z h b own_ND "height" "I" (.int (Int32.ofNat n))
theorem NF.ht {Z : State} {h : Heap} {b ka va : Addr} {l r : Value} {n : Nat} (N : NF Z h b ka va l r n) : Ht Z h (.ref b) n := Or.inr ⟨b, rfl, N.2.2.2.2.2⟩
theorem own_node {Z : State} {h : Heap} {f nl nr : Nat} {b ka va : Addr} {x : Int32} {l r : Value} {PL PR : Int32 → Prop} (N : NF Z h b ka va l r (max nl nr + 1)) (S : Str Z h ka x) (hx : Ky x) (TL : Tree Z h f nl l PL) (TR : Tree Z h f nr r PR) (h1 : nl ≤ nr + 1) (h2 : nr ≤ nl + 1) (o1 : ∀ k, PL k → k < x) (o2 : ∀ k, PR k → x < k) :
    Tree Z h (f + 1) (max nl nr + 1) (.ref b) (fun k => k = x ∨ PL k ∨ PR k) :=
  Or.inr ⟨b, ka, va, x, l, r, nl, nr, PL, PR, rfl, N.1, N.2.1, S, hx, N.2.2.1, N.2.2.2.1, N.2.2.2.2.1, N.2.2.2.2.2, rfl, h1, h2, TL, TR, o1, o2, fun k => Iff.rfl⟩
theorem own_open {Z : State} {h : Heap} {f n : Nat} {v : Value} {P : Int32 → Prop} (T : Tree Z h f n v P) (hn : 0 < n) : ∃ (g : Nat) (a ka va : Addr) (x : Int32) (l r : Value) (nl nr : Nat) (PL PR : Int32 → Prop), f = g + 1 ∧ v = .ref a ∧ NF Z h a ka va l r n ∧ Str Z h ka x ∧ Ky x ∧ n = max nl nr + 1 ∧ nl ≤ nr + 1 ∧ nr ≤ nl + 1 ∧ Tree Z h g nl l PL ∧ Tree Z h g nr r PR ∧ (∀ k, PL k → k < x) ∧ (∀ k, PR k → x < k) ∧ ∀ k, P k ↔ k = x ∨ PL k ∨ PR k := by
  cases f with
  | zero => exact absurd T.1 (by omega)
  | succ g =>
    rcases T with T | ⟨a, ka, va, x, l, r, nl, nr, PL, PR, t1, t2, t3, t4, t5, t6, t7, t8, t9, t10, t11, t12, t13, t14, t15, t16, t17⟩
    · exact absurd T.1 (by omega)
    · exact ⟨g, a, ka, va, x, l, r, nl, nr, PL, PR, rfl, t1, ⟨t2, t3, t6, t7, t8, t9⟩, t4, t5, t10, t11, t12, t13, t14, t15, t16, t17⟩
def BalP (Z : State) (h : Heap) (f nl nr : Nat) (b : Addr) (x : Int32) (PL PR : Int32 → Prop) : Prop := ∃ n, Tree Z h (f + 1) n (.ref b) (fun k => k = x ∨ PL k ∨ PR k) ∧ max nl nr ≤ n ∧ n ≤ max nl nr + 1 ∧ (nl ≤ nr + 1 → nr ≤ nl + 1 → n = max nl nr + 1)
def PutP (Z : State) (h : Heap) (f n : Nat) (b : Addr) (x : Int32) (P : Int32 → Prop) : Prop := ∃ n', Tree Z h (f + 1) n' (.ref b) (fun k => k = x ∨ P k) ∧ n ≤ n' ∧ n' ≤ n + 1
theorem own_bal0 {Z : State} {h : Heap} {f nl nr : Nat} {b ka va : Addr} {x : Int32} {l r : Value} {PL PR : Int32 → Prop} (N : NF Z h b ka va l r (max nl nr + 1)) (S : Str Z h ka x) (hx : Ky x) (TL : Tree Z h f nl l PL) (TR : Tree Z h f nr r PR) (h1 : ¬ nr + 1 < nl) (h2 : ¬ nl + 1 < nr) (o1 : ∀ k, PL k → k < x) (o2 : ∀ k, PR k → x < k) : BalP Z h f nl nr b x PL PR :=
  ⟨_, own_node N S hx TL TR (by omega) (by omega) o1 o2, by omega, by omega, fun _ _ => rfl⟩
section Rot
variable {Z : State} {h : Heap} {g nl nr nll nlr : Nat} {b1 b2 b3 ka va kal vav kap vap : Addr} {x xl xp : Int32} {vl vr vll vlr vpl vpr : Value} {PL PR PLL PLR PPL PPR : Int32 → Prop} {npl npr : Nat}
theorem own_LL (N2 : NF Z h b2 ka va vlr vr (max nlr nr + 1)) (N1 : NF Z h b1 kal vav vll (.ref b2) (max nll (max nlr nr + 1) + 1)) (S : Str Z h ka x) (hx : Ky x) (Sl : Str Z h kal xl) (hxl : Ky xl) (TLL : Tree Z h g nll vll PLL) (TLR : Tree Z h g nlr vlr PLR) (TR : Tree Z h (g + 1) nr vr PR)
    (hn : nl = max nll nlr + 1) (a1 : nll ≤ nlr + 1) (a2 : nlr ≤ nll + 1) (h1 : nr + 1 < nl) (hb : nl ≤ nr + 2) (hc : ¬ nll < nlr) (p1 : ∀ k, PLL k → k < xl) (p2 : ∀ k, PLR k → xl < k) (hP : ∀ k, PL k ↔ k = xl ∨ PLL k ∨ PLR k) (o1 : ∀ k, PL k → k < x) (o2 : ∀ k, PR k → x < k) : BalP Z h (g + 1) nl nr b1 x PL PR := by
  have hlt : xl < x := o1 xl ((hP xl).mpr (Or.inl rfl))
  have i1 : Tree Z h (g + 1) (max nlr nr + 1) (.ref b2) (fun k => k = x ∨ PLR k ∨ PR k) := own_node N2 S hx TLR (TR.fuel (by have := TLL.le; omega)) (by omega) (by omega) (fun k hk => o1 k ((hP k).mpr (Or.inr (Or.inr hk)))) o2
  refine ⟨_, (own_node N1 Sl hxl TLL.up i1 (by omega) (by omega) p1 (fun k hk => ?_)).iff (fun k => ?_), by omega, by omega, fun q => by omega⟩
  · rcases hk with rfl | hk | hk
    · exact hlt
    · exact p2 k hk
    · exact Int32.lt_trans hlt (o2 k hk)
  · rw [hP k]; simp only [or_assoc, or_comm, or_left_comm]
theorem own_LR (N3 : NF Z h b3 ka va vpr vr (max npr nr + 1)) (N2 : NF Z h b2 kal vav vll vpl (max nll npl + 1)) (N1 : NF Z h b1 kap vap (.ref b2) (.ref b3) (max (max nll npl + 1) (max npr nr + 1) + 1)) (S : Str Z h ka x) (hx : Ky x) (Sl : Str Z h kal xl) (hxl : Ky xl) (Sp : Str Z h kap xp) (hxp : Ky xp)
    (TLL : Tree Z h (g + 1) nll vll PLL) (TPL : Tree Z h g npl vpl PPL) (TPR : Tree Z h g npr vpr PPR) (TR : Tree Z h (g + 2) nr vr PR) (hnp : nlr = max npl npr + 1) (c1 : npl ≤ npr + 1) (c2 : npr ≤ npl + 1)
    (hn : nl = max nll nlr + 1) (a1 : nll ≤ nlr + 1) (a2 : nlr ≤ nll + 1) (h1 : nr + 1 < nl) (hb : nl ≤ nr + 2) (hc : nll < nlr) (p1 : ∀ k, PLL k → k < xl) (p2 : ∀ k, PLR k → xl < k) (hP : ∀ k, PL k ↔ k = xl ∨ PLL k ∨ PLR k) (r1 : ∀ k, PPL k → k < xp) (r2 : ∀ k, PPR k → xp < k) (hPP : ∀ k, PLR k ↔ k = xp ∨ PPL k ∨ PPR k) (o1 : ∀ k, PL k → k < x) (o2 : ∀ k, PR k → x < k) : BalP Z h (g + 2) nl nr b1 x PL PR := by
  have hlp : xl < xp := p2 xp ((hPP xp).mpr (Or.inl rfl))
  have hpx : xp < x := o1 xp ((hP xp).mpr (Or.inr (Or.inr ((hPP xp).mpr (Or.inl rfl)))))
  have q1 := TPL.le
  have q2 := TPR.le
  have i2 : Tree Z h (g + 2) (max nll npl + 1) (.ref b2) (fun k => k = xl ∨ PLL k ∨ PPL k) := own_node N2 Sl hxl TLL TPL.up (by omega) (by omega) p1 (fun k hk => p2 k ((hPP k).mpr (Or.inr (Or.inl hk))))
  have i3 : Tree Z h (g + 2) (max npr nr + 1) (.ref b3) (fun k => k = x ∨ PPR k ∨ PR k) := own_node N3 S hx TPR.up (TR.fuel (by omega)) (by omega) (by omega) (fun k hk => o1 k ((hP k).mpr (Or.inr (Or.inr ((hPP k).mpr (Or.inr (Or.inr hk))))))) o2
  refine ⟨_, (own_node N1 Sp hxp i2 i3 (by omega) (by omega) (fun k hk => ?_) (fun k hk => ?_)).iff (fun k => ?_), by omega, by omega, fun q => by omega⟩
  · rcases hk with rfl | hk | hk
    · exact hlp
    · exact Int32.lt_trans (p1 k hk) hlp
    · exact r1 k hk
  · rcases hk with rfl | hk | hk
    · exact hpx
    · exact r2 k hk
    · exact Int32.lt_trans hpx (o2 k hk)
  · rw [hP k, hPP k]; simp only [or_assoc, or_comm, or_left_comm]
-- the mirror images: the right one is higher
theorem own_RR {nrl nrr : Nat} {kar var : Addr} {xr : Int32} {vrl vrr : Value} {PRL PRR : Int32 → Prop} (N2 : NF Z h b2 ka va vl vrl (max nl nrl + 1)) (N1 : NF Z h b1 kar var (.ref b2) vrr (max (max nl nrl + 1) nrr + 1)) (S : Str Z h ka x) (hx : Ky x) (Sr : Str Z h kar xr) (hxr : Ky xr) (TL : Tree Z h (g + 1) nl vl PL) (TRL : Tree Z h g nrl vrl PRL) (TRR : Tree Z h g nrr vrr PRR)
    (hn : nr = max nrl nrr + 1) (a1 : nrl ≤ nrr + 1) (a2 : nrr ≤ nrl + 1) (h1 : nl + 1 < nr) (hb : nr ≤ nl + 2) (hc : ¬ nrr < nrl) (p1 : ∀ k, PRL k → k < xr) (p2 : ∀ k, PRR k → xr < k) (hP : ∀ k, PR k ↔ k = xr ∨ PRL k ∨ PRR k) (o1 : ∀ k, PL k → k < x) (o2 : ∀ k, PR k → x < k) : BalP Z h (g + 1) nl nr b1 x PL PR := by
  have hlt : x < xr := o2 xr ((hP xr).mpr (Or.inl rfl))
  have i1 : Tree Z h (g + 1) (max nl nrl + 1) (.ref b2) (fun k => k = x ∨ PL k ∨ PRL k) := own_node N2 S hx (TL.fuel (by have := TRR.le; omega)) TRL (by omega) (by omega) o1 (fun k hk => o2 k ((hP k).mpr (Or.inr (Or.inl hk))))
  refine ⟨_, (own_node N1 Sr hxr i1 TRR.up (by omega) (by omega) (fun k hk => ?_) p2).iff (fun k => ?_), by omega, by omega, fun _ q => by omega⟩
  · rcases hk with rfl | hk | hk
    · exact hlt
    · exact Int32.lt_trans (o1 k hk) hlt
    · exact p1 k hk
  · rw [hP k]; simp only [or_assoc, or_comm, or_left_comm]
theorem own_RL {nrl nrr : Nat} {kar var : Addr} {xr : Int32} {vrr : Value} {PRL PRR : Int32 → Prop} (N2 : NF Z h b2 ka va vl vpl (max nl npl + 1)) (N3 : NF Z h b3 kar var vpr vrr (max npr nrr + 1)) (N1 : NF Z h b1 kap vap (.ref b2) (.ref b3) (max (max nl npl + 1) (max npr nrr + 1) + 1)) (S : Str Z h ka x) (hx : Ky x) (Sr : Str Z h kar xr) (hxr : Ky xr) (Sp : Str Z h kap xp) (hxp : Ky xp)
    (TL : Tree Z h (g + 2) nl vl PL) (TPL : Tree Z h g npl vpl PPL) (TPR : Tree Z h g npr vpr PPR) (TRR : Tree Z h (g + 1) nrr vrr PRR) (hnp : nrl = max npl npr + 1) (c1 : npl ≤ npr + 1) (c2 : npr ≤ npl + 1)
    (hn : nr = max nrl nrr + 1) (a1 : nrl ≤ nrr + 1) (a2 : nrr ≤ nrl + 1) (h1 : nl + 1 < nr) (hb : nr ≤ nl + 2) (hc : nrr < nrl) (p1 : ∀ k, PRL k → k < xr) (p2 : ∀ k, PRR k → xr < k) (hP : ∀ k, PR k ↔ k = xr ∨ PRL k ∨ PRR k) (r1 : ∀ k, PPL k → k < xp) (r2 : ∀ k, PPR k → xp < k) (hPP : ∀ k, PRL k ↔ k = xp ∨ PPL k ∨ PPR k) (o1 : ∀ k, PL k → k < x) (o2 : ∀ k, PR k → x < k) : BalP Z h (g + 2) nl nr b1 x PL PR := by
  have hpr : xp < xr := p1 xp ((hPP xp).mpr (Or.inl rfl))
  have hxp' : x < xp := o2 xp ((hP xp).mpr (Or.inr (Or.inl ((hPP xp).mpr (Or.inl rfl)))))
  have q1 := TPL.le
  have q2 := TPR.le
  have i2 : Tree Z h (g + 2) (max nl npl + 1) (.ref b2) (fun k => k = x ∨ PL k ∨ PPL k) := own_node N2 S hx (TL.fuel (by omega)) TPL.up (by omega) (by omega) o1 (fun k hk => o2 k ((hP k).mpr (Or.inr (Or.inl ((hPP k).mpr (Or.inr (Or.inl hk)))))))
  have i3 : Tree Z h (g + 2) (max npr nrr + 1) (.ref b3) (fun k => k = xr ∨ PPR k ∨ PRR k) := own_node N3 Sr hxr TPR.up TRR (by omega) (by omega) (fun k hk => p1 k ((hPP k).mpr (Or.inr (Or.inr hk)))) p2
  refine ⟨_, (own_node N1 Sp hxp i2 i3 (by omega) (by omega) (fun k hk => ?_) (fun k hk => ?_)).iff (fun k => ?_), by omega, by omega, fun _ q => by omega⟩
  · rcases hk with rfl | hk | hk
    · exact hxp'
    · exact Int32.lt_trans (o1 k hk) hxp'
    · exact r1 k hk
  · rcases hk with rfl | hk | hk
    · exact hpr
    · exact r2 k hk
    · exact Int32.lt_trans hpr (p2 k hk)
  · rw [hP k, hPP k]; simp only [or_assoc, or_comm, or_left_comm]
end Rot
theorem own_putL {Z : State} {h : Heap} {f n nl nr n1 : Nat} {b : Addr} {x xa : Int32} {P PL PR : Int32 → Prop} (B : BalP Z h f n1 nr b xa (fun k => k = x ∨ PL k) PR) (hn : n = max nl nr + 1) (a1 : nl ≤ nr + 1) (a2 : nr ≤ nl + 1) (u1 : nl ≤ n1) (u2 : n1 ≤ nl + 1) (hP : ∀ k, P k ↔ k = xa ∨ PL k ∨ PR k) : PutP Z h f n b x P := by
  obtain ⟨n', T, q1, q2, q3⟩ := B
  refine ⟨n', T.iff fun k => by rw [hP k]; simp only [or_assoc, or_comm, or_left_comm], ?_, ?_⟩
  · by_cases c : n1 ≤ nr + 1
    · have := q3 c (by omega); omega
    · omega
  · by_cases c : n1 ≤ nr + 1
    · have := q3 c (by omega); omega
    · omega
theorem own_putR {Z : State} {h : Heap} {f n nl nr n1 : Nat} {b : Addr} {x xa : Int32} {P PL PR : Int32 → Prop} (B : BalP Z h f nl n1 b xa PL (fun k => k = x ∨ PR k)) (hn : n = max nl nr + 1) (a1 : nl ≤ nr + 1) (a2 : nr ≤ nl + 1) (u1 : nr ≤ n1) (u2 : n1 ≤ nr + 1) (hP : ∀ k, P k ↔ k = xa ∨ PL k ∨ PR k) : PutP Z h f n b x P := by
  obtain ⟨n', T, q1, q2, q3⟩ := B
  refine ⟨n', T.iff fun k => by rw [hP k]; simp only [or_assoc, or_comm, or_left_comm], ?_, ?_⟩
  · by_cases c : n1 ≤ nl + 1
    · have := q3 (by omega) c; omega
    · omega
  · by_cases c : n1 ≤ nl + 1
    · have := q3 (by omega) c; omega
    · omega
theorem own_putE {Z : State} {h : Heap} {f n nl nr : Nat} {b ka va : Addr} {x xa : Int32} {l r : Value} {P PL PR : Int32 → Prop} (N : NF Z h b ka va l r (max nl nr + 1)) (S : Str Z h ka x) (hx : Ky x) (TL : Tree Z h f nl l PL) (TR : Tree Z h f nr r PR) (e : x = xa) (hn : n = max nl nr + 1) (a1 : nl ≤ nr + 1) (a2 : nr ≤ nl + 1) (p1 : ∀ k, PL k → k < xa) (p2 : ∀ k, PR k → xa < k) (hP : ∀ k, P k ↔ k = xa ∨ PL k ∨ PR k) : PutP Z h (f + 1) n b x P := by
  subst e
  refine ⟨_, ((own_node N S hx TL TR a1 a2 p1 p2).iff fun k => ?_).up, by omega, by omega⟩
  rw [hP k]
  constructor
  · rintro (h | h)
    · exact Or.inl h
    · exact h
  · exact fun h => Or.inr h
theorem own_putN {Z : State} {h : Heap} {f : Nat} {b ka va : Addr} {x : Int32} {P : Int32 → Prop} (N : NF Z h b ka va .null .null (max 0 0 + 1)) (S : Str Z h ka x) (hx : Ky x) (hP : ∀ k, ¬ P k) : PutP Z h f 0 b x P := by
  have T : Tree Z h 1 1 (.ref b) (fun k => k = x ∨ False ∨ False) := own_node (f := 0) (nl := 0) (nr := 0) (PL := fun _ => False) (PR := fun _ => False) N S hx ⟨rfl, rfl, fun _ q => q⟩ ⟨rfl, rfl, fun _ q => q⟩ (by omega) (by omega) (fun _ q => q.elim) (fun _ q => q.elim)
  refine ⟨1, (T.iff fun k => ?_).fuel (by omega), by omega, by omega⟩
  constructor
  · rintro (h | h)
    · exact Or.inl h
    · exact absurd h (hP k)
  · rintro (h | h | h)
    · exact Or.inl h
    · exact h.elim
    · exact h.elim
section Own2
variable {Z : State} {h h' : Heap} {b : Addr} {a0 : Array Value} {m : Nat}
theorem Str.keepB {a : Addr} {x : Int32} (S : Str Z h a x) (K : Keep h h' [b]) (E : Exa Z h b own_PM) (w : (Cond.instantiable own_PM m).before a0 Z = true) : Str Z h' a x := by
  obtain ⟨s1, s2, t, kb, s3, s4⟩ := S
  have q : a ∉ [b] := ninS (s1.ne E (by decide)) nin0
  exact ⟨s1.keep K, s2.keep K q, t, kb, s3.keep K q, s4.keep K (ninS (Ne.symm (E.neArv s4 w)) nin0)⟩
theorem Tree.keepB (K : Keep h h' [b]) (E : Exa Z h b own_PM) (w : (Cond.instantiable own_PM m).before a0 Z = true) : ∀ {f n : Nat} {v : Value} {P : Int32 → Prop}, Tree Z h f n v P → Tree Z h' f n v P
  | 0, _, _, _, T => T
  | f + 1, _, _, _, T => by
    rcases T with T | ⟨a, ka, va, x, l, r, nl, nr, PL, PR, t1, t2, t3, t4, t5, t6, t7, t8, t9, t10, t11, t12, t13, t14, t15⟩
    · exact Or.inl T
    · have q : a ∉ [b] := ninS (t2.ne E (by decide)) nin0
      exact Or.inr ⟨a, ka, va, x, l, r, nl, nr, PL, PR, t1, t2.keep K, t3.keep K q, t4.keepB K E w, t5, t6.keep K q, t7.keep K q, t8.keep K q, t9.keep K q, t10, t11, t12, Tree.keepB K E w t13, Tree.keepB K E w t14, t15⟩
theorem PutP.keepB {f n : Nat} {t : Addr} {x : Int32} {P : Int32 → Prop} (T : PutP Z h f n t x P) (K : Keep h h' [b]) (E : Exa Z h b own_PM) (w : (Cond.instantiable own_PM m).before a0 Z = true) : PutP Z h' f n t x P := by
  obtain ⟨n', T, q⟩ := T
  exact ⟨n', T.keepB K E w, q⟩
theorem Ht.keepA {v : Value} {n : Nat} {a : Addr} (S : Ht Z h v n) (K : Keep h h' [a]) (q : v ≠ .ref a) : Ht Z h' v n := by
  rcases S with S | ⟨c, rfl, F⟩
  · exact Or.inl S
  · exact Or.inr ⟨c, rfl, F.keep K (ninS (fun z => q (congrArg Value.ref z)) nin0)⟩
theorem own_fits {v : Value} {C : String} (hv : v.isRef = true) : fits (.object C) v = true := by
  rcases ref_cases hv with rfl | ⟨_, rfl⟩ <;> rfl
theorem own_zero {f n : Nat} {v : Value} {P : Int32 → Prop} (T : Tree Z h f n v P) (hn : n = 0) : v = .null ∧ ∀ k, ¬ P k := by
  cases f with
  | zero => exact T.2
  | succ g =>
    rcases T with T | ⟨a, ka, va, x, l, r, nl, nr, PL, PR, t1, t2, t3, t4, t5, t6, t7, t8, t9, t10, t11⟩
    · exact T.2
    · omega
theorem own_oL {x xa : Int32} {PL : Int32 → Prop} (h : x < xa) (p : ∀ k, PL k → k < xa) : ∀ k, (fun k => k = x ∨ PL k) k → k < xa := by
  rintro k (rfl | q)
  · exact h
  · exact p k q
theorem own_oR {x xa : Int32} {PR : Int32 → Prop} (h : xa < x) (p : ∀ k, PR k → xa < k) : ∀ k, (fun k => k = x ∨ PR k) k → xa < k := by
  rintro k (rfl | q)
  · exact h
  · exact p k q
theorem own_gl {x xa : Int32} {P PL PR : Int32 → Prop} (hP : ∀ k, P k ↔ k = xa ∨ PL k ∨ PR k) (p2 : ∀ k, PR k → xa < k) (h : x < xa) : P x ↔ PL x := by
  rw [hP x]
  constructor
  · rintro (rfl | q | q)
    · exact absurd h Int32.lt_irrefl
    · exact q
    · exact absurd (Int32.lt_trans h (p2 x q)) Int32.lt_irrefl
  · exact fun q => Or.inr (Or.inl q)
theorem own_gr {x xa : Int32} {P PL PR : Int32 → Prop} (hP : ∀ k, P k ↔ k = xa ∨ PL k ∨ PR k) (p1 : ∀ k, PL k → k < xa) (h : xa < x) : P x ↔ PR x := by
  rw [hP x]
  constructor
  · rintro (rfl | q | q)
    · exact absurd h Int32.lt_irrefl
    · exact absurd (Int32.lt_trans h (p1 x q)) Int32.lt_irrefl
    · exact q
  · exact fun q => Or.inr (Or.inr q)
end Own2
theorem own_hws {Z : State} {a0 : Array Value} (hw : ∀ d ∈ tables_1, d.before a0 Z = true) : ∀ d ∈ StrChars.Road.words, d.before a0 Z = true := fun d hd => hw d ((by decide +kernel : ∀ d ∈ StrChars.Road.words, d ∈ tables_1) d hd)
theorem own_cat {v : Value} (h : v.isRef = true) : v.category = 1 := by rcases ref_cases h with rfl | ⟨_, rfl⟩ <;> rfl
theorem own_suc (n : Nat) : (1 : Int32) + Int32.ofNat n = Int32.ofNat (n + 1) := by
  apply Int32.toBitVec_inj.mp
  show (1 : BitVec 32) + BitVec.ofNat 32 n = BitVec.ofNat 32 (n + 1)
  rw [BitVec.ofNat_add, BitVec.add_comm]; rfl
theorem own_pre (n : Nat) : Int32.ofNat n + (1 : Int32) = Int32.ofNat (n + 1) := by rw [Int32.add_comm]; exact own_suc n
theorem own_oi {n : Nat} (h : n ≤ 9) : (Int32.ofNat n).toInt = n := Int32.toInt_ofNat_small (by omega)
theorem own_olt {n m : Nat} (hn : n ≤ 9) (hm : m ≤ 9) : Int32.ofNat n < Int32.ofNat m ↔ n < m := by
  rw [Int32.lt_iff_toInt_lt, own_oi hn, own_oi hm]; omega
theorem own_max (nl nr : Nat) (hl : nl ≤ 8) (hr : nr ≤ 8) : (Int32.ofNat nl < Int32.ofNat nr ∧ Int32.ofNat (max nl nr) = Int32.ofNat nr) ∨ (¬ (Int32.ofNat nl < Int32.ofNat nr) ∧ Int32.ofNat (max nl nr) = Int32.ofNat nl) := by
  by_cases h : nl < nr
  · exact Or.inl ⟨(own_olt (by omega) (by omega)).mpr h, by rw [Nat.max_eq_right (by omega)]⟩
  · exact Or.inr ⟨fun q => h ((own_olt (by omega) (by omega)).mp q), by rw [Nat.max_eq_left (by omega)]⟩
theorem own_kch {c : Int32} (h : c = 0 ∨ c = 1 ∨ c = 2 ∨ c = 3) : ¬ nar .char (((97 : Int32) + c).toUInt32.toUInt16.toUInt32.toInt32) < 0 ∧ ¬ (255 : Int32) < nar .char (((97 : Int32) + c).toUInt32.toUInt16.toUInt32.toInt32) := by
  rcases h with rfl | rfl | rfl | rfl <;> decide
theorem own_kb {c : Int32} (h : c = 0 ∨ c = 1 ∨ c = 2 ∨ c = 3) : (nar .char (((97 : Int32) + c).toUInt32.toUInt16.toUInt32.toInt32)).toInt8.toInt32 = (97 : Int32) + c := by
  rcases h with rfl | rfl | rfl | rfl <;> decide
theorem own_ky {c : Int32} (h : c = 0 ∨ c = 1 ∨ c = 2 ∨ c = 3) : Ky ((97 : Int32) + c) := by
  rcases h with rfl | rfl | rfl | rfl
  · exact Or.inl rfl
  · exact Or.inr (Or.inl rfl)
  · exact Or.inr (Or.inr (Or.inl rfl))
  · exact Or.inr (Or.inr (Or.inr rfl))
theorem own_cmpr {x y : Int32} (hx : Ky x) (hy : Ky y) : (x = y ∧ x - y = 0) ∨ (¬ (x = y) ∧ x - y = (nar .char ((x &&& (255 : Int32)).toUInt32.toUInt16.toUInt32.toInt32)) - (nar .char ((y &&& (255 : Int32)).toUInt32.toUInt16.toUInt32.toInt32))) := by
  rcases hx with rfl | rfl | rfl | rfl <;> rcases hy with rfl | rfl | rfl | rfl <;> first | (left; decide) | (right; decide)
theorem own_clt {x y : Int32} (hx : Ky x) (hy : Ky y) (h : x < y) : x - y < 0 := by
  rcases hx with rfl | rfl | rfl | rfl <;> rcases hy with rfl | rfl | rfl | rfl <;> revert h <;> decide
theorem own_cnl {x y : Int32} (hx : Ky x) (hy : Ky y) (h : ¬ x < y) : ¬ (x - y < 0) := by
  rcases hx with rfl | rfl | rfl | rfl <;> rcases hy with rfl | rfl | rfl | rfl <;> revert h <;> decide
theorem own_cgt {x y : Int32} (hx : Ky x) (hy : Ky y) (h : y < x) : 0 < x - y := by
  rcases hx with rfl | rfl | rfl | rfl <;> rcases hy with rfl | rfl | rfl | rfl <;> revert h <;> decide
theorem own_cng {x y : Int32} (hx : Ky x) (hy : Ky y) (h : ¬ y < x) : ¬ (0 < x - y) := by
  rcases hx with rfl | rfl | rfl | rfl <;> rcases hy with rfl | rfl | rfl | rfl <;> revert h <;> decide
theorem own_cz {x y : Int32} (h : x = y) : x - y = 0 := by subst h; simp
theorem own_cnz {x y : Int32} (hx : Ky x) (hy : Ky y) (h : ¬ x = y) : ¬ (x - y = 0) := by
  rcases hx with rfl | rfl | rfl | rfl <;> rcases hy with rfl | rfl | rfl | rfl <;> revert h <;> decide
theorem own_tri {x y : Int32} (h1 : ¬ x < y) (h2 : ¬ y < x) : x = y := Int32.le_antisymm (Int32.not_lt.mp h2) (Int32.not_lt.mp h1)
theorem own_ngt {x y : Int32} (h : x < y) : ¬ y < x := fun q => Int32.lt_irrefl (Int32.lt_trans h q)
section Own3
abbrev own_LP : String := "Lcom/example/isogloss/isogloss/util/PersistentMap;"
abbrev own_PMb : String := "com/example/isogloss/isogloss/util/PersistentMap"
def siz (c2 c3 c4 : Bool) : Nat → Nat
  | 0 => 0
  | 1 => 1
  | 2 => 1 + c2.toNat
  | 3 => 1 + c2.toNat + c3.toNat
  | 4 => 1 + c2.toNat + c3.toNat + c4.toNat
  | 5 => 0
  | _ => 1
def bas (c2 c3 c4 : Bool) : Nat → Option Nat
  | 0 => none
  | 1 => some 0
  | 2 => if c2 then some 1 else none
  | 3 => if c3 then some 2 else none
  | 4 => if c4 then some 3 else none
  | 5 => none
  | _ => some 5
def adr7 (m0 m1 m2 m3 m4 m5 m6 : Addr) : Nat → Addr
  | 0 => m0
  | 1 => m1
  | 2 => m2
  | 3 => m3
  | 4 => m4
  | 5 => m5
  | _ => m6
def bval (ad : Nat → Addr) : Option Nat → Value
  | none => .null
  | some j => .ref (ad j)
def Maps (Z : State) (h : Heap) (ad : Nat → Addr) (c2 c3 c4 : Bool) : Prop := ∀ i, i < 7 → Exa Z h (ad i) own_PMb ∧ Fld Z h (ad i) own_PMb "size" "I" (.int (Int32.ofNat (siz c2 c3 c4 i))) ∧ Fld Z h (ad i) own_PMb "base" own_LP (bval ad (bas c2 c3 c4 i))
theorem Maps.ext {Z : State} {h h' : Heap} {ad : Nat → Addr} {c2 c3 c4 : Bool} (M : Maps Z h ad c2 c3 c4) (E : Ext h h') : Maps Z h' ad c2 c3 c4 := fun i hi => ⟨(M i hi).1.ext E, (M i hi).2.1.ext E, (M i hi).2.2.ext E⟩
theorem own_maps {Z : State} {h : Heap} {m0 m1 m2 m3 m4 m5 m6 : Addr} {w0 w1 w2 w3 w4 w5 w6 : Int32} {v0 v1 v2 v3 v4 v5 v6 : Value} {c2 c3 c4 : Bool} (E0 : Exa Z h m0 own_PMb) (S0 : Fld Z h m0 own_PMb "size" "I" (.int w0)) (B0 : Fld Z h m0 own_PMb "base" own_LP v0) (E1 : Exa Z h m1 own_PMb) (S1 : Fld Z h m1 own_PMb "size" "I" (.int w1)) (B1 : Fld Z h m1 own_PMb "base" own_LP v1) (E2 : Exa Z h m2 own_PMb) (S2 : Fld Z h m2 own_PMb "size" "I" (.int w2)) (B2 : Fld Z h m2 own_PMb "base" own_LP v2) (E3 : Exa Z h m3 own_PMb) (S3 : Fld Z h m3 own_PMb "size" "I" (.int w3)) (B3 : Fld Z h m3 own_PMb "base" own_LP v3) (E4 : Exa Z h m4 own_PMb) (S4 : Fld Z h m4 own_PMb "size" "I" (.int w4)) (B4 : Fld Z h m4 own_PMb "base" own_LP v4) (E5 : Exa Z h m5 own_PMb) (S5 : Fld Z h m5 own_PMb "size" "I" (.int w5)) (B5 : Fld Z h m5 own_PMb "base" own_LP v5) (E6 : Exa Z h m6 own_PMb) (S6 : Fld Z h m6 own_PMb "size" "I" (.int w6)) (B6 : Fld Z h m6 own_PMb "base" own_LP v6) (z0 : w0 = 0) (z1 : w1 = Int32.ofNat 1) (z2 : w2 = Int32.ofNat (1 + c2.toNat)) (z3 : w3 = Int32.ofNat (1 + c2.toNat + c3.toNat)) (z4 : w4 = Int32.ofNat (1 + c2.toNat + c3.toNat + c4.toNat)) (z5 : w5 = 0) (z6 : w6 = Int32.ofNat 1) (y0 : v0 = .null) (y1 : v1 = .ref m0) (y2 : v2 = if c2 then .ref m1 else .null) (y3 : v3 = if c3 then .ref m2 else .null) (y4 : v4 = if c4 then .ref m3 else .null) (y5 : v5 = .null) (y6 : v6 = .ref m5) : Maps Z h (adr7 m0 m1 m2 m3 m4 m5 m6) c2 c3 c4 := by
  subst z0 z1 z2 z3 z4 z5 z6 y0 y1 y2 y3 y4 y5 y6
  intro i hi
  match i, hi with
  | 0, _ => exact ⟨E0, S0, B0⟩
  | 1, _ => exact ⟨E1, S1, B1⟩
  | 5, _ => exact ⟨E5, S5, B5⟩
  | 6, _ => exact ⟨E6, S6, B6⟩
  | 2, _ => exact ⟨E2, S2, by cases c2 <;> exact B2⟩
  | 3, _ => exact ⟨E3, S3, by cases c3 <;> exact B3⟩
  | 4, _ => exact ⟨E4, S4, by cases c4 <;> exact B4⟩
theorem own_inj {m0 m1 m2 m3 m4 m5 m6 : Addr} (n01 : m0 ≠ m1) (n02 : m0 ≠ m2) (n03 : m0 ≠ m3) (n04 : m0 ≠ m4) (n05 : m0 ≠ m5) (n06 : m0 ≠ m6) (n12 : m1 ≠ m2) (n13 : m1 ≠ m3) (n14 : m1 ≠ m4) (n15 : m1 ≠ m5) (n16 : m1 ≠ m6) (n23 : m2 ≠ m3) (n24 : m2 ≠ m4) (n25 : m2 ≠ m5) (n26 : m2 ≠ m6) (n34 : m3 ≠ m4) (n35 : m3 ≠ m5) (n36 : m3 ≠ m6) (n45 : m4 ≠ m5) (n46 : m4 ≠ m6) (n56 : m5 ≠ m6) : ∀ i j, i < 7 → j < 7 → adr7 m0 m1 m2 m3 m4 m5 m6 i = adr7 m0 m1 m2 m3 m4 m5 m6 j → i = j := by
  intro i j hi hj h
  match i, hi, j, hj with
  | 0, _, 0, _ => exact rfl
  | 0, _, 1, _ => exact absurd h n01
  | 0, _, 2, _ => exact absurd h n02
  | 0, _, 3, _ => exact absurd h n03
  | 0, _, 4, _ => exact absurd h n04
  | 0, _, 5, _ => exact absurd h n05
  | 0, _, 6, _ => exact absurd h n06
  | 1, _, 0, _ => exact absurd h.symm n01
  | 1, _, 1, _ => exact rfl
  | 1, _, 2, _ => exact absurd h n12
  | 1, _, 3, _ => exact absurd h n13
  | 1, _, 4, _ => exact absurd h n14
  | 1, _, 5, _ => exact absurd h n15
  | 1, _, 6, _ => exact absurd h n16
  | 2, _, 0, _ => exact absurd h.symm n02
  | 2, _, 1, _ => exact absurd h.symm n12
  | 2, _, 2, _ => exact rfl
  | 2, _, 3, _ => exact absurd h n23
  | 2, _, 4, _ => exact absurd h n24
  | 2, _, 5, _ => exact absurd h n25
  | 2, _, 6, _ => exact absurd h n26
  | 3, _, 0, _ => exact absurd h.symm n03
  | 3, _, 1, _ => exact absurd h.symm n13
  | 3, _, 2, _ => exact absurd h.symm n23
  | 3, _, 3, _ => exact rfl
  | 3, _, 4, _ => exact absurd h n34
  | 3, _, 5, _ => exact absurd h n35
  | 3, _, 6, _ => exact absurd h n36
  | 4, _, 0, _ => exact absurd h.symm n04
  | 4, _, 1, _ => exact absurd h.symm n14
  | 4, _, 2, _ => exact absurd h.symm n24
  | 4, _, 3, _ => exact absurd h.symm n34
  | 4, _, 4, _ => exact rfl
  | 4, _, 5, _ => exact absurd h n45
  | 4, _, 6, _ => exact absurd h n46
  | 5, _, 0, _ => exact absurd h.symm n05
  | 5, _, 1, _ => exact absurd h.symm n15
  | 5, _, 2, _ => exact absurd h.symm n25
  | 5, _, 3, _ => exact absurd h.symm n35
  | 5, _, 4, _ => exact absurd h.symm n45
  | 5, _, 5, _ => exact rfl
  | 5, _, 6, _ => exact absurd h n56
  | 6, _, 0, _ => exact absurd h.symm n06
  | 6, _, 1, _ => exact absurd h.symm n16
  | 6, _, 2, _ => exact absurd h.symm n26
  | 6, _, 3, _ => exact absurd h.symm n36
  | 6, _, 4, _ => exact absurd h.symm n46
  | 6, _, 5, _ => exact absurd h.symm n56
  | 6, _, 6, _ => exact rfl
theorem own_pick {m0 m1 m2 m3 m4 m5 m6 : Addr} {i : Nat} (hi : i < 7) {r : Addr} (hr : r = adr7 m0 m1 m2 m3 m4 m5 m6 i) : (Int32.ofNat i = 0 ∧ r = m0) ∨ (Int32.ofNat i = 1 ∧ r = m1) ∨ (Int32.ofNat i = 2 ∧ r = m2) ∨ (Int32.ofNat i = 3 ∧ r = m3) ∨ (Int32.ofNat i = 4 ∧ r = m4) ∨ (Int32.ofNat i = 5 ∧ r = m5) ∨ (Int32.ofNat i = 6 ∧ r = m6) := by
  subst hr
  match i, hi with
  | 0, _ => exact Or.inl ⟨rfl, rfl⟩
  | 1, _ => exact Or.inr (Or.inl ⟨rfl, rfl⟩)
  | 2, _ => exact Or.inr (Or.inr (Or.inl ⟨rfl, rfl⟩))
  | 3, _ => exact Or.inr (Or.inr (Or.inr (Or.inl ⟨rfl, rfl⟩)))
  | 4, _ => exact Or.inr (Or.inr (Or.inr (Or.inr (Or.inl ⟨rfl, rfl⟩))))
  | 5, _ => exact Or.inr (Or.inr (Or.inr (Or.inr (Or.inr (Or.inl ⟨rfl, rfl⟩)))))
  | 6, _ => exact Or.inr (Or.inr (Or.inr (Or.inr (Or.inr (Or.inr (⟨rfl, rfl⟩))))))
def md (c2 c3 c4 : Bool) (i j : Nat) : Int32 :=
  if siz c2 c3 c4 i < siz c2 c3 c4 j then 0 else if siz c2 c3 c4 j < siz c2 c3 c4 i - siz c2 c3 c4 j then 0 else
    match siz c2 c3 c4 i - siz c2 c3 c4 j with
    | 0 => if i = j then 1 else 0
    | 1 => if bas c2 c3 c4 i = some j then 1 else 0
    | _ => if (bas c2 c3 c4 i).bind (bas c2 c3 c4) = some j then 1 else 0
def b32 (c : Bool) : Int32 := if c then 1 else 0
def sp27 (c2 c3 c4 : Bool) : Nat → Int32
  | 0 => 0
  | 1 => 1
  | 2 => 1 + b32 c2
  | 3 => 1 + b32 c2 + b32 c3
  | _ => 1 + b32 c2 + b32 c3 + b32 c4
def ok (k i j : Nat) (c : Bool) : Bool := decide (k ≤ j) || decide (i < k) || c
def sp28 (c2 c3 c4 : Bool) (i j : Nat) : Int32 := if (ok 2 i j c2 && ok 3 i j c3 && ok 4 i j c4) = true then 1 else 0
def sp29 (c2 c3 c4 : Bool) (i j : Nat) : Int32 := if i = j then 1 else if 5 ≤ i then 0 else if 5 ≤ j then 0 else if i ≤ j then 0 else if sp28 c2 c3 c4 i j = 0 then 0 else if sp27 c2 c3 c4 j < Int32.ofNat i - Int32.ofNat j then 0 else 1
set_option maxRecDepth 65536 in
theorem own_law : ∀ i, i < 7 → ∀ j, j < 7 → ∀ c2 c3 c4, md c2 c3 c4 i j = sp29 c2 c3 c4 i j := by decide +kernel
set_option maxRecDepth 65536 in
theorem own_siz : ∀ i, i < 7 → ∀ c2 c3 c4, siz c2 c3 c4 i ≤ 4 := by decide +kernel
set_option maxRecDepth 65536 in
theorem own_bas : ∀ i, i < 7 → ∀ c2 c3 c4 j, bas c2 c3 c4 i = some j → j < 7 := by
  intro i hi c2 c3 c4 j
  match i, hi with
  | 0, _ => simp [bas]
  | 1, _ => simp [bas]; omega
  | 2, _ => cases c2 <;> simp [bas] <;> omega
  | 3, _ => cases c3 <;> simp [bas] <;> omega
  | 4, _ => cases c4 <;> simp [bas] <;> omega
  | 5, _ => simp [bas]
  | 6, _ => simp [bas]; omega
theorem own_sub : ∀ a, a < 5 → ∀ b, b < 5 → (a < b → Int32.ofNat a - Int32.ofNat b < 0) ∧ (¬ a < b → Int32.ofNat a - Int32.ofNat b = Int32.ofNat (a - b)) := by decide
theorem own_x {a b : Int32} : (97 : Int32) + a = (97 : Int32) + b ↔ a = b := by
  constructor
  · intro h
    have q := congrArg (fun z => z - 97) h
    simp only [Int32.add_comm 97, Int32.add_sub_cancel] at q
    exact q
  · intro h; rw [h]
theorem own_stp {P : Prop} {c : Bool} {w w' : Int32} {s : Nat} {v : Value} {m : Addr} (hc : c = true ↔ ¬ P) (hw : w = Int32.ofNat s) (h : (P ∧ w' = w ∧ v = .null) ∨ (¬ P ∧ w' = w + 1 ∧ v = .ref m)) : w' = Int32.ofNat (s + c.toNat) ∧ v = if c then .ref m else .null := by
  rcases h with ⟨p, h1, h2⟩ | ⟨p, h1, h2⟩
  · have e : c = false := by
      cases c with
      | false => rfl
      | true => exact absurd p (hc.mp rfl)
    subst e; exact ⟨h1.trans hw, h2⟩
  · have e : c = true := hc.mpr p
    subst e; exact ⟨by rw [h1, hw]; exact own_pre s, h2⟩
theorem own_and3 (x : Int32) : x &&& (3 : Int32) = 0 ∨ x &&& (3 : Int32) = 1 ∨ x &&& (3 : Int32) = 2 ∨ x &&& (3 : Int32) = 3 := by
  have e : (x &&& 3).toInt = x.toInt % 2 ^ 2 := Jvm.Kit.i32_mask x 3 (k := 2) (by decide) (by decide)
  have d0 : (0 : Int32).toInt = 0 := by decide
  have d1 : (1 : Int32).toInt = 1 := by decide
  have d2 : (2 : Int32).toInt = 2 := by decide
  have d3 : (3 : Int32).toInt = 3 := by decide
  simp only [← Int32.toInt_inj, d0, d1, d2, d3]
  omega
theorem own_rem7 (x : Int32) : ∃ i, i < 7 ∧ (x &&& (2147483647 : Int32)) % (7 : Int32) = Int32.ofNat i := by
  have e : (x &&& 2147483647).toInt = x.toInt % 2 ^ 31 := Jvm.Kit.i32_mask x 2147483647 (k := 31) (by decide) (by decide)
  have q : (7 : Int32).toInt = 7 := by decide
  have e2 : ((x &&& 2147483647) % 7).toInt = (x &&& 2147483647).toInt % (7 : Int32).toInt := Jvm.Kit.i32_rem_nonneg (by omega)
  rw [q] at e2
  refine ⟨((x &&& 2147483647) % 7).toInt.toNat, by omega, ?_⟩
  apply Int32.toInt_inj.mp
  rw [Int32.toInt_ofNat_small (by omega)]
  omega
theorem own_27 {c2 c3 c4 : Bool} {j : Nat} (g0 : ¬ j = 0) (g1 : ¬ j = 1) (g2 : ¬ j = 2) (g3 : ¬ j = 3) : sp27 c2 c3 c4 j = 1 + b32 c2 + b32 c3 + b32 c4 := by
  match j, g0, g1, g2, g3 with
  | 0, g, _, _, _ => exact absurd rfl g
  | 1, _, g, _, _ => exact absurd rfl g
  | 2, _, _, g, _ => exact absurd rfl g
  | 3, _, _, _, g => exact absurd rfl g
  | n + 4, _, _, _, _ => rfl
theorem own_oeq {n m : Nat} (hn : n ≤ 9) (hm : m ≤ 9) : Int32.ofNat n = Int32.ofNat m ↔ n = m := by
  rw [← Int32.toInt_inj, own_oi hn, own_oi hm]; omega
theorem own_b0 {c : Bool} {p : Prop} (h : c = true ↔ ¬ p) (q : p) : (0 : Int32) = b32 c := by
  cases c with
  | false => rfl
  | true => exact absurd q (h.mp rfl)
theorem own_b1 {c : Bool} {p : Prop} (h : c = true ↔ ¬ p) (q : ¬ p) : (1 : Int32) = b32 c := by rw [h.mpr q]; rfl
theorem own_bt {c : Bool} (g : c = true) : b32 c = 1 := by rw [g]; rfl
theorem own_bf {c : Bool} (g : ¬ c = true) : b32 c = 0 := by
  cases c with
  | false => rfl
  | true => exact absurd rfl g
theorem own_bool (p : Prop) : ∃ c : Bool, c = true ↔ ¬ p := by
  by_cases h : p
  · exact ⟨false, by simp [h]⟩
  · exact ⟨true, by simp [h]⟩
end Own3
theorem t0 {Z : State} {a0 : Array Value} (hw : ∀ d ∈ tables_1, d.before a0 Z = true) : (Jvm.Cond.methodLink "com/example/isogloss/isogloss/util/PersistentMapIsMadeFromPinLaw" (7 : Nat) ({ cls := "com/example/isogloss/isogloss/util/PersistentMapIsMadeFromPinLaw", name := "key", desc := "(I)Ljava/lang/String;" } : Jvm.MethodName)).before a0 Z = true := hw _ (List.mem_of_getElem? (i := 0) rfl)
theorem t1 {Z : State} {a0 : Array Value} (hw : ∀ d ∈ tables_1, d.before a0 Z = true) : (Jvm.Cond.static ({ cls := "com/example/isogloss/isogloss/util/PersistentMapIsMadeFromPinLaw", name := "key", desc := "(I)Ljava/lang/String;" } : Jvm.MethodName)).before a0 Z = true := hw _ (List.mem_of_getElem? (i := 1) rfl)
theorem t2 {Z : State} {a0 : Array Value} (hw : ∀ d ∈ tables_1, d.before a0 Z = true) : (Jvm.Cond.initialized "com/example/isogloss/isogloss/util/PersistentMapIsMadeFromPinLaw").before a0 Z = true := hw _ (List.mem_of_getElem? (i := 2) rfl)
theorem t3 {Z : State} {a0 : Array Value} (hw : ∀ d ∈ tables_1, d.before a0 Z = true) : (Jvm.Cond.code ({ cls := "com/example/isogloss/isogloss/util/PersistentMapIsMadeFromPinLaw", name := "key", desc := "(I)Ljava/lang/String;" } : Jvm.MethodName) method_3_code (2 : Nat) (Option.some (Jvm.ClassFile.FieldType.object "java/lang/String"))).before a0 Z = true := hw _ (List.mem_of_getElem? (i := 3) rfl)
theorem t4 {Z : State} {a0 : Array Value} (hw : ∀ d ∈ tables_1, d.before a0 Z = true) : (Jvm.Cond.arrayClass Jvm.ClassFile.FieldType.char).before a0 Z = true := hw _ (List.mem_of_getElem? (i := 4) rfl)
theorem t5 {Z : State} {a0 : Array Value} (hw : ∀ d ∈ tables_1, d.before a0 Z = true) : (Jvm.Cond.classLink "com/example/isogloss/isogloss/util/PersistentMapIsMadeFromPinLaw" (35 : Nat) "java/lang/String").before a0 Z = true := hw _ (List.mem_of_getElem? (i := 5) rfl)
theorem t6 {Z : State} {a0 : Array Value} (hw : ∀ d ∈ tables_1, d.before a0 Z = true) : (Jvm.Cond.instantiable "java/lang/String" (4 : Nat)).before a0 Z = true := hw _ (List.mem_of_getElem? (i := 6) rfl)
theorem t7 {Z : State} {a0 : Array Value} (hw : ∀ d ∈ tables_1, d.before a0 Z = true) : (Jvm.Cond.initialized "java/lang/String").before a0 Z = true := hw _ (List.mem_of_getElem? (i := 7) rfl)
theorem t8 {Z : State} {a0 : Array Value} (hw : ∀ d ∈ tables_1, d.before a0 Z = true) : (Jvm.Cond.methodLink "com/example/isogloss/isogloss/util/PersistentMapIsMadeFromPinLaw" (37 : Nat) ({ cls := "java/lang/String", name := "<init>", desc := "([C)V" } : Jvm.MethodName)).before a0 Z = true := hw _ (List.mem_of_getElem? (i := 8) rfl)
theorem t9 {Z : State} {a0 : Array Value} (hw : ∀ d ∈ tables_1, d.before a0 Z = true) : (Jvm.Cond.instanceMethod ({ cls := "java/lang/String", name := "<init>", desc := "([C)V" } : Jvm.MethodName)).before a0 Z = true := hw _ (List.mem_of_getElem? (i := 9) rfl)
theorem t10 {Z : State} {a0 : Array Value} (hw : ∀ d ∈ tables_1, d.before a0 Z = true) : (Jvm.Cond.code ({ cls := "java/lang/String", name := "<init>", desc := "([C)V" } : Jvm.MethodName) jdk_42_method_3_code (2 : Nat) (Option.none : Option Jvm.ClassFile.FieldType)).before a0 Z = true := hw _ (List.mem_of_getElem? (i := 10) rfl)
theorem t16 {Z : State} {a0 : Array Value} (hw : ∀ d ∈ tables_1, d.before a0 Z = true) : (Jvm.Cond.instanceMethod ({ cls := "java/lang/Object", name := "<init>", desc := "()V" } : Jvm.MethodName)).before a0 Z = true := hw _ (List.mem_of_getElem? (i := 16) rfl)
theorem t17 {Z : State} {a0 : Array Value} (hw : ∀ d ∈ tables_1, d.before a0 Z = true) : (Jvm.Cond.code ({ cls := "java/lang/Object", name := "<init>", desc := "()V" } : Jvm.MethodName) object_method_1_code (1 : Nat) (Option.none : Option Jvm.ClassFile.FieldType)).before a0 Z = true := hw _ (List.mem_of_getElem? (i := 17) rfl)
theorem t18 {Z : State} {a0 : Array Value} (hw : ∀ d ∈ tables_1, d.before a0 Z = true) : (Jvm.Cond.fieldLink "java/lang/String" (38 : Nat) "java/lang/String" "COMPACT_STRINGS" "Z").before a0 Z = true := hw _ (List.mem_of_getElem? (i := 18) rfl)
theorem t30 {Z : State} {a0 : Array Value} (hw : ∀ d ∈ tables_1, d.before a0 Z = true) : (Jvm.Cond.fieldLink "java/lang/String" (15 : Nat) "java/lang/String" "coder" "B").before a0 Z = true := hw _ (List.mem_of_getElem? (i := 30) rfl)
theorem t31 {Z : State} {a0 : Array Value} (hw : ∀ d ∈ tables_1, d.before a0 Z = true) : (Jvm.Cond.laysFinal "java/lang/String" "java/lang/String" "coder" "B").before a0 Z = true := hw _ (List.mem_of_getElem? (i := 31) rfl)
theorem t32 {Z : State} {a0 : Array Value} (hw : ∀ d ∈ tables_1, d.before a0 Z = true) : (Jvm.Cond.fieldLink "java/lang/String" (9 : Nat) "java/lang/String" "value" "[B").before a0 Z = true := hw _ (List.mem_of_getElem? (i := 32) rfl)
theorem t33 {Z : State} {a0 : Array Value} (hw : ∀ d ∈ tables_1, d.before a0 Z = true) : (Jvm.Cond.laysFinal "java/lang/String" "java/lang/String" "value" "[B").before a0 Z = true := hw _ (List.mem_of_getElem? (i := 33) rfl)
theorem t34 {Z : State} {a0 : Array Value} (hw : ∀ d ∈ tables_1, d.before a0 Z = true) : (Jvm.Cond.classLink "com/example/isogloss/isogloss/util/PersistentMapIsMadeFromPinLaw" (13 : Nat) "com/example/isogloss/isogloss/util/PersistentMap").before a0 Z = true := hw _ (List.mem_of_getElem? (i := 34) rfl)
theorem t35 {Z : State} {a0 : Array Value} (hw : ∀ d ∈ tables_1, d.before a0 Z = true) : (Jvm.Cond.instantiable "com/example/isogloss/isogloss/util/PersistentMap" (3 : Nat)).before a0 Z = true := hw _ (List.mem_of_getElem? (i := 35) rfl)
theorem t36 {Z : State} {a0 : Array Value} (hw : ∀ d ∈ tables_1, d.before a0 Z = true) : (Jvm.Cond.initialized "com/example/isogloss/isogloss/util/PersistentMap").before a0 Z = true := hw _ (List.mem_of_getElem? (i := 36) rfl)
theorem t37 {Z : State} {a0 : Array Value} (hw : ∀ d ∈ tables_1, d.before a0 Z = true) : (Jvm.Cond.methodLink "com/example/isogloss/isogloss/util/PersistentMapIsMadeFromPinLaw" (15 : Nat) ({ cls := "com/example/isogloss/isogloss/util/PersistentMap", name := "<init>", desc := "()V" } : Jvm.MethodName)).before a0 Z = true := hw _ (List.mem_of_getElem? (i := 37) rfl)
theorem t38 {Z : State} {a0 : Array Value} (hw : ∀ d ∈ tables_1, d.before a0 Z = true) : (Jvm.Cond.instanceMethod ({ cls := "com/example/isogloss/isogloss/util/PersistentMap", name := "<init>", desc := "()V" } : Jvm.MethodName)).before a0 Z = true := hw _ (List.mem_of_getElem? (i := 38) rfl)
theorem t39 {Z : State} {a0 : Array Value} (hw : ∀ d ∈ tables_1, d.before a0 Z = true) : (Jvm.Cond.code ({ cls := "com/example/isogloss/isogloss/util/PersistentMap", name := "<init>", desc := "()V" } : Jvm.MethodName) prog_164_method_1_code (1 : Nat) (Option.none : Option Jvm.ClassFile.FieldType)).before a0 Z = true := hw _ (List.mem_of_getElem? (i := 39) rfl)
theorem t40 {Z : State} {a0 : Array Value} (hw : ∀ d ∈ tables_1, d.before a0 Z = true) : (Jvm.Cond.methodLink "com/example/isogloss/isogloss/util/PersistentMap" (1 : Nat) ({ cls := "com/example/isogloss/isogloss/util/PersistentMap", name := "<init>", desc := "(Lcom/example/isogloss/isogloss/util/PersistentMap$Node;ILcom/example/isogloss/isogloss/util/PersistentMap;)V" } : Jvm.MethodName)).before a0 Z = true := hw _ (List.mem_of_getElem? (i := 40) rfl)
theorem t41 {Z : State} {a0 : Array Value} (hw : ∀ d ∈ tables_1, d.before a0 Z = true) : (Jvm.Cond.instanceMethod ({ cls := "com/example/isogloss/isogloss/util/PersistentMap", name := "<init>", desc := "(Lcom/example/isogloss/isogloss/util/PersistentMap$Node;ILcom/example/isogloss/isogloss/util/PersistentMap;)V" } : Jvm.MethodName)).before a0 Z = true := hw _ (List.mem_of_getElem? (i := 41) rfl)
theorem t42 {Z : State} {a0 : Array Value} (hw : ∀ d ∈ tables_1, d.before a0 Z = true) : (Jvm.Cond.code ({ cls := "com/example/isogloss/isogloss/util/PersistentMap", name := "<init>", desc := "(Lcom/example/isogloss/isogloss/util/PersistentMap$Node;ILcom/example/isogloss/isogloss/util/PersistentMap;)V" } : Jvm.MethodName) prog_164_method_2_code (4 : Nat) (Option.none : Option Jvm.ClassFile.FieldType)).before a0 Z = true := hw _ (List.mem_of_getElem? (i := 42) rfl)
theorem t43 {Z : State} {a0 : Array Value} (hw : ∀ d ∈ tables_1, d.before a0 Z = true) : (Jvm.Cond.methodLink "com/example/isogloss/isogloss/util/PersistentMap" (7 : Nat) ({ cls := "java/lang/Object", name := "<init>", desc := "()V" } : Jvm.MethodName)).before a0 Z = true := hw _ (List.mem_of_getElem? (i := 43) rfl)
theorem t44 {Z : State} {a0 : Array Value} (hw : ∀ d ∈ tables_1, d.before a0 Z = true) : (Jvm.Cond.fieldLink "com/example/isogloss/isogloss/util/PersistentMap" (12 : Nat) "com/example/isogloss/isogloss/util/PersistentMap" "root" "Lcom/example/isogloss/isogloss/util/PersistentMap$Node;").before a0 Z = true := hw _ (List.mem_of_getElem? (i := 44) rfl)
theorem t45 {Z : State} {a0 : Array Value} (hw : ∀ d ∈ tables_1, d.before a0 Z = true) : (Jvm.Cond.laysFinal "com/example/isogloss/isogloss/util/PersistentMap" "com/example/isogloss/isogloss/util/PersistentMap" "root" "Lcom/example/isogloss/isogloss/util/PersistentMap$Node;").before a0 Z = true := hw _ (List.mem_of_getElem? (i := 45) rfl)
theorem t46 {Z : State} {a0 : Array Value} (hw : ∀ d ∈ tables_1, d.before a0 Z = true) : (Jvm.Cond.fieldLink "com/example/isogloss/isogloss/util/PersistentMap" (16 : Nat) "com/example/isogloss/isogloss/util/PersistentMap" "size" "I").before a0 Z = true := hw _ (List.mem_of_getElem? (i := 46) rfl)
theorem t47 {Z : State} {a0 : Array Value} (hw : ∀ d ∈ tables_1, d.before a0 Z = true) : (Jvm.Cond.laysFinal "com/example/isogloss/isogloss/util/PersistentMap" "com/example/isogloss/isogloss/util/PersistentMap" "size" "I").before a0 Z = true := hw _ (List.mem_of_getElem? (i := 47) rfl)
theorem t48 {Z : State} {a0 : Array Value} (hw : ∀ d ∈ tables_1, d.before a0 Z = true) : (Jvm.Cond.fieldLink "com/example/isogloss/isogloss/util/PersistentMap" (20 : Nat) "com/example/isogloss/isogloss/util/PersistentMap" "base" "Lcom/example/isogloss/isogloss/util/PersistentMap;").before a0 Z = true := hw _ (List.mem_of_getElem? (i := 48) rfl)
theorem t49 {Z : State} {a0 : Array Value} (hw : ∀ d ∈ tables_1, d.before a0 Z = true) : (Jvm.Cond.laysFinal "com/example/isogloss/isogloss/util/PersistentMap" "com/example/isogloss/isogloss/util/PersistentMap" "base" "Lcom/example/isogloss/isogloss/util/PersistentMap;").before a0 Z = true := hw _ (List.mem_of_getElem? (i := 49) rfl)
theorem t50 {Z : State} {a0 : Array Value} (hw : ∀ d ∈ tables_1, d.before a0 Z = true) : (Jvm.Cond.methodLink "com/example/isogloss/isogloss/util/PersistentMapIsMadeFromPinLaw" (16 : Nat) ({ cls := "java/lang/Integer", name := "valueOf", desc := "(I)Ljava/lang/Integer;" } : Jvm.MethodName)).before a0 Z = true := hw _ (List.mem_of_getElem? (i := 50) rfl)
theorem t51 {Z : State} {a0 : Array Value} (hw : ∀ d ∈ tables_1, d.before a0 Z = true) : (Jvm.Cond.static ({ cls := "java/lang/Integer", name := "valueOf", desc := "(I)Ljava/lang/Integer;" } : Jvm.MethodName)).before a0 Z = true := hw _ (List.mem_of_getElem? (i := 51) rfl)
theorem t52 {Z : State} {a0 : Array Value} (hw : ∀ d ∈ tables_1, d.before a0 Z = true) : (Jvm.Cond.initialized "java/lang/Integer").before a0 Z = true := hw _ (List.mem_of_getElem? (i := 52) rfl)
theorem t53 {Z : State} {a0 : Array Value} (hw : ∀ d ∈ tables_1, d.before a0 Z = true) : (Jvm.Cond.code ({ cls := "java/lang/Integer", name := "valueOf", desc := "(I)Ljava/lang/Integer;" } : Jvm.MethodName) jdk_33_method_22_code (1 : Nat) (Option.some (Jvm.ClassFile.FieldType.object "java/lang/Integer"))).before a0 Z = true := hw _ (List.mem_of_getElem? (i := 53) rfl)
theorem t54 {Z : State} {a0 : Array Value} (hw : ∀ d ∈ tables_1, d.before a0 Z = true) : (Jvm.Cond.fieldLink "java/lang/Integer" (191 : Nat) "java/lang/Integer$IntegerCache" "high" "I").before a0 Z = true := hw _ (List.mem_of_getElem? (i := 54) rfl)
theorem t56 {Z : State} {a0 : Array Value} (hw : ∀ d ∈ tables_1, d.before a0 Z = true) : (Jvm.Cond.fieldLink "java/lang/Integer" (195 : Nat) "java/lang/Integer$IntegerCache" "cache" "[Ljava/lang/Integer;").before a0 Z = true := hw _ (List.mem_of_getElem? (i := 56) rfl)
theorem t57 {Z : State} {a0 : Array Value} (hw : ∀ d ∈ tables_1, d.before a0 Z = true) : (Jvm.Cond.methodLink "com/example/isogloss/isogloss/util/PersistentMapIsMadeFromPinLaw" (22 : Nat) ({ cls := "com/example/isogloss/isogloss/util/PersistentMap", name := "with", desc := "(Ljava/lang/String;Ljava/lang/Object;)Lcom/example/isogloss/isogloss/util/PersistentMap;" } : Jvm.MethodName)).before a0 Z = true := hw _ (List.mem_of_getElem? (i := 57) rfl)
theorem t58 {Z : State} {a0 : Array Value} (hw : ∀ d ∈ tables_1, d.before a0 Z = true) : (Jvm.Cond.declares ({ cls := "com/example/isogloss/isogloss/util/PersistentMap", name := "with", desc := "(Ljava/lang/String;Ljava/lang/Object;)Lcom/example/isogloss/isogloss/util/PersistentMap;" } : Jvm.MethodName)).before a0 Z = true := hw _ (List.mem_of_getElem? (i := 58) rfl)
theorem t59 {Z : State} {a0 : Array Value} (hw : ∀ d ∈ tables_1, d.before a0 Z = true) : (Jvm.Cond.instanceMethod ({ cls := "com/example/isogloss/isogloss/util/PersistentMap", name := "with", desc := "(Ljava/lang/String;Ljava/lang/Object;)Lcom/example/isogloss/isogloss/util/PersistentMap;" } : Jvm.MethodName)).before a0 Z = true := hw _ (List.mem_of_getElem? (i := 59) rfl)
theorem t60 {Z : State} {a0 : Array Value} (hw : ∀ d ∈ tables_1, d.before a0 Z = true) : (Jvm.Cond.selects "com/example/isogloss/isogloss/util/PersistentMap" ({ cls := "com/example/isogloss/isogloss/util/PersistentMap", name := "with", desc := "(Ljava/lang/String;Ljava/lang/Object;)Lcom/example/isogloss/isogloss/util/PersistentMap;" } : Jvm.MethodName) ({ cls := "com/example/isogloss/isogloss/util/PersistentMap", name := "with", desc := "(Ljava/lang/String;Ljava/lang/Object;)Lcom/example/isogloss/isogloss/util/PersistentMap;" } : Jvm.MethodName)).before a0 Z = true := hw _ (List.mem_of_getElem? (i := 60) rfl)
theorem t61 {Z : State} {a0 : Array Value} (hw : ∀ d ∈ tables_1, d.before a0 Z = true) : (Jvm.Cond.code ({ cls := "com/example/isogloss/isogloss/util/PersistentMap", name := "with", desc := "(Ljava/lang/String;Ljava/lang/Object;)Lcom/example/isogloss/isogloss/util/PersistentMap;" } : Jvm.MethodName) prog_164_method_5_code (3 : Nat) (Option.some (Jvm.ClassFile.FieldType.object "com/example/isogloss/isogloss/util/PersistentMap"))).before a0 Z = true := hw _ (List.mem_of_getElem? (i := 61) rfl)
theorem t62 {Z : State} {a0 : Array Value} (hw : ∀ d ∈ tables_1, d.before a0 Z = true) : (Jvm.Cond.methodLink "com/example/isogloss/isogloss/util/PersistentMap" (46 : Nat) ({ cls := "com/example/isogloss/isogloss/util/PersistentMap", name := "get", desc := "(Ljava/lang/String;)Ljava/lang/Object;" } : Jvm.MethodName)).before a0 Z = true := hw _ (List.mem_of_getElem? (i := 62) rfl)
theorem t63 {Z : State} {a0 : Array Value} (hw : ∀ d ∈ tables_1, d.before a0 Z = true) : (Jvm.Cond.declares ({ cls := "com/example/isogloss/isogloss/util/PersistentMap", name := "get", desc := "(Ljava/lang/String;)Ljava/lang/Object;" } : Jvm.MethodName)).before a0 Z = true := hw _ (List.mem_of_getElem? (i := 63) rfl)
theorem t64 {Z : State} {a0 : Array Value} (hw : ∀ d ∈ tables_1, d.before a0 Z = true) : (Jvm.Cond.instanceMethod ({ cls := "com/example/isogloss/isogloss/util/PersistentMap", name := "get", desc := "(Ljava/lang/String;)Ljava/lang/Object;" } : Jvm.MethodName)).before a0 Z = true := hw _ (List.mem_of_getElem? (i := 64) rfl)
theorem t65 {Z : State} {a0 : Array Value} (hw : ∀ d ∈ tables_1, d.before a0 Z = true) : (Jvm.Cond.selects "com/example/isogloss/isogloss/util/PersistentMap" ({ cls := "com/example/isogloss/isogloss/util/PersistentMap", name := "get", desc := "(Ljava/lang/String;)Ljava/lang/Object;" } : Jvm.MethodName) ({ cls := "com/example/isogloss/isogloss/util/PersistentMap", name := "get", desc := "(Ljava/lang/String;)Ljava/lang/Object;" } : Jvm.MethodName)).before a0 Z = true := hw _ (List.mem_of_getElem? (i := 65) rfl)
theorem t66 {Z : State} {a0 : Array Value} (hw : ∀ d ∈ tables_1, d.before a0 Z = true) : (Jvm.Cond.code ({ cls := "com/example/isogloss/isogloss/util/PersistentMap", name := "get", desc := "(Ljava/lang/String;)Ljava/lang/Object;" } : Jvm.MethodName) prog_164_method_4_code (4 : Nat) (Option.some (Jvm.ClassFile.FieldType.object "java/lang/Object"))).before a0 Z = true := hw _ (List.mem_of_getElem? (i := 66) rfl)
theorem t67 {Z : State} {a0 : Array Value} (hw : ∀ d ∈ tables_1, d.before a0 Z = true) : (Jvm.Cond.classLink "com/example/isogloss/isogloss/util/PersistentMap" (2 : Nat) "com/example/isogloss/isogloss/util/PersistentMap").before a0 Z = true := hw _ (List.mem_of_getElem? (i := 67) rfl)
theorem t68 {Z : State} {a0 : Array Value} (hw : ∀ d ∈ tables_1, d.before a0 Z = true) : (Jvm.Cond.methodLink "com/example/isogloss/isogloss/util/PersistentMap" (50 : Nat) ({ cls := "com/example/isogloss/isogloss/util/PersistentMap", name := "put", desc := "(Lcom/example/isogloss/isogloss/util/PersistentMap$Node;Ljava/lang/String;Ljava/lang/Object;)Lcom/example/isogloss/isogloss/util/PersistentMap$Node;" } : Jvm.MethodName)).before a0 Z = true := hw _ (List.mem_of_getElem? (i := 68) rfl)
theorem t69 {Z : State} {a0 : Array Value} (hw : ∀ d ∈ tables_1, d.before a0 Z = true) : (Jvm.Cond.static ({ cls := "com/example/isogloss/isogloss/util/PersistentMap", name := "put", desc := "(Lcom/example/isogloss/isogloss/util/PersistentMap$Node;Ljava/lang/String;Ljava/lang/Object;)Lcom/example/isogloss/isogloss/util/PersistentMap$Node;" } : Jvm.MethodName)).before a0 Z = true := hw _ (List.mem_of_getElem? (i := 69) rfl)
theorem t70 {Z : State} {a0 : Array Value} (hw : ∀ d ∈ tables_1, d.before a0 Z = true) : (Jvm.Cond.code ({ cls := "com/example/isogloss/isogloss/util/PersistentMap", name := "put", desc := "(Lcom/example/isogloss/isogloss/util/PersistentMap$Node;Ljava/lang/String;Ljava/lang/Object;)Lcom/example/isogloss/isogloss/util/PersistentMap$Node;" } : Jvm.MethodName) prog_164_method_11_code (4 : Nat) (Option.some (Jvm.ClassFile.FieldType.object "com/example/isogloss/isogloss/util/PersistentMap$Node"))).before a0 Z = true := hw _ (List.mem_of_getElem? (i := 70) rfl)
theorem t71 {Z : State} {a0 : Array Value} (hw : ∀ d ∈ tables_1, d.before a0 Z = true) : (Jvm.Cond.classLink "com/example/isogloss/isogloss/util/PersistentMap" (25 : Nat) "com/example/isogloss/isogloss/util/PersistentMap$Node").before a0 Z = true := hw _ (List.mem_of_getElem? (i := 71) rfl)
theorem t72 {Z : State} {a0 : Array Value} (hw : ∀ d ∈ tables_1, d.before a0 Z = true) : (Jvm.Cond.instantiable "com/example/isogloss/isogloss/util/PersistentMap$Node" (5 : Nat)).before a0 Z = true := hw _ (List.mem_of_getElem? (i := 72) rfl)
theorem t73 {Z : State} {a0 : Array Value} (hw : ∀ d ∈ tables_1, d.before a0 Z = true) : (Jvm.Cond.initialized "com/example/isogloss/isogloss/util/PersistentMap$Node").before a0 Z = true := hw _ (List.mem_of_getElem? (i := 73) rfl)
theorem t74 {Z : State} {a0 : Array Value} (hw : ∀ d ∈ tables_1, d.before a0 Z = true) : (Jvm.Cond.methodRef "com/example/isogloss/isogloss/util/PersistentMap" (119 : Nat) ({ cls := "com/example/isogloss/isogloss/util/PersistentMap$Node", name := "<init>", desc := "(Ljava/lang/String;Ljava/lang/Object;Lcom/example/isogloss/isogloss/util/PersistentMap$Node;Lcom/example/isogloss/isogloss/util/PersistentMap$Node;)V" } : Jvm.MethodName)).before a0 Z = true := hw _ (List.mem_of_getElem? (i := 74) rfl)
theorem t75 {Z : State} {a0 : Array Value} (hw : ∀ d ∈ tables_1, d.before a0 Z = true) : (Jvm.Cond.instanceMethod ({ cls := "com/example/isogloss/isogloss/util/PersistentMap$Node", name := "<init>", desc := "(Ljava/lang/String;Ljava/lang/Object;Lcom/example/isogloss/isogloss/util/PersistentMap$Node;Lcom/example/isogloss/isogloss/util/PersistentMap$Node;)V" } : Jvm.MethodName)).before a0 Z = true := hw _ (List.mem_of_getElem? (i := 75) rfl)
theorem t76 {Z : State} {a0 : Array Value} (hw : ∀ d ∈ tables_1, d.before a0 Z = true) : (Jvm.Cond.code ({ cls := "com/example/isogloss/isogloss/util/PersistentMap$Node", name := "<init>", desc := "(Ljava/lang/String;Ljava/lang/Object;Lcom/example/isogloss/isogloss/util/PersistentMap$Node;Lcom/example/isogloss/isogloss/util/PersistentMap$Node;)V" } : Jvm.MethodName) prog_165_method_1_code (5 : Nat) (Option.none : Option Jvm.ClassFile.FieldType)).before a0 Z = true := hw _ (List.mem_of_getElem? (i := 76) rfl)
theorem t77 {Z : State} {a0 : Array Value} (hw : ∀ d ∈ tables_1, d.before a0 Z = true) : (Jvm.Cond.methodLink "com/example/isogloss/isogloss/util/PersistentMap$Node" (1 : Nat) ({ cls := "java/lang/Object", name := "<init>", desc := "()V" } : Jvm.MethodName)).before a0 Z = true := hw _ (List.mem_of_getElem? (i := 77) rfl)
theorem t78 {Z : State} {a0 : Array Value} (hw : ∀ d ∈ tables_1, d.before a0 Z = true) : (Jvm.Cond.fieldLink "com/example/isogloss/isogloss/util/PersistentMap$Node" (7 : Nat) "com/example/isogloss/isogloss/util/PersistentMap$Node" "key" "Ljava/lang/String;").before a0 Z = true := hw _ (List.mem_of_getElem? (i := 78) rfl)
theorem t79 {Z : State} {a0 : Array Value} (hw : ∀ d ∈ tables_1, d.before a0 Z = true) : (Jvm.Cond.laysFinal "com/example/isogloss/isogloss/util/PersistentMap$Node" "com/example/isogloss/isogloss/util/PersistentMap$Node" "key" "Ljava/lang/String;").before a0 Z = true := hw _ (List.mem_of_getElem? (i := 79) rfl)
theorem t80 {Z : State} {a0 : Array Value} (hw : ∀ d ∈ tables_1, d.before a0 Z = true) : (Jvm.Cond.fieldLink "com/example/isogloss/isogloss/util/PersistentMap$Node" (13 : Nat) "com/example/isogloss/isogloss/util/PersistentMap$Node" "value" "Ljava/lang/Object;").before a0 Z = true := hw _ (List.mem_of_getElem? (i := 80) rfl)
theorem t81 {Z : State} {a0 : Array Value} (hw : ∀ d ∈ tables_1, d.before a0 Z = true) : (Jvm.Cond.laysFinal "com/example/isogloss/isogloss/util/PersistentMap$Node" "com/example/isogloss/isogloss/util/PersistentMap$Node" "value" "Ljava/lang/Object;").before a0 Z = true := hw _ (List.mem_of_getElem? (i := 81) rfl)
theorem t82 {Z : State} {a0 : Array Value} (hw : ∀ d ∈ tables_1, d.before a0 Z = true) : (Jvm.Cond.fieldLink "com/example/isogloss/isogloss/util/PersistentMap$Node" (17 : Nat) "com/example/isogloss/isogloss/util/PersistentMap$Node" "left" "Lcom/example/isogloss/isogloss/util/PersistentMap$Node;").before a0 Z = true := hw _ (List.mem_of_getElem? (i := 82) rfl)
theorem t83 {Z : State} {a0 : Array Value} (hw : ∀ d ∈ tables_1, d.before a0 Z = true) : (Jvm.Cond.laysFinal "com/example/isogloss/isogloss/util/PersistentMap$Node" "com/example/isogloss/isogloss/util/PersistentMap$Node" "left" "Lcom/example/isogloss/isogloss/util/PersistentMap$Node;").before a0 Z = true := hw _ (List.mem_of_getElem? (i := 83) rfl)
theorem t84 {Z : State} {a0 : Array Value} (hw : ∀ d ∈ tables_1, d.before a0 Z = true) : (Jvm.Cond.fieldLink "com/example/isogloss/isogloss/util/PersistentMap$Node" (21 : Nat) "com/example/isogloss/isogloss/util/PersistentMap$Node" "right" "Lcom/example/isogloss/isogloss/util/PersistentMap$Node;").before a0 Z = true := hw _ (List.mem_of_getElem? (i := 84) rfl)
theorem t85 {Z : State} {a0 : Array Value} (hw : ∀ d ∈ tables_1, d.before a0 Z = true) : (Jvm.Cond.laysFinal "com/example/isogloss/isogloss/util/PersistentMap$Node" "com/example/isogloss/isogloss/util/PersistentMap$Node" "right" "Lcom/example/isogloss/isogloss/util/PersistentMap$Node;").before a0 Z = true := hw _ (List.mem_of_getElem? (i := 85) rfl)
theorem t86 {Z : State} {a0 : Array Value} (hw : ∀ d ∈ tables_1, d.before a0 Z = true) : (Jvm.Cond.methodLinkNest "com/example/isogloss/isogloss/util/PersistentMap$Node" (24 : Nat) ({ cls := "com/example/isogloss/isogloss/util/PersistentMap", name := "height", desc := "(Lcom/example/isogloss/isogloss/util/PersistentMap$Node;)I" } : Jvm.MethodName) "com/example/isogloss/isogloss/util/PersistentMap").before a0 Z = true := hw _ (List.mem_of_getElem? (i := 86) rfl)
theorem t87 {Z : State} {a0 : Array Value} (hw : ∀ d ∈ tables_1, d.before a0 Z = true) : (Jvm.Cond.static ({ cls := "com/example/isogloss/isogloss/util/PersistentMap", name := "height", desc := "(Lcom/example/isogloss/isogloss/util/PersistentMap$Node;)I" } : Jvm.MethodName)).before a0 Z = true := hw _ (List.mem_of_getElem? (i := 87) rfl)
theorem t88 {Z : State} {a0 : Array Value} (hw : ∀ d ∈ tables_1, d.before a0 Z = true) : (Jvm.Cond.code ({ cls := "com/example/isogloss/isogloss/util/PersistentMap", name := "height", desc := "(Lcom/example/isogloss/isogloss/util/PersistentMap$Node;)I" } : Jvm.MethodName) prog_164_method_13_code (1 : Nat) (Option.some Jvm.ClassFile.FieldType.int)).before a0 Z = true := hw _ (List.mem_of_getElem? (i := 88) rfl)
theorem t89 {Z : State} {a0 : Array Value} (hw : ∀ d ∈ tables_1, d.before a0 Z = true) : (Jvm.Cond.methodLink "com/example/isogloss/isogloss/util/PersistentMap$Node" (30 : Nat) ({ cls := "java/lang/Math", name := "max", desc := "(II)I" } : Jvm.MethodName)).before a0 Z = true := hw _ (List.mem_of_getElem? (i := 89) rfl)
theorem t90 {Z : State} {a0 : Array Value} (hw : ∀ d ∈ tables_1, d.before a0 Z = true) : (Jvm.Cond.static ({ cls := "java/lang/Math", name := "max", desc := "(II)I" } : Jvm.MethodName)).before a0 Z = true := hw _ (List.mem_of_getElem? (i := 90) rfl)
theorem t91 {Z : State} {a0 : Array Value} (hw : ∀ d ∈ tables_1, d.before a0 Z = true) : (Jvm.Cond.initialized "java/lang/Math").before a0 Z = true := hw _ (List.mem_of_getElem? (i := 91) rfl)
theorem t92 {Z : State} {a0 : Array Value} (hw : ∀ d ∈ tables_1, d.before a0 Z = true) : (Jvm.Cond.code ({ cls := "java/lang/Math", name := "max", desc := "(II)I" } : Jvm.MethodName) jdk_29_method_65_code (2 : Nat) (Option.some Jvm.ClassFile.FieldType.int)).before a0 Z = true := hw _ (List.mem_of_getElem? (i := 92) rfl)
theorem t93 {Z : State} {a0 : Array Value} (hw : ∀ d ∈ tables_1, d.before a0 Z = true) : (Jvm.Cond.fieldLink "com/example/isogloss/isogloss/util/PersistentMap$Node" (36 : Nat) "com/example/isogloss/isogloss/util/PersistentMap$Node" "height" "I").before a0 Z = true := hw _ (List.mem_of_getElem? (i := 93) rfl)
theorem t94 {Z : State} {a0 : Array Value} (hw : ∀ d ∈ tables_1, d.before a0 Z = true) : (Jvm.Cond.laysFinal "com/example/isogloss/isogloss/util/PersistentMap$Node" "com/example/isogloss/isogloss/util/PersistentMap$Node" "height" "I").before a0 Z = true := hw _ (List.mem_of_getElem? (i := 94) rfl)
theorem t95 {Z : State} {a0 : Array Value} (hw : ∀ d ∈ tables_1, d.before a0 Z = true) : (Jvm.Cond.fieldRef "com/example/isogloss/isogloss/util/PersistentMap" (24 : Nat) "com/example/isogloss/isogloss/util/PersistentMap$Node" "key" "Ljava/lang/String;").before a0 Z = true := hw _ (List.mem_of_getElem? (i := 95) rfl)
theorem t96 {Z : State} {a0 : Array Value} (hw : ∀ d ∈ tables_1, d.before a0 Z = true) : (Jvm.Cond.methodLink "com/example/isogloss/isogloss/util/PersistentMap" (30 : Nat) ({ cls := "java/lang/String", name := "compareTo", desc := "(Ljava/lang/String;)I" } : Jvm.MethodName)).before a0 Z = true := hw _ (List.mem_of_getElem? (i := 96) rfl)
theorem t97 {Z : State} {a0 : Array Value} (hw : ∀ d ∈ tables_1, d.before a0 Z = true) : (Jvm.Cond.declares ({ cls := "java/lang/String", name := "compareTo", desc := "(Ljava/lang/String;)I" } : Jvm.MethodName)).before a0 Z = true := hw _ (List.mem_of_getElem? (i := 97) rfl)
theorem t98 {Z : State} {a0 : Array Value} (hw : ∀ d ∈ tables_1, d.before a0 Z = true) : (Jvm.Cond.instanceMethod ({ cls := "java/lang/String", name := "compareTo", desc := "(Ljava/lang/String;)I" } : Jvm.MethodName)).before a0 Z = true := hw _ (List.mem_of_getElem? (i := 98) rfl)
theorem t99 {Z : State} {a0 : Array Value} (hw : ∀ d ∈ tables_1, d.before a0 Z = true) : (Jvm.Cond.selects "java/lang/String" ({ cls := "java/lang/String", name := "compareTo", desc := "(Ljava/lang/String;)I" } : Jvm.MethodName) ({ cls := "java/lang/String", name := "compareTo", desc := "(Ljava/lang/String;)I" } : Jvm.MethodName)).before a0 Z = true := hw _ (List.mem_of_getElem? (i := 99) rfl)
theorem t100 {Z : State} {a0 : Array Value} (hw : ∀ d ∈ tables_1, d.before a0 Z = true) : (Jvm.Cond.code ({ cls := "java/lang/String", name := "compareTo", desc := "(Ljava/lang/String;)I" } : Jvm.MethodName) jdk_42_method_71_code (5 : Nat) (Option.some Jvm.ClassFile.FieldType.int)).before a0 Z = true := hw _ (List.mem_of_getElem? (i := 100) rfl)
theorem t101 {Z : State} {a0 : Array Value} (hw : ∀ d ∈ tables_1, d.before a0 Z = true) : (Jvm.Cond.methodLink "java/lang/String" (335 : Nat) ({ cls := "java/lang/String", name := "coder", desc := "()B" } : Jvm.MethodName)).before a0 Z = true := hw _ (List.mem_of_getElem? (i := 101) rfl)
theorem t102 {Z : State} {a0 : Array Value} (hw : ∀ d ∈ tables_1, d.before a0 Z = true) : (Jvm.Cond.declares ({ cls := "java/lang/String", name := "coder", desc := "()B" } : Jvm.MethodName)).before a0 Z = true := hw _ (List.mem_of_getElem? (i := 102) rfl)
theorem t103 {Z : State} {a0 : Array Value} (hw : ∀ d ∈ tables_1, d.before a0 Z = true) : (Jvm.Cond.instanceMethod ({ cls := "java/lang/String", name := "coder", desc := "()B" } : Jvm.MethodName)).before a0 Z = true := hw _ (List.mem_of_getElem? (i := 103) rfl)
theorem t104 {Z : State} {a0 : Array Value} (hw : ∀ d ∈ tables_1, d.before a0 Z = true) : (Jvm.Cond.selects "java/lang/String" ({ cls := "java/lang/String", name := "coder", desc := "()B" } : Jvm.MethodName) ({ cls := "java/lang/String", name := "coder", desc := "()B" } : Jvm.MethodName)).before a0 Z = true := hw _ (List.mem_of_getElem? (i := 104) rfl)
theorem t105 {Z : State} {a0 : Array Value} (hw : ∀ d ∈ tables_1, d.before a0 Z = true) : (Jvm.Cond.code ({ cls := "java/lang/String", name := "coder", desc := "()B" } : Jvm.MethodName) jdk_42_method_152_code (1 : Nat) (Option.some Jvm.ClassFile.FieldType.byte)).before a0 Z = true := hw _ (List.mem_of_getElem? (i := 105) rfl)
theorem t106 {Z : State} {a0 : Array Value} (hw : ∀ d ∈ tables_1, d.before a0 Z = true) : (Jvm.Cond.methodLink "java/lang/String" (586 : Nat) ({ cls := "java/lang/StringLatin1", name := "compareTo", desc := "([B[B)I" } : Jvm.MethodName)).before a0 Z = true := hw _ (List.mem_of_getElem? (i := 106) rfl)
theorem t107 {Z : State} {a0 : Array Value} (hw : ∀ d ∈ tables_1, d.before a0 Z = true) : (Jvm.Cond.static ({ cls := "java/lang/StringLatin1", name := "compareTo", desc := "([B[B)I" } : Jvm.MethodName)).before a0 Z = true := hw _ (List.mem_of_getElem? (i := 107) rfl)
theorem t108 {Z : State} {a0 : Array Value} (hw : ∀ d ∈ tables_1, d.before a0 Z = true) : (Jvm.Cond.initialized "java/lang/StringLatin1").before a0 Z = true := hw _ (List.mem_of_getElem? (i := 108) rfl)
theorem t109 {Z : State} {a0 : Array Value} (hw : ∀ d ∈ tables_1, d.before a0 Z = true) : (Jvm.Cond.code ({ cls := "java/lang/StringLatin1", name := "compareTo", desc := "([B[B)I" } : Jvm.MethodName) jdk_43_method_14_code (4 : Nat) (Option.some Jvm.ClassFile.FieldType.int)).before a0 Z = true := hw _ (List.mem_of_getElem? (i := 109) rfl)
theorem t110 {Z : State} {a0 : Array Value} (hw : ∀ d ∈ tables_1, d.before a0 Z = true) : (Jvm.Cond.methodLink "java/lang/StringLatin1" (34 : Nat) ({ cls := "java/lang/StringLatin1", name := "compareTo", desc := "([B[BII)I" } : Jvm.MethodName)).before a0 Z = true := hw _ (List.mem_of_getElem? (i := 110) rfl)
theorem t111 {Z : State} {a0 : Array Value} (hw : ∀ d ∈ tables_1, d.before a0 Z = true) : (Jvm.Cond.static ({ cls := "java/lang/StringLatin1", name := "compareTo", desc := "([B[BII)I" } : Jvm.MethodName)).before a0 Z = true := hw _ (List.mem_of_getElem? (i := 111) rfl)
theorem t112 {Z : State} {a0 : Array Value} (hw : ∀ d ∈ tables_1, d.before a0 Z = true) : (Jvm.Cond.code ({ cls := "java/lang/StringLatin1", name := "compareTo", desc := "([B[BII)I" } : Jvm.MethodName) jdk_43_method_15_code (6 : Nat) (Option.some Jvm.ClassFile.FieldType.int)).before a0 Z = true := hw _ (List.mem_of_getElem? (i := 112) rfl)
theorem t113 {Z : State} {a0 : Array Value} (hw : ∀ d ∈ tables_1, d.before a0 Z = true) : (Jvm.Cond.methodLink "java/lang/StringLatin1" (38 : Nat) ({ cls := "java/lang/Math", name := "min", desc := "(II)I" } : Jvm.MethodName)).before a0 Z = true := hw _ (List.mem_of_getElem? (i := 113) rfl)
theorem t114 {Z : State} {a0 : Array Value} (hw : ∀ d ∈ tables_1, d.before a0 Z = true) : (Jvm.Cond.static ({ cls := "java/lang/Math", name := "min", desc := "(II)I" } : Jvm.MethodName)).before a0 Z = true := hw _ (List.mem_of_getElem? (i := 114) rfl)
theorem t115 {Z : State} {a0 : Array Value} (hw : ∀ d ∈ tables_1, d.before a0 Z = true) : (Jvm.Cond.code ({ cls := "java/lang/Math", name := "min", desc := "(II)I" } : Jvm.MethodName) jdk_29_method_69_code (2 : Nat) (Option.some Jvm.ClassFile.FieldType.int)).before a0 Z = true := hw _ (List.mem_of_getElem? (i := 115) rfl)
theorem t116 {Z : State} {a0 : Array Value} (hw : ∀ d ∈ tables_1, d.before a0 Z = true) : (Jvm.Cond.methodLink "java/lang/StringLatin1" (44 : Nat) ({ cls := "jdk/internal/util/ArraysSupport", name := "mismatch", desc := "([B[BI)I" } : Jvm.MethodName)).before a0 Z = true := hw _ (List.mem_of_getElem? (i := 116) rfl)
theorem t117 {Z : State} {a0 : Array Value} (hw : ∀ d ∈ tables_1, d.before a0 Z = true) : (Jvm.Cond.static ({ cls := "jdk/internal/util/ArraysSupport", name := "mismatch", desc := "([B[BI)I" } : Jvm.MethodName)).before a0 Z = true := hw _ (List.mem_of_getElem? (i := 117) rfl)
theorem t118 {Z : State} {a0 : Array Value} (hw : ∀ d ∈ tables_1, d.before a0 Z = true) : (Jvm.Cond.initialized "jdk/internal/util/ArraysSupport").before a0 Z = true := hw _ (List.mem_of_getElem? (i := 118) rfl)
theorem t119 {Z : State} {a0 : Array Value} (hw : ∀ d ∈ tables_1, d.before a0 Z = true) : (Jvm.Cond.code ({ cls := "jdk/internal/util/ArraysSupport", name := "mismatch", desc := "([B[BI)I" } : Jvm.MethodName) jdk_48_method_13_code (4 : Nat) (Option.some Jvm.ClassFile.FieldType.int)).before a0 Z = true := hw _ (List.mem_of_getElem? (i := 119) rfl)
theorem t120 {Z : State} {a0 : Array Value} (hw : ∀ d ∈ tables_1, d.before a0 Z = true) : (Jvm.Cond.fieldRef "com/example/isogloss/isogloss/util/PersistentMap" (36 : Nat) "com/example/isogloss/isogloss/util/PersistentMap$Node" "value" "Ljava/lang/Object;").before a0 Z = true := hw _ (List.mem_of_getElem? (i := 120) rfl)
theorem t121 {Z : State} {a0 : Array Value} (hw : ∀ d ∈ tables_1, d.before a0 Z = true) : (Jvm.Cond.fieldRef "com/example/isogloss/isogloss/util/PersistentMap" (40 : Nat) "com/example/isogloss/isogloss/util/PersistentMap$Node" "left" "Lcom/example/isogloss/isogloss/util/PersistentMap$Node;").before a0 Z = true := hw _ (List.mem_of_getElem? (i := 121) rfl)
theorem t122 {Z : State} {a0 : Array Value} (hw : ∀ d ∈ tables_1, d.before a0 Z = true) : (Jvm.Cond.fieldRef "com/example/isogloss/isogloss/util/PersistentMap" (43 : Nat) "com/example/isogloss/isogloss/util/PersistentMap$Node" "right" "Lcom/example/isogloss/isogloss/util/PersistentMap$Node;").before a0 Z = true := hw _ (List.mem_of_getElem? (i := 122) rfl)
theorem t123 {Z : State} {a0 : Array Value} (hw : ∀ d ∈ tables_1, d.before a0 Z = true) : (Jvm.Cond.constant "com/example/isogloss/isogloss/util/PersistentMapIsMadeFromPinLaw" (26 : Nat) (2147483647 : Int32)).before a0 Z = true := hw _ (List.mem_of_getElem? (i := 123) rfl)
theorem t124 {Z : State} {a0 : Array Value} (hw : ∀ d ∈ tables_1, d.before a0 Z = true) : (Jvm.Cond.methodLink "com/example/isogloss/isogloss/util/PersistentMapIsMadeFromPinLaw" (27 : Nat) ({ cls := "com/example/isogloss/isogloss/util/PersistentMapIsMadeFromPinLaw", name := "pick", desc := "(ILcom/example/isogloss/isogloss/util/PersistentMap;Lcom/example/isogloss/isogloss/util/PersistentMap;Lcom/example/isogloss/isogloss/util/PersistentMap;Lcom/example/isogloss/isogloss/util/PersistentMap;Lcom/example/isogloss/isogloss/util/PersistentMap;Lcom/example/isogloss/isogloss/util/PersistentMap;Lcom/example/isogloss/isogloss/util/PersistentMap;)Lcom/example/isogloss/isogloss/util/PersistentMap;" } : Jvm.MethodName)).before a0 Z = true := hw _ (List.mem_of_getElem? (i := 124) rfl)
theorem t125 {Z : State} {a0 : Array Value} (hw : ∀ d ∈ tables_1, d.before a0 Z = true) : (Jvm.Cond.static ({ cls := "com/example/isogloss/isogloss/util/PersistentMapIsMadeFromPinLaw", name := "pick", desc := "(ILcom/example/isogloss/isogloss/util/PersistentMap;Lcom/example/isogloss/isogloss/util/PersistentMap;Lcom/example/isogloss/isogloss/util/PersistentMap;Lcom/example/isogloss/isogloss/util/PersistentMap;Lcom/example/isogloss/isogloss/util/PersistentMap;Lcom/example/isogloss/isogloss/util/PersistentMap;Lcom/example/isogloss/isogloss/util/PersistentMap;)Lcom/example/isogloss/isogloss/util/PersistentMap;" } : Jvm.MethodName)).before a0 Z = true := hw _ (List.mem_of_getElem? (i := 125) rfl)
theorem t126 {Z : State} {a0 : Array Value} (hw : ∀ d ∈ tables_1, d.before a0 Z = true) : (Jvm.Cond.code ({ cls := "com/example/isogloss/isogloss/util/PersistentMapIsMadeFromPinLaw", name := "pick", desc := "(ILcom/example/isogloss/isogloss/util/PersistentMap;Lcom/example/isogloss/isogloss/util/PersistentMap;Lcom/example/isogloss/isogloss/util/PersistentMap;Lcom/example/isogloss/isogloss/util/PersistentMap;Lcom/example/isogloss/isogloss/util/PersistentMap;Lcom/example/isogloss/isogloss/util/PersistentMap;Lcom/example/isogloss/isogloss/util/PersistentMap;)Lcom/example/isogloss/isogloss/util/PersistentMap;" } : Jvm.MethodName) method_4_code (8 : Nat) (Option.some (Jvm.ClassFile.FieldType.object "com/example/isogloss/isogloss/util/PersistentMap"))).before a0 Z = true := hw _ (List.mem_of_getElem? (i := 126) rfl)
theorem t127 {Z : State} {a0 : Array Value} (hw : ∀ d ∈ tables_1, d.before a0 Z = true) : (Jvm.Cond.methodLink "com/example/isogloss/isogloss/util/PersistentMapIsMadeFromPinLaw" (31 : Nat) ({ cls := "com/example/isogloss/isogloss/util/PersistentMap", name := "isMadeFrom", desc := "(Lcom/example/isogloss/isogloss/util/PersistentMap;)Z" } : Jvm.MethodName)).before a0 Z = true := hw _ (List.mem_of_getElem? (i := 127) rfl)
theorem t128 {Z : State} {a0 : Array Value} (hw : ∀ d ∈ tables_1, d.before a0 Z = true) : (Jvm.Cond.declares ({ cls := "com/example/isogloss/isogloss/util/PersistentMap", name := "isMadeFrom", desc := "(Lcom/example/isogloss/isogloss/util/PersistentMap;)Z" } : Jvm.MethodName)).before a0 Z = true := hw _ (List.mem_of_getElem? (i := 128) rfl)
theorem t129 {Z : State} {a0 : Array Value} (hw : ∀ d ∈ tables_1, d.before a0 Z = true) : (Jvm.Cond.instanceMethod ({ cls := "com/example/isogloss/isogloss/util/PersistentMap", name := "isMadeFrom", desc := "(Lcom/example/isogloss/isogloss/util/PersistentMap;)Z" } : Jvm.MethodName)).before a0 Z = true := hw _ (List.mem_of_getElem? (i := 129) rfl)
theorem t130 {Z : State} {a0 : Array Value} (hw : ∀ d ∈ tables_1, d.before a0 Z = true) : (Jvm.Cond.selects "com/example/isogloss/isogloss/util/PersistentMap" ({ cls := "com/example/isogloss/isogloss/util/PersistentMap", name := "isMadeFrom", desc := "(Lcom/example/isogloss/isogloss/util/PersistentMap;)Z" } : Jvm.MethodName) ({ cls := "com/example/isogloss/isogloss/util/PersistentMap", name := "isMadeFrom", desc := "(Lcom/example/isogloss/isogloss/util/PersistentMap;)Z" } : Jvm.MethodName)).before a0 Z = true := hw _ (List.mem_of_getElem? (i := 130) rfl)
theorem t131 {Z : State} {a0 : Array Value} (hw : ∀ d ∈ tables_1, d.before a0 Z = true) : (Jvm.Cond.code ({ cls := "com/example/isogloss/isogloss/util/PersistentMap", name := "isMadeFrom", desc := "(Lcom/example/isogloss/isogloss/util/PersistentMap;)Z" } : Jvm.MethodName) prog_164_method_6_code (5 : Nat) (Option.some Jvm.ClassFile.FieldType.boolean)).before a0 Z = true := hw _ (List.mem_of_getElem? (i := 131) rfl)
theorem t132 {Z : State} {a0 : Array Value} (hw : ∀ d ∈ tables_1, d.before a0 Z = true) : (Jvm.Cond.methodLink "java/lang/StringLatin1" (50 : Nat) ({ cls := "java/lang/StringLatin1", name := "getChar", desc := "([BI)C" } : Jvm.MethodName)).before a0 Z = true := hw _ (List.mem_of_getElem? (i := 132) rfl)
theorem t133 {Z : State} {a0 : Array Value} (hw : ∀ d ∈ tables_1, d.before a0 Z = true) : (Jvm.Cond.static ({ cls := "java/lang/StringLatin1", name := "getChar", desc := "([BI)C" } : Jvm.MethodName)).before a0 Z = true := hw _ (List.mem_of_getElem? (i := 133) rfl)
theorem t134 {Z : State} {a0 : Array Value} (hw : ∀ d ∈ tables_1, d.before a0 Z = true) : (Jvm.Cond.code ({ cls := "java/lang/StringLatin1", name := "getChar", desc := "([BI)C" } : Jvm.MethodName) jdk_43_method_44_code (2 : Nat) (Option.some Jvm.ClassFile.FieldType.char)).before a0 Z = true := hw _ (List.mem_of_getElem? (i := 134) rfl)
theorem t135 {Z : State} {a0 : Array Value} (hw : ∀ d ∈ tables_1, d.before a0 Z = true) : (Jvm.Cond.methodLink "com/example/isogloss/isogloss/util/PersistentMap" (122 : Nat) ({ cls := "com/example/isogloss/isogloss/util/PersistentMap", name := "balanced", desc := "(Ljava/lang/String;Ljava/lang/Object;Lcom/example/isogloss/isogloss/util/PersistentMap$Node;Lcom/example/isogloss/isogloss/util/PersistentMap$Node;)Lcom/example/isogloss/isogloss/util/PersistentMap$Node;" } : Jvm.MethodName)).before a0 Z = true := hw _ (List.mem_of_getElem? (i := 135) rfl)
theorem t136 {Z : State} {a0 : Array Value} (hw : ∀ d ∈ tables_1, d.before a0 Z = true) : (Jvm.Cond.static ({ cls := "com/example/isogloss/isogloss/util/PersistentMap", name := "balanced", desc := "(Ljava/lang/String;Ljava/lang/Object;Lcom/example/isogloss/isogloss/util/PersistentMap$Node;Lcom/example/isogloss/isogloss/util/PersistentMap$Node;)Lcom/example/isogloss/isogloss/util/PersistentMap$Node;" } : Jvm.MethodName)).before a0 Z = true := hw _ (List.mem_of_getElem? (i := 136) rfl)
theorem t137 {Z : State} {a0 : Array Value} (hw : ∀ d ∈ tables_1, d.before a0 Z = true) : (Jvm.Cond.code ({ cls := "com/example/isogloss/isogloss/util/PersistentMap", name := "balanced", desc := "(Ljava/lang/String;Ljava/lang/Object;Lcom/example/isogloss/isogloss/util/PersistentMap$Node;Lcom/example/isogloss/isogloss/util/PersistentMap$Node;)Lcom/example/isogloss/isogloss/util/PersistentMap$Node;" } : Jvm.MethodName) prog_164_method_12_code (5 : Nat) (Option.some (Jvm.ClassFile.FieldType.object "com/example/isogloss/isogloss/util/PersistentMap$Node"))).before a0 Z = true := hw _ (List.mem_of_getElem? (i := 137) rfl)
theorem t138 {Z : State} {a0 : Array Value} (hw : ∀ d ∈ tables_1, d.before a0 Z = true) : (Jvm.Cond.methodLink "com/example/isogloss/isogloss/util/PersistentMap" (126 : Nat) ({ cls := "com/example/isogloss/isogloss/util/PersistentMap", name := "height", desc := "(Lcom/example/isogloss/isogloss/util/PersistentMap$Node;)I" } : Jvm.MethodName)).before a0 Z = true := hw _ (List.mem_of_getElem? (i := 138) rfl)
theorem t139 {Z : State} {a0 : Array Value} (hw : ∀ d ∈ tables_1, d.before a0 Z = true) : (Jvm.Cond.fieldRef "com/example/isogloss/isogloss/util/PersistentMap" (130 : Nat) "com/example/isogloss/isogloss/util/PersistentMap$Node" "height" "I").before a0 Z = true := hw _ (List.mem_of_getElem? (i := 139) rfl)
theorem ef_rmax (m : MethodId) (x0 : Int32) (x1 : Int32) : entryFrame m #[(.int x0), (.int x1)] 2 = mkF m 0 #[.val (.int x0), .val (.int x1)] [] := by first | (simp [entryFrame, mkF, argsToLocals, Value.category]; done) | rfl
abbrev y1 : MethodName := ⟨"java/lang/Math", "max", "(II)I"⟩
theorem d16_0 : decode jdk_29_method_65_code 0 = .ok (.iload_n 0, 1) := by decide +kernel
theorem d16_1 : decode jdk_29_method_65_code 1 = .ok (.iload_n 1, 1) := by decide +kernel
theorem d16_2 : decode jdk_29_method_65_code 2 = .ok (.if_icmp .lt 7, 3) := by decide +kernel
theorem d16_9 : decode jdk_29_method_65_code 9 = .ok (.iload_n 1, 1) := by decide +kernel
theorem d16_10 : decode jdk_29_method_65_code 10 = .ok (.ireturn, 1) := by decide +kernel
theorem d16_5 : decode jdk_29_method_65_code 5 = .ok (.iload_n 0, 1) := by decide +kernel
theorem d16_6 : decode jdk_29_method_65_code 6 = .ok (.goto 4, 3) := by decide +kernel
def Q_rmax (Z : State) (p1 : Int32) (p2 : Int32) (r : Int32) (h0 : Heap) (n0 : Nat) (v : Option Value) (h : Heap) (L : List Loc) : Prop := v = some (.int r) ∧ Fr n0 L ∧ h = h0
set_option maxRecDepth 65536 in
set_option maxHeartbeats 40000000 in
theorem rmax (l : Launch) (Z : State) (a0 : Array Value) (hw : ∀ d ∈ tables_1, d.before a0 Z = true) (ws : List Jvm.Cond) (p1 : Int32) (p2 : Int32) (r : Int32) (h0 : Heap) (n0 : Nat) (O0 : Old Z n0 h0) (hm : (p1 < p2 ∧ r = p2) ∨ (¬ (p1 < p2) ∧ r = p1)) :
    MetFree l y1 (head1 (Jvm.Cond.code y1 jdk_29_method_65_code 2 (some .int) :: ws) ({ frames := 0, cells := 0, slots := 0, locals := 0 } : Room)) (fun a U => a = #[(.int p1), (.int p2)] ∧ Z.Warmed39 U.vm ∧ U.heap = h0) (fun _ _ _ _ _ => True) (fun _ U o U' => ∃ v L, o = .returned v ∧ Q_rmax Z p1 p2 r h0 n0 v U'.heap L ∧ FrameEnd U o U' L ({ frames := 0, cells := 0, slots := 0, locals := 0 } : Room).cells ({ frames := 0, cells := 0, slots := 0, locals := 0 } : Room).slots) := by
  refine MetFree.of_bodySF (by decide +kernel) hisR ?_
  intro p e s m args below meth c s₁ Bd hml0 hP hK
  obtain ⟨rfl, hZ, hh⟩ := hP
  have hx := Bd.exec
  have hby := Bd.bytes
  have hml : c.maxLocals = 2 := hml0
  have hown : s.vm.findClass "java/lang/Math" = some m.cls := findClass_of_methodNamed Bd.named
  have hnm := (name_of_methodNamed Bd.named Bd.method).1
  have X0 : Stand p l e ({ frames := 0, cells := 0, slots := 0, locals := 0 } : Room) s m #[(.int p1), (.int p2)] below meth c s₁ [] 0 0 := Stand.of_body Bd
  have e0 : s₁.heap = h0 := by rw [← hh, Bd.state]; rfl
  have N0 := Fr.nil n0
  have K0 : Keep h0 h0 [] := Keep.refl h0 _
  have go : Gl p.tables e below (fun o U' => ∃ v L, o = .returned v ∧ Q_rmax Z p1 p2 r h0 n0 v U'.heap L ∧ FrameEnd s o U' L ({ frames := 0, cells := 0, slots := 0, locals := 0 } : Room).cells ({ frames := 0, cells := 0, slots := 0, locals := 0 } : Room).slots) (s₁.setTop (mkF m 0 #[.val (.int p1), .val (.int p2)] [])) := by
    refine Gl.step (B := (s₁.setTop (mkF m 2 #[.val (.int p1), .val (.int p2)] [(.int p2), (.int p1)]))) (fun t k => XS.iloadN X0.here hx rfl (hb hby d16_0) rfl (XS.iloadN X0.here hx rfl (hb hby d16_1) rfl k)) ?_
    rcases hm with ⟨q, qr⟩ | ⟨q, qr⟩
    · skip
      refine Gl.step (B := (s₁.setTop (mkF m 10 #[.val (.int p1), .val (.int p2)] [(.int p2)]))) (fun t k => XS.icmpYes X0.here hx rfl (pc0 := 2) (pc' := 9) rfl (hb hby d16_2) rfl (tlt (q : p1 < p2)).1 (by decide) (by decide) (XS.iloadN X0.here hx rfl (hb hby d16_9) rfl k)) ?_
      obtain ⟨fs, hr, hrun, hended, hW, hsame⟩ := X0.leave (v := some (.int p2)) (fun h => by rw [Bd.returns] at h; cases h)
      refine ⟨_, _, ?_, hrun, hended, _, _, rfl, ?_, ⟨_, rfl⟩, hW, hsame.mono (by decide) (by decide)⟩
      · show Steps p.tables e below (s₁.setTop (mkF m 10 #[.val (.int p1), .val (.int p2)] [(.int p2)])) _
        exact retI X0 hx Bd.returns (hb hby d16_10) hr
      · show Q_rmax Z p1 p2 r h0 n0 _ s₁.heap _
        rw [e0]
        exact ⟨(by rw [qr]), N0, rfl⟩
    · skip
      refine Gl.step (B := (s₁.setTop (mkF m 10 #[.val (.int p1), .val (.int p2)] [(.int p1)]))) (fun t k => XS.icmpNo X0.here hx rfl (hb hby d16_2) rfl (flt (q : ¬ (p1 < p2))).1 (XS.iloadN X0.here hx rfl (hb hby d16_5) rfl (XS.goto X0.here hx rfl (pc0 := 6) (pc' := 10) rfl (hb hby d16_6) (by decide) (by decide) k))) ?_
      obtain ⟨fs, hr, hrun, hended, hW, hsame⟩ := X0.leave (v := some (.int p1)) (fun h => by rw [Bd.returns] at h; cases h)
      refine ⟨_, _, ?_, hrun, hended, _, _, rfl, ?_, ⟨_, rfl⟩, hW, hsame.mono (by decide) (by decide)⟩
      · show Steps p.tables e below (s₁.setTop (mkF m 10 #[.val (.int p1), .val (.int p2)] [(.int p1)])) _
        exact retI X0 hx Bd.returns (hb hby d16_10) hr
      · show Q_rmax Z p1 p2 r h0 n0 _ s₁.heap _
        rw [e0]
        exact ⟨(by rw [qr]), N0, rfl⟩
  obtain ⟨s₂, o, g1, g2, g3, g4⟩ := go
  exact ⟨s₂, o, castTop (ef_rmax m p1 p2) g1, g2, g3, g4⟩
theorem ef_rmin (m : MethodId) (x0 : Int32) (x1 : Int32) : entryFrame m #[(.int x0), (.int x1)] 2 = mkF m 0 #[.val (.int x0), .val (.int x1)] [] := by first | (simp [entryFrame, mkF, argsToLocals, Value.category]; done) | rfl
abbrev y2 : MethodName := ⟨"java/lang/Math", "min", "(II)I"⟩
theorem d21_0 : decode jdk_29_method_69_code 0 = .ok (.iload_n 0, 1) := by decide +kernel
theorem d21_1 : decode jdk_29_method_69_code 1 = .ok (.iload_n 1, 1) := by decide +kernel
theorem d21_2 : decode jdk_29_method_69_code 2 = .ok (.if_icmp .gt 7, 3) := by decide +kernel
theorem d21_9 : decode jdk_29_method_69_code 9 = .ok (.iload_n 1, 1) := by decide +kernel
theorem d21_10 : decode jdk_29_method_69_code 10 = .ok (.ireturn, 1) := by decide +kernel
theorem d21_5 : decode jdk_29_method_69_code 5 = .ok (.iload_n 0, 1) := by decide +kernel
theorem d21_6 : decode jdk_29_method_69_code 6 = .ok (.goto 4, 3) := by decide +kernel
def Q_rmin (Z : State) (p1 : Int32) (p2 : Int32) (r : Int32) (h0 : Heap) (n0 : Nat) (v : Option Value) (h : Heap) (L : List Loc) : Prop := v = some (.int r) ∧ Fr n0 L ∧ h = h0
set_option maxRecDepth 65536 in
set_option maxHeartbeats 40000000 in
theorem rmin (l : Launch) (Z : State) (a0 : Array Value) (hw : ∀ d ∈ tables_1, d.before a0 Z = true) (ws : List Jvm.Cond) (p1 : Int32) (p2 : Int32) (r : Int32) (h0 : Heap) (n0 : Nat) (O0 : Old Z n0 h0) (hm : (p2 < p1 ∧ r = p2) ∨ (¬ (p2 < p1) ∧ r = p1)) :
    MetFree l y2 (head1 (Jvm.Cond.code y2 jdk_29_method_69_code 2 (some .int) :: ws) ({ frames := 0, cells := 0, slots := 0, locals := 0 } : Room)) (fun a U => a = #[(.int p1), (.int p2)] ∧ Z.Warmed39 U.vm ∧ U.heap = h0) (fun _ _ _ _ _ => True) (fun _ U o U' => ∃ v L, o = .returned v ∧ Q_rmin Z p1 p2 r h0 n0 v U'.heap L ∧ FrameEnd U o U' L ({ frames := 0, cells := 0, slots := 0, locals := 0 } : Room).cells ({ frames := 0, cells := 0, slots := 0, locals := 0 } : Room).slots) := by
  refine MetFree.of_bodySF (by decide +kernel) hisR ?_
  intro p e s m args below meth c s₁ Bd hml0 hP hK
  obtain ⟨rfl, hZ, hh⟩ := hP
  have hx := Bd.exec
  have hby := Bd.bytes
  have hml : c.maxLocals = 2 := hml0
  have hown : s.vm.findClass "java/lang/Math" = some m.cls := findClass_of_methodNamed Bd.named
  have hnm := (name_of_methodNamed Bd.named Bd.method).1
  have X0 : Stand p l e ({ frames := 0, cells := 0, slots := 0, locals := 0 } : Room) s m #[(.int p1), (.int p2)] below meth c s₁ [] 0 0 := Stand.of_body Bd
  have e0 : s₁.heap = h0 := by rw [← hh, Bd.state]; rfl
  have N0 := Fr.nil n0
  have K0 : Keep h0 h0 [] := Keep.refl h0 _
  have go : Gl p.tables e below (fun o U' => ∃ v L, o = .returned v ∧ Q_rmin Z p1 p2 r h0 n0 v U'.heap L ∧ FrameEnd s o U' L ({ frames := 0, cells := 0, slots := 0, locals := 0 } : Room).cells ({ frames := 0, cells := 0, slots := 0, locals := 0 } : Room).slots) (s₁.setTop (mkF m 0 #[.val (.int p1), .val (.int p2)] [])) := by
    refine Gl.step (B := (s₁.setTop (mkF m 2 #[.val (.int p1), .val (.int p2)] [(.int p2), (.int p1)]))) (fun t k => XS.iloadN X0.here hx rfl (hb hby d21_0) rfl (XS.iloadN X0.here hx rfl (hb hby d21_1) rfl k)) ?_
    rcases hm with ⟨q, qr⟩ | ⟨q, qr⟩
    · skip
      refine Gl.step (B := (s₁.setTop (mkF m 10 #[.val (.int p1), .val (.int p2)] [(.int p2)]))) (fun t k => XS.icmpYes X0.here hx rfl (pc0 := 2) (pc' := 9) rfl (hb hby d21_2) rfl (tlt (q : p2 < p1)).2.2.1 (by decide) (by decide) (XS.iloadN X0.here hx rfl (hb hby d21_9) rfl k)) ?_
      obtain ⟨fs, hr, hrun, hended, hW, hsame⟩ := X0.leave (v := some (.int p2)) (fun h => by rw [Bd.returns] at h; cases h)
      refine ⟨_, _, ?_, hrun, hended, _, _, rfl, ?_, ⟨_, rfl⟩, hW, hsame.mono (by decide) (by decide)⟩
      · show Steps p.tables e below (s₁.setTop (mkF m 10 #[.val (.int p1), .val (.int p2)] [(.int p2)])) _
        exact retI X0 hx Bd.returns (hb hby d21_10) hr
      · show Q_rmin Z p1 p2 r h0 n0 _ s₁.heap _
        rw [e0]
        exact ⟨(by rw [qr]), N0, rfl⟩
    · skip
      refine Gl.step (B := (s₁.setTop (mkF m 10 #[.val (.int p1), .val (.int p2)] [(.int p1)]))) (fun t k => XS.icmpNo X0.here hx rfl (hb hby d21_2) rfl (flt (q : ¬ (p2 < p1))).2.2.1 (XS.iloadN X0.here hx rfl (hb hby d21_5) rfl (XS.goto X0.here hx rfl (pc0 := 6) (pc' := 10) rfl (hb hby d21_6) (by decide) (by decide) k))) ?_
      obtain ⟨fs, hr, hrun, hended, hW, hsame⟩ := X0.leave (v := some (.int p1)) (fun h => by rw [Bd.returns] at h; cases h)
      refine ⟨_, _, ?_, hrun, hended, _, _, rfl, ?_, ⟨_, rfl⟩, hW, hsame.mono (by decide) (by decide)⟩
      · show Steps p.tables e below (s₁.setTop (mkF m 10 #[.val (.int p1), .val (.int p2)] [(.int p1)])) _
        exact retI X0 hx Bd.returns (hb hby d21_10) hr
      · show Q_rmin Z p1 p2 r h0 n0 _ s₁.heap _
        rw [e0]
        exact ⟨(by rw [qr]), N0, rfl⟩
  obtain ⟨s₂, o, g1, g2, g3, g4⟩ := go
  exact ⟨s₂, o, castTop (ef_rmin m p1 p2) g1, g2, g3, g4⟩
theorem ef_rhN (m : MethodId)  : entryFrame m #[.null] 1 = mkF m 0 #[.val .null] [] := by first | (simp [entryFrame, mkF, argsToLocals, Value.category]; done) | rfl
theorem pn_com_example_isogloss_isogloss_util_PersistentMap : plainName "com/example/isogloss/isogloss/util/PersistentMap" = true := by first | (simp [plainName, overriddenIn]; done) | decide +kernel
abbrev y3 : MethodName := ⟨"com/example/isogloss/isogloss/util/PersistentMap", "height", "(Lcom/example/isogloss/isogloss/util/PersistentMap$Node;)I"⟩
theorem d15_0 : decode prog_164_method_13_code 0 = .ok (.aload_n 0, 1) := by decide +kernel
theorem d15_1 : decode prog_164_method_13_code 1 = .ok (.ifnonnull 7, 3) := by decide +kernel
theorem d15_4 : decode prog_164_method_13_code 4 = .ok (.iconst 0, 1) := by decide +kernel
theorem d15_5 : decode prog_164_method_13_code 5 = .ok (.goto 7, 3) := by decide +kernel
theorem d15_12 : decode prog_164_method_13_code 12 = .ok (.ireturn, 1) := by decide +kernel
def Q_rhN (Z : State)  (h0 : Heap) (n0 : Nat) (v : Option Value) (h : Heap) (L : List Loc) : Prop := v = some (.int (0 : Int32)) ∧ Fr n0 L ∧ h = h0
set_option maxRecDepth 65536 in
set_option maxHeartbeats 40000000 in
theorem rhN (l : Launch) (Z : State) (a0 : Array Value) (hw : ∀ d ∈ tables_1, d.before a0 Z = true) (ws : List Jvm.Cond)  (h0 : Heap) (n0 : Nat) (O0 : Old Z n0 h0)  :
    MetFree l y3 (head1 (Jvm.Cond.code y3 prog_164_method_13_code 1 (some .int) :: ws) ({ frames := 0, cells := 0, slots := 0, locals := 0 } : Room)) (fun a U => a = #[.null] ∧ Z.Warmed39 U.vm ∧ U.heap = h0) (fun _ _ _ _ _ => True) (fun _ U o U' => ∃ v L, o = .returned v ∧ Q_rhN Z  h0 n0 v U'.heap L ∧ FrameEnd U o U' L ({ frames := 0, cells := 0, slots := 0, locals := 0 } : Room).cells ({ frames := 0, cells := 0, slots := 0, locals := 0 } : Room).slots) := by
  refine MetFree.of_bodySF (plainFor_of_name pn_com_example_isogloss_isogloss_util_PersistentMap) hisR ?_
  intro p e s m args below meth c s₁ Bd hml0 hP hK
  obtain ⟨rfl, hZ, hh⟩ := hP
  have hx := Bd.exec
  have hby := Bd.bytes
  have hml : c.maxLocals = 1 := hml0
  have hown : s.vm.findClass own_PM = some m.cls := findClass_of_methodNamed Bd.named
  have hnm := (name_of_methodNamed Bd.named Bd.method).1
  have X0 : Stand p l e ({ frames := 0, cells := 0, slots := 0, locals := 0 } : Room) s m #[.null] below meth c s₁ [] 0 0 := Stand.of_body Bd
  have e0 : s₁.heap = h0 := by rw [← hh, Bd.state]; rfl
  have N0 := Fr.nil n0
  have K0 : Keep h0 h0 [] := Keep.refl h0 _
  have go : Gl p.tables e below (fun o U' => ∃ v L, o = .returned v ∧ Q_rhN Z  h0 n0 v U'.heap L ∧ FrameEnd s o U' L ({ frames := 0, cells := 0, slots := 0, locals := 0 } : Room).cells ({ frames := 0, cells := 0, slots := 0, locals := 0 } : Room).slots) (s₁.setTop (mkF m 0 #[.val .null] [])) := by
    refine Gl.step (B := (s₁.setTop (mkF m 12 #[.val .null] [(.int (0 : Int32))]))) (fun t k => XS.aloadN X0.here hx rfl (hb hby d15_0) rfl rfl (XS.ifnonnullNo X0.here hx rfl (hb hby d15_1) rfl (XS.iconst X0.here hx rfl (hb hby d15_4) (XS.goto X0.here hx rfl (pc0 := 5) (pc' := 12) rfl (hb hby d15_5) (by decide) (by decide) k)))) ?_
    obtain ⟨fs, hr, hrun, hended, hW, hsame⟩ := X0.leave (v := some (.int (0 : Int32))) (fun h => by rw [Bd.returns] at h; cases h)
    refine ⟨_, _, ?_, hrun, hended, _, _, rfl, ?_, ⟨_, rfl⟩, hW, hsame.mono (by decide) (by decide)⟩
    · show Steps p.tables e below (s₁.setTop (mkF m 12 #[.val .null] [(.int (0 : Int32))])) _
      exact retI X0 hx Bd.returns (hb hby d15_12) hr
    · show Q_rhN Z  h0 n0 _ s₁.heap _
      rw [e0]
      exact ⟨rfl, N0, rfl⟩
  obtain ⟨s₂, o, g1, g2, g3, g4⟩ := go
  exact ⟨s₂, o, castTop (ef_rhN m ) g1, g2, g3, g4⟩
theorem ef_rhR (m : MethodId) (x0 : Addr) : entryFrame m #[(.ref x0)] 1 = mkF m 0 #[.val (.ref x0)] [] := by first | (simp [entryFrame, mkF, argsToLocals, Value.category]; done) | rfl
theorem d15_8 : decode prog_164_method_13_code 8 = .ok (.aload_n 0, 1) := by decide +kernel
theorem d15_9 : decode prog_164_method_13_code 9 = .ok (.getfield 130, 3) := by decide +kernel
def Q_rhR (Z : State) (a1 : Addr) (w : Int32) (h0 : Heap) (n0 : Nat) (v : Option Value) (h : Heap) (L : List Loc) : Prop := v = some (.int w) ∧ Fr n0 L ∧ h = h0
set_option maxRecDepth 65536 in
set_option maxHeartbeats 40000000 in
theorem rhR (l : Launch) (Z : State) (a0 : Array Value) (hw : ∀ d ∈ tables_1, d.before a0 Z = true) (ws : List Jvm.Cond) (a1 : Addr) (w : Int32) (h0 : Heap) (n0 : Nat) (O0 : Old Z n0 h0) (pm0 : Fld Z h0 a1 own_ND "height" "I" (.int w)) :
    MetFree l y3 (head1 (Jvm.Cond.code y3 prog_164_method_13_code 1 (some .int) :: ws) ({ frames := 0, cells := 0, slots := 0, locals := 0 } : Room)) (fun a U => a = #[(.ref a1)] ∧ Z.Warmed39 U.vm ∧ U.heap = h0) (fun _ _ _ _ _ => True) (fun _ U o U' => ∃ v L, o = .returned v ∧ Q_rhR Z a1 w h0 n0 v U'.heap L ∧ FrameEnd U o U' L ({ frames := 0, cells := 0, slots := 0, locals := 0 } : Room).cells ({ frames := 0, cells := 0, slots := 0, locals := 0 } : Room).slots) := by
  refine MetFree.of_bodySF (plainFor_of_name pn_com_example_isogloss_isogloss_util_PersistentMap) hisR ?_
  intro p e s m args below meth c s₁ Bd hml0 hP hK
  obtain ⟨rfl, hZ, hh⟩ := hP
  have hx := Bd.exec
  have hby := Bd.bytes
  have hml : c.maxLocals = 1 := hml0
  have hown : s.vm.findClass own_PM = some m.cls := findClass_of_methodNamed Bd.named
  have hnm := (name_of_methodNamed Bd.named Bd.method).1
  have X0 : Stand p l e ({ frames := 0, cells := 0, slots := 0, locals := 0 } : Room) s m #[(.ref a1)] below meth c s₁ [] 0 0 := Stand.of_body Bd
  have e0 : s₁.heap = h0 := by rw [← hh, Bd.state]; rfl
  have N0 := Fr.nil n0
  have K0 : Keep h0 h0 [] := Keep.refl h0 _
  have go : Gl p.tables e below (fun o U' => ∃ v L, o = .returned v ∧ Q_rhR Z a1 w h0 n0 v U'.heap L ∧ FrameEnd s o U' L ({ frames := 0, cells := 0, slots := 0, locals := 0 } : Room).cells ({ frames := 0, cells := 0, slots := 0, locals := 0 } : Room).slots) (s₁.setTop (mkF m 0 #[.val (.ref a1)] [])) := by
    refine Gl.step (B := (s₁.setTop (mkF m 9 #[.val (.ref a1)] [(.ref a1)]))) (fun t k => XS.aloadN X0.here hx rfl (hb hby d15_0) rfl rfl (XS.ifnonnullYes X0.here hx rfl (pc0 := 1) (pc' := 8) rfl (hb hby d15_1) rfl (by decide) (by decide) (XS.aloadN X0.here hx rfl (hb hby d15_8) rfl rfl k))) ?_
    obtain ⟨T1, X1, e1, st1⟩ := own_getFR X0 hx hZ hown (t139 hw) e0 pm0 (g := (mkF m 9 #[.val (.ref a1)] [(.ref a1)])) rfl rfl (hb hby d15_9)
    refine Gl.step (B := (T1.setTop (mkF m 12 #[.val (.ref a1)] [(.int w)]))) st1 ?_
    obtain ⟨fs, hr, hrun, hended, hW, hsame⟩ := X1.leave (v := some (.int w)) (fun h => by rw [Bd.returns] at h; cases h)
    refine ⟨_, _, ?_, hrun, hended, _, _, rfl, ?_, ⟨_, rfl⟩, hW, hsame.mono (by decide) (by decide)⟩
    · show Steps p.tables e below (T1.setTop (mkF m 12 #[.val (.ref a1)] [(.int w)])) _
      exact retI X1 hx Bd.returns (hb hby d15_12) hr
    · show Q_rhR Z a1 w h0 n0 _ T1.heap _
      rw [e1]
      exact ⟨rfl, N0, rfl⟩
  obtain ⟨s₂, o, g1, g2, g3, g4⟩ := go
  exact ⟨s₂, o, castTop (ef_rhR m a1) g1, g2, g3, g4⟩
def Q_rhV (Z : State) (u : Value) (n : Nat) (h0 : Heap) (n0 : Nat) (v : Option Value) (h : Heap) (L : List Loc) : Prop := v = some (.int (Int32.ofNat n)) ∧ Fr n0 L ∧ h = h0
set_option maxRecDepth 65536 in
set_option maxHeartbeats 40000000 in
theorem rhV (l : Launch) (Z : State) (a0 : Array Value) (hw : ∀ d ∈ tables_1, d.before a0 Z = true) (ws : List Jvm.Cond) (u : Value) (n : Nat) (h0 : Heap) (n0 : Nat) (O0 : Old Z n0 h0) (g_Ht_u : Ht Z h0 u n) :
    MetFree l y3 (head1 (Jvm.Cond.code y3 prog_164_method_13_code 1 (some .int) :: ws) ({ frames := 0, cells := 0, slots := 0, locals := 0 } : Room)) (fun a U => a = #[u] ∧ Z.Warmed39 U.vm ∧ U.heap = h0) (fun _ _ _ _ _ => True) (fun _ U o U' => ∃ v L, o = .returned v ∧ Q_rhV Z u n h0 n0 v U'.heap L ∧ FrameEnd U o U' L ({ frames := 0, cells := 0, slots := 0, locals := 0 } : Room).cells ({ frames := 0, cells := 0, slots := 0, locals := 0 } : Room).slots) := by
  rcases g_Ht_u with ⟨rfl, rfl⟩ | ⟨a, rfl, F⟩
  · exact rhN l Z a0 hw ws h0 n0 O0
  · exact rhR l Z a0 hw ws a _ h0 n0 O0 F
theorem ef_rnV (m : MethodId) (x0 : Addr) (x1 : Addr) (x2 : Addr) (x3 : Value) (x4 : Value) (hx3 : x3.isRef = true) (hx4 : x4.isRef = true) : entryFrame m #[(.ref x0), (.ref x1), (.ref x2), x3, x4] 5 = mkF m 0 #[.val (.ref x0), .val (.ref x1), .val (.ref x2), .val x3, .val x4] [] := by rcases ref_cases hx3 with rfl | ⟨_, rfl⟩ <;> rcases ref_cases hx4 with rfl | ⟨_, rfl⟩ <;> first | (simp [entryFrame, mkF, argsToLocals, Value.category]; done) | rfl
theorem pn_com_example_isogloss_isogloss_util_PersistentMap_Node : plainName "com/example/isogloss/isogloss/util/PersistentMap$Node" = true := by first | (simp [plainName, overriddenIn]; done) | decide +kernel
abbrev y4 : MethodName := ⟨"com/example/isogloss/isogloss/util/PersistentMap$Node", "<init>", "(Ljava/lang/String;Ljava/lang/Object;Lcom/example/isogloss/isogloss/util/PersistentMap$Node;Lcom/example/isogloss/isogloss/util/PersistentMap$Node;)V"⟩
theorem d14_0 : decode prog_165_method_1_code 0 = .ok (.aload_n 0, 1) := by decide +kernel
theorem d14_1 : decode prog_165_method_1_code 1 = .ok (.invokespecial 1, 3) := by decide +kernel
theorem d14_4 : decode prog_165_method_1_code 4 = .ok (.aload_n 0, 1) := by decide +kernel
theorem d14_5 : decode prog_165_method_1_code 5 = .ok (.aload_n 1, 1) := by decide +kernel
theorem d14_6 : decode prog_165_method_1_code 6 = .ok (.putfield 7, 3) := by decide +kernel
theorem d14_9 : decode prog_165_method_1_code 9 = .ok (.aload_n 0, 1) := by decide +kernel
theorem d14_10 : decode prog_165_method_1_code 10 = .ok (.aload_n 2, 1) := by decide +kernel
theorem d14_11 : decode prog_165_method_1_code 11 = .ok (.putfield 13, 3) := by decide +kernel
theorem d14_14 : decode prog_165_method_1_code 14 = .ok (.aload_n 0, 1) := by decide +kernel
theorem d14_15 : decode prog_165_method_1_code 15 = .ok (.aload_n 3, 1) := by decide +kernel
theorem d14_16 : decode prog_165_method_1_code 16 = .ok (.putfield 17, 3) := by decide +kernel
theorem d14_19 : decode prog_165_method_1_code 19 = .ok (.aload_n 0, 1) := by decide +kernel
theorem d14_20 : decode prog_165_method_1_code 20 = .ok (.aload 4, 2) := by decide +kernel
theorem d14_22 : decode prog_165_method_1_code 22 = .ok (.putfield 21, 3) := by decide +kernel
theorem d14_25 : decode prog_165_method_1_code 25 = .ok (.aload_n 0, 1) := by decide +kernel
theorem d14_26 : decode prog_165_method_1_code 26 = .ok (.iconst 1, 1) := by decide +kernel
theorem d14_27 : decode prog_165_method_1_code 27 = .ok (.aload_n 3, 1) := by decide +kernel
theorem d14_28 : decode prog_165_method_1_code 28 = .ok (.invokestatic 24, 3) := by decide +kernel
theorem pd__Lcom_example_isogloss_isogloss_util_PersistentMap_Node__I : parseMethodDescriptor "(Lcom/example/isogloss/isogloss/util/PersistentMap$Node;)I" = some ⟨[(.object "com/example/isogloss/isogloss/util/PersistentMap$Node")], some .int⟩ := by decide +kernel
theorem d14_31 : decode prog_165_method_1_code 31 = .ok (.aload 4, 2) := by decide +kernel
theorem d14_33 : decode prog_165_method_1_code 33 = .ok (.invokestatic 24, 3) := by decide +kernel
theorem d14_36 : decode prog_165_method_1_code 36 = .ok (.invokestatic 30, 3) := by decide +kernel
theorem pd__II_I : parseMethodDescriptor "(II)I" = some ⟨[.int, .int], some .int⟩ := by decide +kernel
theorem d14_39 : decode prog_165_method_1_code 39 = .ok (.iadd, 1) := by decide +kernel
theorem d14_40 : decode prog_165_method_1_code 40 = .ok (.putfield 36, 3) := by decide +kernel
theorem d14_43 : decode prog_165_method_1_code 43 = .ok (.return_, 1) := by decide +kernel
def Q_rnV (Z : State) (a1 : Addr) (a2 : Addr) (a3 : Addr) (vl : Value) (vr : Value) (nl : Nat) (nr : Nat) (h0 : Heap) (n0 : Nat) (v : Option Value) (h : Heap) (L : List Loc) : Prop := v = none ∧ Fr n0 L ∧ Keep h0 h [a1] ∧ (Exa Z h a1 own_ND) ∧ (Fld Z h a1 own_ND "key" "Ljava/lang/String;" (.ref a2)) ∧ (Fld Z h a1 own_ND "value" "Ljava/lang/Object;" (.ref a3)) ∧ (Fld Z h a1 own_ND "left" own_LN vl) ∧ (Fld Z h a1 own_ND "right" own_LN vr) ∧ (Fld Z h a1 own_ND "height" "I" (.int (Int32.ofNat (max nl nr + 1))))
set_option maxRecDepth 65536 in
set_option maxHeartbeats 40000000 in
theorem rnV (l : Launch) (Z : State) (a0 : Array Value) (hw : ∀ d ∈ tables_1, d.before a0 Z = true) (ws : List Jvm.Cond) (a1 : Addr) (a2 : Addr) (a3 : Addr) (vl : Value) (vr : Value) (nl : Nat) (nr : Nat) (h0 : Heap) (n0 : Nat) (O0 : Old Z n0 h0) (pm0 : Exa Z h0 a1 own_ND) (pm1 : Fld Z h0 a1 own_ND "key" "Ljava/lang/String;" .null) (pm2 : Fld Z h0 a1 own_ND "value" "Ljava/lang/Object;" .null) (pm3 : Fld Z h0 a1 own_ND "left" own_LN .null) (pm4 : Fld Z h0 a1 own_ND "right" own_LN .null) (pm5 : Fld Z h0 a1 own_ND "height" "I" (.int (0 : Int32))) (pm6 : n0 ≤ a1) (g_Ht_vl : Ht Z h0 vl nl) (g_Ht_vr : Ht Z h0 vr nr) (hl : vl ≠ .ref a1) (hr : vr ≠ .ref a1) (hbd : nl ≤ 8 ∧ nr ≤ 8) :
    MetFree l y4 (head1 (Jvm.Cond.code y4 prog_165_method_1_code 5 none :: ws) ({ frames := 1, cells := 0, slots := 0, locals := 15 } : Room)) (fun a U => a = #[(.ref a1), (.ref a2), (.ref a3), vl, vr] ∧ Z.Warmed39 U.vm ∧ U.heap = h0) (fun _ _ _ _ _ => True) (fun _ U o U' => ∃ v L, o = .returned v ∧ Q_rnV Z a1 a2 a3 vl vr nl nr h0 n0 v U'.heap L ∧ FrameEnd U o U' L ({ frames := 1, cells := 0, slots := 0, locals := 15 } : Room).cells ({ frames := 1, cells := 0, slots := 0, locals := 15 } : Room).slots) := by
  refine MetFree.of_bodySF (plainFor_of_name pn_com_example_isogloss_isogloss_util_PersistentMap_Node) hisR ?_
  intro p e s m args below meth c s₁ Bd hml0 hP hK
  obtain ⟨rfl, hZ, hh⟩ := hP
  have hx := Bd.exec
  have hby := Bd.bytes
  have hml : c.maxLocals = 5 := hml0
  have hown : s.vm.findClass own_ND = some m.cls := findClass_of_methodNamed Bd.named
  have hnm := (name_of_methodNamed Bd.named Bd.method).1
  have X0 : Stand p l e ({ frames := 1, cells := 0, slots := 0, locals := 15 } : Room) s m #[(.ref a1), (.ref a2), (.ref a3), vl, vr] below meth c s₁ [] 0 0 := Stand.of_body Bd
  have e0 : s₁.heap = h0 := by rw [← hh, Bd.state]; rfl
  have N0 := Fr.nil n0
  have K0 : Keep h0 h0 [a1] := Keep.refl h0 _
  have go : Gl p.tables e below (fun o U' => ∃ v L, o = .returned v ∧ Q_rnV Z a1 a2 a3 vl vr nl nr h0 n0 v U'.heap L ∧ FrameEnd s o U' L ({ frames := 1, cells := 0, slots := 0, locals := 15 } : Room).cells ({ frames := 1, cells := 0, slots := 0, locals := 15 } : Room).slots) (s₁.setTop (mkF m 0 #[.val (.ref a1), .val (.ref a2), .val (.ref a3), .val vl, .val vr] [])) := by
    refine Gl.step (B := (s₁.setTop (mkF m 1 #[.val (.ref a1), .val (.ref a2), .val (.ref a3), .val vl, .val vr] [(.ref a1)]))) (fun t k => XS.aloadN X0.here hx rfl (hb hby d14_0) rfl rfl k) ?_
    obtain ⟨T1, X1, e1, st1⟩ := initO X0 hx hZ hown (t77 hw) (t16 hw) (t17 hw) e0 (g := (mkF m 1 #[.val (.ref a1), .val (.ref a2), .val (.ref a3), .val vl, .val vr] [(.ref a1)])) rfl (by rw [hml]; rfl) rfl (hb hby d14_1) (by decide) (W := 0) (by show 2 * 0 + _ ≤ _; exact Nat.le_of_eq rfl) (by decide)
    refine Gl.step (B := (T1.setTop (mkF m 4 #[.val (.ref a1), .val (.ref a2), .val (.ref a3), .val vl, .val vr] []))) st1 ?_
    refine Gl.step (B := (T1.setTop (mkF m 6 #[.val (.ref a1), .val (.ref a2), .val (.ref a3), .val vl, .val vr] [(.ref a2), (.ref a1)]))) (fun t k => XS.aloadN X1.here hx rfl (hb hby d14_4) rfl rfl (XS.aloadN X1.here hx rfl (hb hby d14_5) rfl rfl k)) ?_
    obtain ⟨T2, h2, X2, e2, W2, st2⟩ := putF X1 hx hZ hown (host := "") (Or.inl (t78 hw)) Via.refl e1 pm1 pm0 (Or.inr ⟨(t79 hw), rfl, hnm⟩) (t72 hw) (ty := (.object "java/lang/String")) (by decide) rfl rfl (g := (mkF m 6 #[.val (.ref a1), .val (.ref a2), .val (.ref a3), .val vl, .val vr] [(.ref a2), (.ref a1)])) rfl rfl (hb hby d14_6)
    have Fw2 := pm1.same W2
    have N2 := Fr.snoc X2 N0 pm6
    have O3 : Old Z n0 h2 := O0.wr W2 pm6
    have K3 : Keep h0 h2 [a1] := K0.wr W2 (Or.inl (List.mem_of_getElem? (i := 0) rfl))
    refine Gl.step (B := (T2.setTop (mkF m 9 #[.val (.ref a1), .val (.ref a2), .val (.ref a3), .val vl, .val vr] []))) st2 ?_
    refine Gl.step (B := (T2.setTop (mkF m 11 #[.val (.ref a1), .val (.ref a2), .val (.ref a3), .val vl, .val vr] [(.ref a3), (.ref a1)]))) (fun t k => XS.aloadN X2.here hx rfl (hb hby d14_9) rfl rfl (XS.aloadN X2.here hx rfl (hb hby d14_10) rfl rfl k)) ?_
    have f4 := (pm0.wr W2)
    have f5 := (pm2.other W2 (Or.inr (slot_ne (Or.inr (t81 hw)) (Or.inr (t79 hw)) (by decide) (t := (.object "java/lang/Object")) (t' := (.object "java/lang/String")) (by decide) (by decide))))
    obtain ⟨T6, h6, X6, e6, W6, st6⟩ := putF X2 hx hZ hown (host := "") (Or.inl (t80 hw)) Via.refl e2 f5 f4 (Or.inr ⟨(t81 hw), rfl, hnm⟩) (t72 hw) (ty := (.object "java/lang/Object")) (by decide) rfl rfl (g := (mkF m 11 #[.val (.ref a1), .val (.ref a2), .val (.ref a3), .val vl, .val vr] [(.ref a3), (.ref a1)])) rfl rfl (hb hby d14_11)
    have Fw6 := f5.same W6
    have N6 := Fr.snoc X6 N2 pm6
    have O7 : Old Z n0 h6 := O3.wr W6 pm6
    have K7 : Keep h0 h6 [a1] := K3.wr W6 (Or.inl (List.mem_of_getElem? (i := 0) rfl))
    refine Gl.step (B := (T6.setTop (mkF m 14 #[.val (.ref a1), .val (.ref a2), .val (.ref a3), .val vl, .val vr] []))) st6 ?_
    refine Gl.step (B := (T6.setTop (mkF m 16 #[.val (.ref a1), .val (.ref a2), .val (.ref a3), .val vl, .val vr] [vl, (.ref a1)]))) (fun t k => XS.aloadN X6.here hx rfl (hb hby d14_14) rfl rfl (XS.aloadN X6.here hx rfl (hb hby d14_15) rfl g_Ht_vl.isRef k)) ?_
    have f8 := (f4.wr W6)
    have f9 := ((pm3.other W2 (Or.inr (slot_ne (Or.inr (t83 hw)) (Or.inr (t79 hw)) (by decide) (t := (.object "com/example/isogloss/isogloss/util/PersistentMap$Node")) (t' := (.object "java/lang/String")) (by decide) (by decide)))).other W6 (Or.inr (slot_ne (Or.inr (t83 hw)) (Or.inr (t81 hw)) (by decide) (t := (.object "com/example/isogloss/isogloss/util/PersistentMap$Node")) (t' := (.object "java/lang/Object")) (by decide) (by decide))))
    obtain ⟨T10, h10, X10, e10, W10, st10⟩ := putF X6 hx hZ hown (host := "") (Or.inl (t82 hw)) Via.refl e6 f9 f8 (Or.inr ⟨(t83 hw), rfl, hnm⟩) (t72 hw) (ty := (.object "com/example/isogloss/isogloss/util/PersistentMap$Node")) (by decide) rfl (own_fits g_Ht_vl.isRef) (g := (mkF m 16 #[.val (.ref a1), .val (.ref a2), .val (.ref a3), .val vl, .val vr] [vl, (.ref a1)])) rfl rfl (hb hby d14_16)
    have Fw10 := f9.same W10
    have N10 := Fr.snoc X10 N6 pm6
    have O11 : Old Z n0 h10 := O7.wr W10 pm6
    have K11 : Keep h0 h10 [a1] := K7.wr W10 (Or.inl (List.mem_of_getElem? (i := 0) rfl))
    refine Gl.step (B := (T10.setTop (mkF m 19 #[.val (.ref a1), .val (.ref a2), .val (.ref a3), .val vl, .val vr] []))) st10 ?_
    refine Gl.step (B := (T10.setTop (mkF m 22 #[.val (.ref a1), .val (.ref a2), .val (.ref a3), .val vl, .val vr] [vr, (.ref a1)]))) (fun t k => XS.aloadN X10.here hx rfl (hb hby d14_19) rfl rfl (XS.aload X10.here hx rfl (hb hby d14_20) rfl g_Ht_vr.isRef k)) ?_
    have f12 := (f8.wr W10)
    have f13 := (((pm4.other W2 (Or.inr (slot_ne (Or.inr (t85 hw)) (Or.inr (t79 hw)) (by decide) (t := (.object "com/example/isogloss/isogloss/util/PersistentMap$Node")) (t' := (.object "java/lang/String")) (by decide) (by decide)))).other W6 (Or.inr (slot_ne (Or.inr (t85 hw)) (Or.inr (t81 hw)) (by decide) (t := (.object "com/example/isogloss/isogloss/util/PersistentMap$Node")) (t' := (.object "java/lang/Object")) (by decide) (by decide)))).other W10 (Or.inr (slot_ne (Or.inr (t85 hw)) (Or.inr (t83 hw)) (by decide) (t := (.object "com/example/isogloss/isogloss/util/PersistentMap$Node")) (t' := (.object "com/example/isogloss/isogloss/util/PersistentMap$Node")) (by decide) (by decide))))
    obtain ⟨T14, h14, X14, e14, W14, st14⟩ := putF X10 hx hZ hown (host := "") (Or.inl (t84 hw)) Via.refl e10 f13 f12 (Or.inr ⟨(t85 hw), rfl, hnm⟩) (t72 hw) (ty := (.object "com/example/isogloss/isogloss/util/PersistentMap$Node")) (by decide) rfl (own_fits g_Ht_vr.isRef) (g := (mkF m 22 #[.val (.ref a1), .val (.ref a2), .val (.ref a3), .val vl, .val vr] [vr, (.ref a1)])) rfl rfl (hb hby d14_22)
    have Fw14 := f13.same W14
    have N14 := Fr.snoc X14 N10 pm6
    have O15 : Old Z n0 h14 := O11.wr W14 pm6
    have K15 : Keep h0 h14 [a1] := K11.wr W14 (Or.inl (List.mem_of_getElem? (i := 0) rfl))
    refine Gl.step (B := (T14.setTop (mkF m 25 #[.val (.ref a1), .val (.ref a2), .val (.ref a3), .val vl, .val vr] []))) st14 ?_
    refine Gl.step (B := (T14.setTop (mkF m 28 #[.val (.ref a1), .val (.ref a2), .val (.ref a3), .val vl, .val vr] [vl, (.int (1 : Int32)), (.ref a1)]))) (fun t k => XS.aloadN X14.here hx rfl (hb hby d14_25) rfl rfl (XS.iconst X14.here hx rfl (hb hby d14_26) (XS.aloadN X14.here hx rfl (hb hby d14_27) rfl g_Ht_vl.isRef k))) ?_
    obtain ⟨_, _, ⟨T16, L16, c16, z16⟩, -, X16, ⟨Lc16, hQ16, l16, y16, zz16⟩, st16⟩ := callSN X14 hx (y := y3) hown (own_mvNM hZ (t86 hw)) (mvT hZ (t87 hw)) (mvT hZ (t36 hw)) (mvT hZ (t88 hw)) (by decide) (backOf (W := 2) (rhV l Z a0 hw [] vl nl h14 n0 O15 (g_Ht_vl.keepA K15 hl)) hZ (t88 hw) (t36 hw) (by decide) (by decide)) (g := (mkF m 28 #[.val (.ref a1), .val (.ref a2), .val (.ref a3), .val vl, .val vr] [vl, (.int (1 : Int32)), (.ref a1)])) rfl (by rw [hml]; rfl) (argsL := [vl]) (rest := [(.int (1 : Int32)), (.ref a1)]) (lenOf pd__Lcom_example_isogloss_isogloss_util_PersistentMap_Node__I rfl) rfl (by show 2 * 0 + _ ≤ _; exact Nat.le_of_eq rfl) (hb hby d14_28) (fun _ _ => ⟨rfl, e14, (by decide : 0 + 0 ≤ _), (by decide : 0 + 0 ≤ _)⟩)
    dsimp only [Pt.U, Pt.locs, Pt.cells, Pt.slots] at X16 l16 y16 zz16 st16 hQ16
    subst y16 zz16
    obtain ⟨rfl, N16q, eh16⟩ := hQ16
    have N16 : Fr n0 L16 := Eq.mpr (congrArg (Fr n0) l16) (Fr.app N14 N16q)
    refine Gl.tr (B := (T16.setTop (mkF m 31 #[.val (.ref a1), .val (.ref a2), .val (.ref a3), .val vl, .val vr] [(.int (Int32.ofNat nl)), (.int (1 : Int32)), (.ref a1)]))) st16 ?_
    refine Gl.step (B := (T16.setTop (mkF m 33 #[.val (.ref a1), .val (.ref a2), .val (.ref a3), .val vl, .val vr] [vr, (.int (Int32.ofNat nl)), (.int (1 : Int32)), (.ref a1)]))) (fun t k => XS.aload X16.here hx rfl (hb hby d14_31) rfl g_Ht_vr.isRef k) ?_
    obtain ⟨_, _, ⟨T17, L17, c17, z17⟩, -, X17, ⟨Lc17, hQ17, l17, y17, zz17⟩, st17⟩ := callSN X16 hx (y := y3) hown (own_mvNM hZ (t86 hw)) (mvT hZ (t87 hw)) (mvT hZ (t36 hw)) (mvT hZ (t88 hw)) (by decide) (backOf (W := 3) (rhV l Z a0 hw [] vr nr h14 n0 O15 (g_Ht_vr.keepA K15 hr)) hZ (t88 hw) (t36 hw) (by decide) (by decide)) (g := (mkF m 33 #[.val (.ref a1), .val (.ref a2), .val (.ref a3), .val vl, .val vr] [vr, (.int (Int32.ofNat nl)), (.int (1 : Int32)), (.ref a1)])) rfl (by rw [hml]; rfl) (argsL := [vr]) (rest := [(.int (Int32.ofNat nl)), (.int (1 : Int32)), (.ref a1)]) (lenOf pd__Lcom_example_isogloss_isogloss_util_PersistentMap_Node__I rfl) rfl (by show 2 * 0 + _ ≤ _; exact Nat.le_of_eq rfl) (hb hby d14_33) (fun _ _ => ⟨rfl, eh16, (by decide : 0 + 0 ≤ _), (by decide : 0 + 0 ≤ _)⟩)
    dsimp only [Pt.U, Pt.locs, Pt.cells, Pt.slots] at X17 l17 y17 zz17 st17 hQ17
    subst y17 zz17
    obtain ⟨rfl, N17q, eh17⟩ := hQ17
    have N17 : Fr n0 L17 := Eq.mpr (congrArg (Fr n0) l17) (Fr.app N16 N17q)
    refine Gl.tr (B := (T17.setTop (mkF m 36 #[.val (.ref a1), .val (.ref a2), .val (.ref a3), .val vl, .val vr] [(.int (Int32.ofNat nr)), (.int (Int32.ofNat nl)), (.int (1 : Int32)), (.ref a1)]))) st17 ?_
    obtain ⟨_, _, ⟨T18, L18, c18, z18⟩, -, X18, ⟨Lc18, hQ18, l18, y18, zz18⟩, st18⟩ := Jvm.LawKit.callS X17 hx (y := y1) hown (mvT hZ (t89 hw)) (mvT hZ (t90 hw)) (mvT hZ (t91 hw)) (mvT hZ (t92 hw)) (by decide) (backOf (W := 2) (rmax l Z a0 hw [] (Int32.ofNat nl) (Int32.ofNat nr) (Int32.ofNat (max nl nr)) h14 n0 O15 (own_max nl nr hbd.1 hbd.2)) hZ (t92 hw) (t91 hw) (by decide) (by decide)) (g := (mkF m 36 #[.val (.ref a1), .val (.ref a2), .val (.ref a3), .val vl, .val vr] [(.int (Int32.ofNat nr)), (.int (Int32.ofNat nl)), (.int (1 : Int32)), (.ref a1)])) rfl (by rw [hml]; rfl) (argsL := [(.int (Int32.ofNat nl)), (.int (Int32.ofNat nr))]) (rest := [(.int (1 : Int32)), (.ref a1)]) (lenOf pd__II_I rfl) rfl (by show 2 * 0 + _ ≤ _; exact Nat.le_of_eq rfl) (hb hby d14_36) (fun _ _ => ⟨rfl, eh17, (by decide : 0 + 0 ≤ _), (by decide : 0 + 0 ≤ _)⟩)
    dsimp only [Pt.U, Pt.locs, Pt.cells, Pt.slots] at X18 l18 y18 zz18 st18 hQ18
    subst y18 zz18
    obtain ⟨rfl, N18q, eh18⟩ := hQ18
    have N18 : Fr n0 L18 := Eq.mpr (congrArg (Fr n0) l18) (Fr.app N17 N18q)
    refine Gl.step (B := (T18.setTop (mkF m 39 #[.val (.ref a1), .val (.ref a2), .val (.ref a3), .val vl, .val vr] [(.int (Int32.ofNat (max nl nr))), (.int (1 : Int32)), (.ref a1)]))) st18 ?_
    refine Gl.step (B := (T18.setTop (mkF m 40 #[.val (.ref a1), .val (.ref a2), .val (.ref a3), .val vl, .val vr] [(.int ((1 : Int32) + (Int32.ofNat (max nl nr)))), (.ref a1)]))) (fun t k => XS.iadd X18.here hx rfl (hb hby d14_39) rfl k) ?_
    have f19 := (f12.wr W14)
    have f20 := ((((pm5.other W2 (Or.inr (slot_ne (Or.inr (t94 hw)) (Or.inr (t79 hw)) (by decide) (t := .int) (t' := (.object "java/lang/String")) (by decide) (by decide)))).other W6 (Or.inr (slot_ne (Or.inr (t94 hw)) (Or.inr (t81 hw)) (by decide) (t := .int) (t' := (.object "java/lang/Object")) (by decide) (by decide)))).other W10 (Or.inr (slot_ne (Or.inr (t94 hw)) (Or.inr (t83 hw)) (by decide) (t := .int) (t' := (.object "com/example/isogloss/isogloss/util/PersistentMap$Node")) (by decide) (by decide)))).other W14 (Or.inr (slot_ne (Or.inr (t94 hw)) (Or.inr (t85 hw)) (by decide) (t := .int) (t' := (.object "com/example/isogloss/isogloss/util/PersistentMap$Node")) (by decide) (by decide))))
    obtain ⟨T21, h21, X21, e21, W21, st21⟩ := putF X18 hx hZ hown (host := "") (Or.inl (t93 hw)) Via.refl eh18 f20 f19 (Or.inr ⟨(t94 hw), rfl, hnm⟩) (t72 hw) (ty := .int) (by decide) rfl rfl (g := (mkF m 40 #[.val (.ref a1), .val (.ref a2), .val (.ref a3), .val vl, .val vr] [(.int ((1 : Int32) + (Int32.ofNat (max nl nr)))), (.ref a1)])) rfl rfl (hb hby d14_40)
    have Fw21 := f20.same W21
    have N21 := Fr.snoc X21 N18 pm6
    have O22 : Old Z n0 h21 := O15.wr W21 pm6
    have K22 : Keep h0 h21 [a1] := K15.wr W21 (Or.inl (List.mem_of_getElem? (i := 0) rfl))
    refine Gl.step (B := (T21.setTop (mkF m 43 #[.val (.ref a1), .val (.ref a2), .val (.ref a3), .val vl, .val vr] []))) st21 ?_
    have hH : Fld Z h21 a1 own_ND "height" "I" (.int (Int32.ofNat (max nl nr + 1))) := by have z := Fw21; rw [own_suc] at z; exact z
    have f23 := (f19.wr W21)
    have f24 := ((((Fw2.other W6 (Or.inr (slot_ne (Or.inr (t79 hw)) (Or.inr (t81 hw)) (by decide) (t := (.object "java/lang/String")) (t' := (.object "java/lang/Object")) (by decide) (by decide)))).other W10 (Or.inr (slot_ne (Or.inr (t79 hw)) (Or.inr (t83 hw)) (by decide) (t := (.object "java/lang/String")) (t' := (.object "com/example/isogloss/isogloss/util/PersistentMap$Node")) (by decide) (by decide)))).other W14 (Or.inr (slot_ne (Or.inr (t79 hw)) (Or.inr (t85 hw)) (by decide) (t := (.object "java/lang/String")) (t' := (.object "com/example/isogloss/isogloss/util/PersistentMap$Node")) (by decide) (by decide)))).other W21 (Or.inr (slot_ne (Or.inr (t79 hw)) (Or.inr (t94 hw)) (by decide) (t := (.object "java/lang/String")) (t' := .int) (by decide) (by decide))))
    have f25 := (((Fw6.other W10 (Or.inr (slot_ne (Or.inr (t81 hw)) (Or.inr (t83 hw)) (by decide) (t := (.object "java/lang/Object")) (t' := (.object "com/example/isogloss/isogloss/util/PersistentMap$Node")) (by decide) (by decide)))).other W14 (Or.inr (slot_ne (Or.inr (t81 hw)) (Or.inr (t85 hw)) (by decide) (t := (.object "java/lang/Object")) (t' := (.object "com/example/isogloss/isogloss/util/PersistentMap$Node")) (by decide) (by decide)))).other W21 (Or.inr (slot_ne (Or.inr (t81 hw)) (Or.inr (t94 hw)) (by decide) (t := (.object "java/lang/Object")) (t' := .int) (by decide) (by decide))))
    have f26 := ((Fw10.other W14 (Or.inr (slot_ne (Or.inr (t83 hw)) (Or.inr (t85 hw)) (by decide) (t := (.object "com/example/isogloss/isogloss/util/PersistentMap$Node")) (t' := (.object "com/example/isogloss/isogloss/util/PersistentMap$Node")) (by decide) (by decide)))).other W21 (Or.inr (slot_ne (Or.inr (t83 hw)) (Or.inr (t94 hw)) (by decide) (t := (.object "com/example/isogloss/isogloss/util/PersistentMap$Node")) (t' := .int) (by decide) (by decide))))
    have f27 := (Fw14.other W21 (Or.inr (slot_ne (Or.inr (t85 hw)) (Or.inr (t94 hw)) (by decide) (t := (.object "com/example/isogloss/isogloss/util/PersistentMap$Node")) (t' := .int) (by decide) (by decide))))
    obtain ⟨fs, hr, hrun, hended, hW, hsame⟩ := X21.leave (v := none) (fun _ => rfl)
    refine ⟨_, _, ?_, hrun, hended, _, _, rfl, ?_, ⟨_, rfl⟩, hW, hsame.mono (by decide) (by decide)⟩
    · show Steps p.tables e below (T21.setTop (mkF m 43 #[.val (.ref a1), .val (.ref a2), .val (.ref a3), .val vl, .val vr] [])) _
      exact X21.returnOut hx Bd.returns (hb hby d14_43) hr
    · show Q_rnV Z a1 a2 a3 vl vr nl nr h0 n0 _ T21.heap _
      rw [e21]
      exact ⟨rfl, N21, K22, f23, f24, f25, f26, f27, hH⟩
  obtain ⟨s₂, o, g1, g2, g3, g4⟩ := go
  exact ⟨s₂, o, castTop (ef_rnV m a1 a2 a3 vl vr g_Ht_vl.isRef g_Ht_vr.isRef) g1, g2, g3, g4⟩
theorem ef_rkey (m : MethodId) (x0 : Int32) : entryFrame m #[(.int x0)] 2 = mkF m 0 #[.val (.int x0), .unset] [] := by first | (simp [entryFrame, mkF, argsToLocals, Value.category]; done) | rfl
theorem pn_com_example_isogloss_isogloss_util_PersistentMapIsMadeFromPinLaw : plainName "com/example/isogloss/isogloss/util/PersistentMapIsMadeFromPinLaw" = true := by first | (simp [plainName, overriddenIn]; done) | decide +kernel
abbrev y5 : MethodName := ⟨"com/example/isogloss/isogloss/util/PersistentMapIsMadeFromPinLaw", "key", "(I)Ljava/lang/String;"⟩
theorem d1_0 : decode method_3_code 0 = .ok (.iconst 1, 1) := by decide +kernel
theorem d1_1 : decode method_3_code 1 = .ok (.newarray .char, 2) := by decide +kernel
theorem d1_3 : decode method_3_code 3 = .ok (.astore_n 1, 1) := by decide +kernel
theorem d1_4 : decode method_3_code 4 = .ok (.aload_n 1, 1) := by decide +kernel
theorem d1_5 : decode method_3_code 5 = .ok (.iconst 0, 1) := by decide +kernel
theorem d1_6 : decode method_3_code 6 = .ok (.bipush 97, 2) := by decide +kernel
theorem d1_8 : decode method_3_code 8 = .ok (.iload_n 0, 1) := by decide +kernel
theorem d1_9 : decode method_3_code 9 = .ok (.iadd, 1) := by decide +kernel
theorem d1_10 : decode method_3_code 10 = .ok (.i2c, 1) := by decide +kernel
theorem d1_11 : decode method_3_code 11 = .ok (.castore, 1) := by decide +kernel
theorem d1_12 : decode method_3_code 12 = .ok (.new 35, 3) := by decide +kernel
theorem d1_15 : decode method_3_code 15 = .ok (.dup, 1) := by decide +kernel
theorem d1_16 : decode method_3_code 16 = .ok (.aload_n 1, 1) := by decide +kernel
theorem d1_17 : decode method_3_code 17 = .ok (.invokespecial 37, 3) := by decide +kernel
theorem pd___C_V : parseMethodDescriptor "([C)V" = some ⟨[(.array .char)], none⟩ := by decide +kernel
theorem d1_20 : decode method_3_code 20 = .ok (.areturn, 1) := by decide +kernel
def Q_rkey (Z : State) (p1 : Int32) (zc : Int32) (h0 : Heap) (n0 : Nat) (v : Option Value) (h : Heap) (L : List Loc) : Prop := ∃ b : Addr, v = some (.ref b) ∧ Fr n0 L ∧ Keep h0 h [] ∧ (h0.size ≤ b) ∧ (Str Z h b ((97 : Int32) + p1))
set_option maxRecDepth 65536 in
set_option maxHeartbeats 40000000 in
theorem rkey (l : Launch) (Z : State) (a0 : Array Value) (hw : ∀ d ∈ tables_1, d.before a0 Z = true) (ws : List Jvm.Cond) (p1 : Int32) (zc : Int32) (h0 : Heap) (n0 : Nat) (O0 : Old Z n0 h0) (pm0 : Sta Z Z.heap "java/lang/String" "COMPACT_STRINGS" "Z" (.int zc)) (hz : ¬ (zc = (0 : Int32))) (hc : p1 = 0 ∨ p1 = 1 ∨ p1 = 2 ∨ p1 = 3) :
    MetFree l y5 (head1 (Jvm.Cond.code y5 method_3_code 2 (some (.object "java/lang/String")) :: ws) ({ frames := 5, cells := 3, slots := 6, locals := 79 } : Room)) (fun a U => a = #[(.int p1)] ∧ Z.Warmed39 U.vm ∧ U.heap = h0) (fun _ _ _ _ _ => True) (fun _ U o U' => ∃ v L, o = .returned v ∧ Q_rkey Z p1 zc h0 n0 v U'.heap L ∧ FrameEnd U o U' L ({ frames := 5, cells := 3, slots := 6, locals := 79 } : Room).cells ({ frames := 5, cells := 3, slots := 6, locals := 79 } : Room).slots) := by
  refine MetFree.of_bodySF (plainFor_of_name pn_com_example_isogloss_isogloss_util_PersistentMapIsMadeFromPinLaw) hisR ?_
  intro p e s m args below meth c s₁ Bd hml0 hP hK
  obtain ⟨rfl, hZ, hh⟩ := hP
  have hx := Bd.exec
  have hby := Bd.bytes
  have hml : c.maxLocals = 2 := hml0
  have hown : s.vm.findClass "com/example/isogloss/isogloss/util/PersistentMapIsMadeFromPinLaw" = some m.cls := findClass_of_methodNamed Bd.named
  have hnm := (name_of_methodNamed Bd.named Bd.method).1
  have X0 : Stand p l e ({ frames := 5, cells := 3, slots := 6, locals := 79 } : Room) s m #[(.int p1)] below meth c s₁ [] 0 0 := Stand.of_body Bd
  have e0 : s₁.heap = h0 := by rw [← hh, Bd.state]; rfl
  have N0 := Fr.nil n0
  have K0 : Keep h0 h0 [] := Keep.refl h0 _
  have go : Gl p.tables e below (fun o U' => ∃ v L, o = .returned v ∧ Q_rkey Z p1 zc h0 n0 v U'.heap L ∧ FrameEnd s o U' L ({ frames := 5, cells := 3, slots := 6, locals := 79 } : Room).cells ({ frames := 5, cells := 3, slots := 6, locals := 79 } : Room).slots) (s₁.setTop (mkF m 0 #[.val (.int p1), .unset] [])) := by
    refine Gl.step (B := (s₁.setTop (mkF m 1 #[.val (.int p1), .unset] [(.int (1 : Int32))]))) (fun t k => XS.iconst X0.here hx rfl (hb hby d1_0) k) ?_
    obtain ⟨T1, h1, k1, X1, e1, E1, A1, st1⟩ := newP (aty := .char) X0 hx hZ (t4 hw) e0 (g := (mkF m 1 #[.val (.int p1), .unset] [(.int (1 : Int32))])) rfl (hb hby d1_1) rfl (by decide) (cap := 1) (by decide) (by decide) (by decide) (by decide)
    obtain ⟨b1, g1⟩ : ∃ z, z = h0.size := ⟨_, rfl⟩
    rw [← g1] at A1 st1
    have V1 : Arv Z h1 b1 k1 .char (1 : Int32) [(.int (0 : Int32))] (.int (0 : Int32)) := (Arv.new A1 (by decide)).pad (pad_rep [] (.int (0 : Int32)) 1)
    have ge_b1 : n0 ≤ b1 := Nat.le_trans (own_oz O0) (Nat.le_of_eq g1.symm)
    have sz_b1 : h0.size ≤ b1 := Nat.le_trans K0.1 (Nat.le_of_eq g1.symm)
    have O2 : Old Z n0 h1 := O0.ext E1
    have K2 : Keep h0 h1 [] := K0.ext E1
    refine Gl.step (B := (T1.setTop (mkF m 3 #[.val (.int p1), .unset] [(.ref b1)]))) st1 ?_
    refine Gl.step (B := (T1.setTop (mkF m 10 #[.val (.int p1), .val (.ref b1)] [(.int ((97 : Int32) + p1)), (.int (0 : Int32)), (.ref b1)]))) (fun t k => XS.astoreN X1.here hx rfl (hb hby d1_3) rfl rfl (l' := #[.val (.int p1), .val (.ref b1)]) rfl (XS.aloadN X1.here hx rfl (hb hby d1_4) rfl rfl (XS.iconst X1.here hx rfl (hb hby d1_5) (XS.bipush X1.here hx rfl (hb hby d1_6) (XS.iloadN X1.here hx rfl (hb hby d1_8) rfl (XS.iadd X1.here hx rfl (hb hby d1_9) rfl k)))))) ?_
    refine Gl.step (B := (T1.setTop (mkF m 11 #[.val (.int p1), .val (.ref b1)] [(.int (((97 : Int32) + p1).toUInt32.toUInt16.toUInt32.toInt32)), (.int (0 : Int32)), (.ref b1)]))) (fun t k => XS.i2c X1.here hx rfl (hb hby d1_10) rfl k) ?_
    obtain ⟨cl3, Ar3, q3, S3, M3, H3, G3⟩ := V1
    have hin3 : ¬ ((0 : Int32) < 0 ∨ cl3.slots.size ≤ ((0 : Int32)).toNatClampNeg) := inb_of S3 ⟨by decide, by decide⟩
    obtain ⟨T3, h3, X3, e3, W3, st3⟩ := stC X1 hx hZ e1 Ar3 (j := (0 : Int32)) hin3 (g := (mkF m 11 #[.val (.int p1), .val (.ref b1)] [(.int (((97 : Int32) + p1).toUInt32.toUInt16.toUInt32.toInt32)), (.int (0 : Int32)), (.ref b1)])) rfl rfl (hb hby d1_11)
    have V3 := Arv.set Ar3 q3 S3 M3 H3 G3 (fits_nar_char _) W3 0 rfl (Nat.le_of_ble_eq_true rfl)
    have N3 := Fr.snoc X3 N0 ge_b1
    have O4 : Old Z n0 h3 := O2.wr W3 ge_b1
    have K4 : Keep h0 h3 [] := K2.wr W3 (Or.inr sz_b1)
    refine Gl.step (B := (T3.setTop (mkF m 12 #[.val (.int p1), .val (.ref b1)] []))) st3 ?_
    obtain ⟨T5, h5, X5, e5, E5, A5, D5, -, st5⟩ := newO X3 hx hZ hown (t5 hw) (t6 hw) (t7 hw) e3 (g := (mkF m 12 #[.val (.int p1), .val (.ref b1)] [])) rfl (hb hby d1_12) (by decide) (by decide)
    obtain ⟨b5, g5⟩ : ∃ z, z = h3.size := ⟨_, rfl⟩
    rw [← g5] at A5 D5 st5
    have ge_b5 : n0 ≤ b5 := Nat.le_trans (own_oz O4) (Nat.le_of_eq g5.symm)
    have sz_b5 : h0.size ≤ b5 := Nat.le_trans K4.1 (Nat.le_of_eq g5.symm)
    have O6 : Old Z n0 h5 := O4.ext E5
    have K6 : Keep h0 h5 [] := K4.ext E5
    have F5_coder : Fld Z h5 b5 "java/lang/String" "coder" "B" (.int (0 : Int32)) := D5 (Or.inr (t31 hw)) (ty := .byte) (by decide)
    have F5_value : Fld Z h5 b5 "java/lang/String" "value" "[B" .null := D5 (Or.inr (t33 hw)) (ty := (.array .byte)) (by decide)
    refine Gl.step (B := (T5.setTop (mkF m 15 #[.val (.int p1), .val (.ref b1)] [(.ref b5)]))) st5 ?_
    refine Gl.step (B := (T5.setTop (mkF m 17 #[.val (.int p1), .val (.ref b1)] [(.ref b1), (.ref b5), (.ref b5)]))) (fun t k => XS.dup X5.here hx rfl (hb hby d1_15) rfl rfl (XS.aloadN X5.here hx rfl (hb hby d1_16) rfl rfl k)) ?_
    have hp : ∀ c ∈ ([nar .char (((97 : Int32) + p1).toUInt32.toUInt16.toUInt32.toInt32)] : List Int32), ¬ c < 0 ∧ ¬ (255 : Int32) < c := by
      intro c hc'
      simp only [List.mem_cons, List.not_mem_nil, or_false] at hc'
      subst hc'
      exact own_kch hc
    have f7 : Arv Z h5 b1 k1 .char (1 : Int32) [(.int (nar .char (((97 : Int32) + p1).toUInt32.toUInt16.toUInt32.toInt32)))] (.int (0 : Int32)) := (V3.ext E5)
    obtain ⟨_, _, ⟨T8, L8, c8, z8⟩, -, X8, ⟨Lc8, hQ8, l8, y8, zz8⟩, st8⟩ := X5.specialBack hx (y := (⟨"java/lang/String", "<init>", "([C)V"⟩ : MethodName)) rfl hown (mvT hZ (t8 hw)) (mvT hZ (t9 hw)) (mvT hZ (t10 hw)) (by decide) (StrChars.Road.backV (W := 1) hZ (own_hws hw) (kI := 4) (t6 hw) (cs := ([nar .char (((97 : Int32) + p1).toUInt32.toUInt16.toUInt32.toInt32)] : List Int32)) (bs := (([nar .char (((97 : Int32) + p1).toUInt32.toUInt16.toUInt32.toInt32)] : List Int32)).map (fun c => c.toInt8.toInt32)) (n := 1) ge_b5 (own_oz O6) A5 F5_value F5_coder f7 (pm0.ext O6.2) hz rfl rfl (by decide) (by decide) hp rfl (by decide) (by decide)) (g := (mkF m 17 #[.val (.int p1), .val (.ref b1)] [(.ref b1), (.ref b5), (.ref b5)])) rfl (by rw [hml]; rfl) (Steps.refl _) (a := b5) (argsL := [(.ref b1)]) (rest := [(.ref b5)]) (lenOf pd___C_V rfl) rfl (by show 2 * 0 + _ ≤ _; exact Nat.le_of_eq rfl) (hb hby d1_17) (fun _ _ => ⟨rfl, e5, (by decide : 2 + 1 ≤ _), (by decide : 5 + 1 ≤ _)⟩)
    dsimp only [Pt.U, Pt.locs, Pt.cells, Pt.slots] at X8 l8 y8 zz8 st8 hQ8
    subst y8 zz8
    obtain ⟨rfl, N8q, Kc8, rE8, rC8, t8, kb8, ge_t8, bo_t8, ne_t8, rV8, rA8⟩ := hQ8
    have N8 : Fr n0 L8 := Eq.mpr (congrArg (Fr n0) l8) (Fr.app N3 N8q)
    have sz_t8 : h0.size ≤ t8 := Nat.le_trans K6.1 bo_t8
    have O9 : Old Z n0 T8.heap := O6.keep Kc8 (allS ge_b5 all0)
    have K9 : Keep h0 T8.heap [] := K6.trans Kc8 (allS (Or.inr sz_b5) all0)
    refine Gl.tr (B := (T8.setTop (mkF m 20 #[.val (.int p1), .val (.ref b1)] [(.ref b5)]))) st8 ?_
    have hA : Arv Z T8.heap t8 kb8 .byte (1 : Int32) [.int ((97 : Int32) + p1)] (.int 0) := by have z := rA8; simp only [List.map] at z; rw [own_kb hc] at z; exact z
    obtain ⟨fs, hr, hrun, hended, hW, hsame⟩ := X8.leave (v := some (.ref b5)) (fun h => by rw [Bd.returns] at h; cases h)
    refine ⟨_, _, ?_, hrun, hended, _, _, rfl, ?_, ⟨_, rfl⟩, hW, hsame.mono (by decide) (by decide)⟩
    · show Steps p.tables e below (T8.setTop (mkF m 20 #[.val (.int p1), .val (.ref b1)] [(.ref b5)])) _
      jvm_step X8.here [X8.here.top, hx, (hb hby d1_20), X8.method', Bd.returns, Value.isRef, FieldType.isReference]
      first | (intro acts; rw [hr _ acts rfl rfl rfl]) | rw [hr _ _ rfl rfl rfl]
      exact Steps.refl _
    · show Q_rkey Z p1 zc h0 n0 _ T8.heap _
      exact ⟨b5, rfl, N8, K9, sz_b5, ⟨rE8, rC8, t8, kb8, rV8, hA⟩⟩
  obtain ⟨s₂, o, g1, g2, g3, g4⟩ := go
  exact ⟨s₂, o, castTop (ef_rkey m p1) g1, g2, g3, g4⟩
theorem ef_rcod (m : MethodId) (x0 : Addr) : entryFrame m #[(.ref x0)] 1 = mkF m 0 #[.val (.ref x0)] [] := by first | (simp [entryFrame, mkF, argsToLocals, Value.category]; done) | rfl
theorem pn_java_lang_String : plainName "java/lang/String" = true := by first | (simp [plainName, overriddenIn]; done) | decide +kernel
abbrev y6 : MethodName := ⟨"java/lang/String", "coder", "()B"⟩
theorem d18_0 : decode jdk_42_method_152_code 0 = .ok (.getstatic 38, 3) := by decide +kernel
theorem d18_3 : decode jdk_42_method_152_code 3 = .ok (.ifCond .eq 10, 3) := by decide +kernel
theorem d18_6 : decode jdk_42_method_152_code 6 = .ok (.aload_n 0, 1) := by decide +kernel
theorem d18_7 : decode jdk_42_method_152_code 7 = .ok (.getfield 15, 3) := by decide +kernel
theorem d18_10 : decode jdk_42_method_152_code 10 = .ok (.goto 4, 3) := by decide +kernel
theorem d18_14 : decode jdk_42_method_152_code 14 = .ok (.ireturn, 1) := by decide +kernel
def Q_rcod (Z : State) (a1 : Addr) (zc : Int32) (h0 : Heap) (n0 : Nat) (v : Option Value) (h : Heap) (L : List Loc) : Prop := v = some (.int (0 : Int32)) ∧ Fr n0 L ∧ h = h0
set_option maxRecDepth 65536 in
set_option maxHeartbeats 40000000 in
theorem rcod (l : Launch) (Z : State) (a0 : Array Value) (hw : ∀ d ∈ tables_1, d.before a0 Z = true) (ws : List Jvm.Cond) (a1 : Addr) (zc : Int32) (h0 : Heap) (n0 : Nat) (O0 : Old Z n0 h0) (pm0 : Sta Z Z.heap "java/lang/String" "COMPACT_STRINGS" "Z" (.int zc)) (hz : ¬ (zc = (0 : Int32))) (pm2 : Fld Z h0 a1 "java/lang/String" "coder" "B" (.int (0 : Int32))) :
    MetFree l y6 (head1 (Jvm.Cond.code y6 jdk_42_method_152_code 1 (some .byte) :: ws) ({ frames := 0, cells := 0, slots := 0, locals := 0 } : Room)) (fun a U => a = #[(.ref a1)] ∧ Z.Warmed39 U.vm ∧ U.heap = h0) (fun _ _ _ _ _ => True) (fun _ U o U' => ∃ v L, o = .returned v ∧ Q_rcod Z a1 zc h0 n0 v U'.heap L ∧ FrameEnd U o U' L ({ frames := 0, cells := 0, slots := 0, locals := 0 } : Room).cells ({ frames := 0, cells := 0, slots := 0, locals := 0 } : Room).slots) := by
  refine MetFree.of_bodySF (plainFor_of_name pn_java_lang_String) hisR ?_
  intro p e s m args below meth c s₁ Bd hml0 hP hK
  obtain ⟨rfl, hZ, hh⟩ := hP
  have hx := Bd.exec
  have hby := Bd.bytes
  have hml : c.maxLocals = 1 := hml0
  have hown : s.vm.findClass "java/lang/String" = some m.cls := findClass_of_methodNamed Bd.named
  have hnm := (name_of_methodNamed Bd.named Bd.method).1
  have X0 : Stand p l e ({ frames := 0, cells := 0, slots := 0, locals := 0 } : Room) s m #[(.ref a1)] below meth c s₁ [] 0 0 := Stand.of_body Bd
  have e0 : s₁.heap = h0 := by rw [← hh, Bd.state]; rfl
  have N0 := Fr.nil n0
  have K0 : Keep h0 h0 [] := Keep.refl h0 _
  have go : Gl p.tables e below (fun o U' => ∃ v L, o = .returned v ∧ Q_rcod Z a1 zc h0 n0 v U'.heap L ∧ FrameEnd s o U' L ({ frames := 0, cells := 0, slots := 0, locals := 0 } : Room).cells ({ frames := 0, cells := 0, slots := 0, locals := 0 } : Room).slots) (s₁.setTop (mkF m 0 #[.val (.ref a1)] [])) := by
    obtain ⟨T1, X1, e1, st1⟩ := getS2 X0 hx hZ hown (host := "") (Or.inl (t18 hw)) Via.refl e0 (pm0.ext O0.2) (g := (mkF m 0 #[.val (.ref a1)] [])) rfl (hb hby d18_0)
    refine Gl.step (B := (T1.setTop (mkF m 3 #[.val (.ref a1)] [(.int zc)]))) st1 ?_
    refine Gl.step (B := (T1.setTop (mkF m 7 #[.val (.ref a1)] [(.ref a1)]))) (fun t k => XS.ifNo X1.here hx rfl (hb hby d18_3) rfl ((if0 _ _).trans (feq (hz : ¬ (zc = (0 : Int32)))).1) (XS.aloadN X1.here hx rfl (hb hby d18_6) rfl rfl k)) ?_
    obtain ⟨T2, X2, e2, st2⟩ := getF X1 hx hZ hown (host := "") (Or.inl (t30 hw)) Via.refl e1 pm2 (g := (mkF m 7 #[.val (.ref a1)] [(.ref a1)])) rfl rfl (hb hby d18_7)
    refine Gl.step (B := (T2.setTop (mkF m 10 #[.val (.ref a1)] [(.int (0 : Int32))]))) st2 ?_
    refine Gl.step (B := (T2.setTop (mkF m 14 #[.val (.ref a1)] [(.int (0 : Int32))]))) (fun t k => XS.goto X2.here hx rfl (pc0 := 10) (pc' := 14) rfl (hb hby d18_10) (by decide) (by decide) k) ?_
    obtain ⟨fs, hr, hrun, hended, hW, hsame⟩ := X2.leave (v := some (.int (0 : Int32))) (fun h => by rw [Bd.returns] at h; cases h)
    refine ⟨_, _, ?_, hrun, hended, _, _, rfl, ?_, ⟨_, rfl⟩, hW, hsame.mono (by decide) (by decide)⟩
    · show Steps p.tables e below (T2.setTop (mkF m 14 #[.val (.ref a1)] [(.int (0 : Int32))])) _
      exact retN X2 hx (t := .byte) Bd.returns (by simp) (hb hby d18_14) hr
    · show Q_rcod Z a1 zc h0 n0 _ T2.heap _
      rw [e2]
      exact ⟨rfl, N0, rfl⟩
  obtain ⟨s₂, o, g1, g2, g3, g4⟩ := go
  exact ⟨s₂, o, castTop (ef_rcod m a1) g1, g2, g3, g4⟩
theorem ef_rmis (m : MethodId) (x0 : Addr) (x1 : Addr) (x2 : Int32) : entryFrame m #[(.ref x0), (.ref x1), (.int x2)] 4 = mkF m 0 #[.val (.ref x0), .val (.ref x1), .val (.int x2), .unset] [] := by first | (simp [entryFrame, mkF, argsToLocals, Value.category]; done) | rfl
theorem pn_jdk_internal_util_ArraysSupport : plainName "jdk/internal/util/ArraysSupport" = true := by first | (simp [plainName, overriddenIn]; done) | decide +kernel
abbrev y7 : MethodName := ⟨"jdk/internal/util/ArraysSupport", "mismatch", "([B[BI)I"⟩
theorem d22_0 : decode jdk_48_method_13_code 0 = .ok (.iconst 0, 1) := by decide +kernel
theorem d22_1 : decode jdk_48_method_13_code 1 = .ok (.istore_n 3, 1) := by decide +kernel
theorem d22_2 : decode jdk_48_method_13_code 2 = .ok (.iload_n 2, 1) := by decide +kernel
theorem d22_3 : decode jdk_48_method_13_code 3 = .ok (.bipush 7, 2) := by decide +kernel
theorem d22_5 : decode jdk_48_method_13_code 5 = .ok (.if_icmp .le 44, 3) := by decide +kernel
theorem d22_49 : decode jdk_48_method_13_code 49 = .ok (.iload_n 3, 1) := by decide +kernel
theorem d22_50 : decode jdk_48_method_13_code 50 = .ok (.iload_n 2, 1) := by decide +kernel
theorem d22_51 : decode jdk_48_method_13_code 51 = .ok (.if_icmp .ge 20, 3) := by decide +kernel
theorem d22_54 : decode jdk_48_method_13_code 54 = .ok (.aload_n 0, 1) := by decide +kernel
theorem d22_55 : decode jdk_48_method_13_code 55 = .ok (.iload_n 3, 1) := by decide +kernel
theorem d22_56 : decode jdk_48_method_13_code 56 = .ok (.baload, 1) := by decide +kernel
theorem d22_57 : decode jdk_48_method_13_code 57 = .ok (.aload_n 1, 1) := by decide +kernel
theorem d22_58 : decode jdk_48_method_13_code 58 = .ok (.iload_n 3, 1) := by decide +kernel
theorem d22_59 : decode jdk_48_method_13_code 59 = .ok (.baload, 1) := by decide +kernel
theorem d22_60 : decode jdk_48_method_13_code 60 = .ok (.if_icmp .eq 5, 3) := by decide +kernel
theorem d22_65 : decode jdk_48_method_13_code 65 = .ok (.iinc 3 1, 3) := by decide +kernel
theorem d22_68 : decode jdk_48_method_13_code 68 = .ok (.goto (-19), 3) := by decide +kernel
theorem d22_71 : decode jdk_48_method_13_code 71 = .ok (.iconst (-1), 1) := by decide +kernel
theorem d22_72 : decode jdk_48_method_13_code 72 = .ok (.ireturn, 1) := by decide +kernel
theorem d22_63 : decode jdk_48_method_13_code 63 = .ok (.iload_n 3, 1) := by decide +kernel
theorem d22_64 : decode jdk_48_method_13_code 64 = .ok (.ireturn, 1) := by decide +kernel
def Q_rmis (Z : State) (a1 : Addr) (a2 : Addr) (k1 : ClassId) (k2 : ClassId) (x : Int32) (y : Int32) (r : Int32) (h0 : Heap) (n0 : Nat) (v : Option Value) (h : Heap) (L : List Loc) : Prop := v = some (.int r) ∧ Fr n0 L ∧ h = h0
set_option maxRecDepth 65536 in
set_option maxHeartbeats 40000000 in
theorem rmis (l : Launch) (Z : State) (a0 : Array Value) (hw : ∀ d ∈ tables_1, d.before a0 Z = true) (ws : List Jvm.Cond) (a1 : Addr) (a2 : Addr) (k1 : ClassId) (k2 : ClassId) (x : Int32) (y : Int32) (r : Int32) (h0 : Heap) (n0 : Nat) (O0 : Old Z n0 h0) (pm0 : Arv Z h0 a1 k1 .byte (1 : Int32) [.int x] (.int 0)) (pm1 : Arv Z h0 a2 k2 .byte (1 : Int32) [.int y] (.int 0)) (hr : (x = y ∧ r = -1) ∨ (¬ (x = y) ∧ r = 0)) :
    MetFree l y7 (head1 (Jvm.Cond.code y7 jdk_48_method_13_code 4 (some .int) :: ws) ({ frames := 0, cells := 0, slots := 0, locals := 0 } : Room)) (fun a U => a = #[(.ref a1), (.ref a2), (.int (1 : Int32))] ∧ Z.Warmed39 U.vm ∧ U.heap = h0) (fun _ _ _ _ _ => True) (fun _ U o U' => ∃ v L, o = .returned v ∧ Q_rmis Z a1 a2 k1 k2 x y r h0 n0 v U'.heap L ∧ FrameEnd U o U' L ({ frames := 0, cells := 0, slots := 0, locals := 0 } : Room).cells ({ frames := 0, cells := 0, slots := 0, locals := 0 } : Room).slots) := by
  refine MetFree.of_bodySF (plainFor_of_name pn_jdk_internal_util_ArraysSupport) hisR ?_
  intro p e s m args below meth c s₁ Bd hml0 hP hK
  obtain ⟨rfl, hZ, hh⟩ := hP
  have hx := Bd.exec
  have hby := Bd.bytes
  have hml : c.maxLocals = 4 := hml0
  have hown : s.vm.findClass "jdk/internal/util/ArraysSupport" = some m.cls := findClass_of_methodNamed Bd.named
  have hnm := (name_of_methodNamed Bd.named Bd.method).1
  have X0 : Stand p l e ({ frames := 0, cells := 0, slots := 0, locals := 0 } : Room) s m #[(.ref a1), (.ref a2), (.int (1 : Int32))] below meth c s₁ [] 0 0 := Stand.of_body Bd
  have e0 : s₁.heap = h0 := by rw [← hh, Bd.state]; rfl
  have N0 := Fr.nil n0
  have K0 : Keep h0 h0 [] := Keep.refl h0 _
  have go : Gl p.tables e below (fun o U' => ∃ v L, o = .returned v ∧ Q_rmis Z a1 a2 k1 k2 x y r h0 n0 v U'.heap L ∧ FrameEnd s o U' L ({ frames := 0, cells := 0, slots := 0, locals := 0 } : Room).cells ({ frames := 0, cells := 0, slots := 0, locals := 0 } : Room).slots) (s₁.setTop (mkF m 0 #[.val (.ref a1), .val (.ref a2), .val (.int (1 : Int32)), .unset] [])) := by
    refine Gl.step (B := (s₁.setTop (mkF m 50 #[.val (.ref a1), .val (.ref a2), .val (.int (1 : Int32)), .val (.int (0 : Int32))] [(.int (0 : Int32))]))) (fun t k => XS.iconst X0.here hx rfl (hb hby d22_0) (XS.istoreN X0.here hx rfl (hb hby d22_1) rfl (l' := #[.val (.ref a1), .val (.ref a2), .val (.int (1 : Int32)), .val (.int (0 : Int32))]) rfl (XS.iloadN X0.here hx rfl (hb hby d22_2) rfl (XS.bipush X0.here hx rfl (hb hby d22_3) (XS.icmpYes X0.here hx rfl (pc0 := 5) (pc' := 49) rfl (hb hby d22_5) rfl (flt (by decide : ¬ ((7 : Int32) < (1 : Int32)))).2.2.2 (by decide) (by decide) (XS.iloadN X0.here hx rfl (hb hby d22_49) rfl k)))))) ?_
    refine Gl.step (B := (s₁.setTop (mkF m 56 #[.val (.ref a1), .val (.ref a2), .val (.int (1 : Int32)), .val (.int (0 : Int32))] [(.int (0 : Int32)), (.ref a1)]))) (fun t k => XS.iloadN X0.here hx rfl (hb hby d22_50) rfl (XS.icmpNo X0.here hx rfl (hb hby d22_51) rfl (tlt (by decide : (0 : Int32) < (1 : Int32))).2.1 (XS.aloadN X0.here hx rfl (hb hby d22_54) rfl rfl (XS.iloadN X0.here hx rfl (hb hby d22_55) rfl k)))) ?_
    obtain ⟨cl1, Ar1, q1, S1, M1, H1, G1⟩ := id pm0
    have hin1 : ¬ ((0 : Int32) < 0 ∨ cl1.slots.size ≤ ((0 : Int32)).toNatClampNeg) := inb_of S1 ⟨by decide, by decide⟩
    have hat1 : cl1.slots[((0 : Int32)).toNatClampNeg]? = some (.int x) := Has.at H1 hin1 rfl
    refine Gl.step (B := (s₁.setTop (mkF m 59 #[.val (.ref a1), .val (.ref a2), .val (.int (1 : Int32)), .val (.int (0 : Int32))] [(.int (0 : Int32)), (.ref a2), (.int x)]))) (fun t k => X0.baloadBytes hx (j := (0 : Int32)) (v := (.int x)) (by rw [e0]; exact Ar1.1) (State.isArrayOf_alike hZ.alike Ar1.2.1) Ar1.2.2 hin1 hat1 (g := (mkF m 56 #[.val (.ref a1), .val (.ref a2), .val (.int (1 : Int32)), .val (.int (0 : Int32))] [(.int (0 : Int32)), (.ref a1)])) rfl rfl (hb hby d22_56) _ (XS.aloadN X0.here hx rfl (hb hby d22_57) rfl rfl (XS.iloadN X0.here hx rfl (hb hby d22_58) rfl k))) ?_
    obtain ⟨cl2, Ar2, q2, S2, M2, H2, G2⟩ := id pm1
    have hin2 : ¬ ((0 : Int32) < 0 ∨ cl2.slots.size ≤ ((0 : Int32)).toNatClampNeg) := inb_of S2 ⟨by decide, by decide⟩
    have hat2 : cl2.slots[((0 : Int32)).toNatClampNeg]? = some (.int y) := Has.at H2 hin2 rfl
    refine Gl.step (B := (s₁.setTop (mkF m 60 #[.val (.ref a1), .val (.ref a2), .val (.int (1 : Int32)), .val (.int (0 : Int32))] [(.int y), (.int x)]))) (fun t k => X0.baloadBytes hx (j := (0 : Int32)) (v := (.int y)) (by rw [e0]; exact Ar2.1) (State.isArrayOf_alike hZ.alike Ar2.2.1) Ar2.2.2 hin2 hat2 (g := (mkF m 59 #[.val (.ref a1), .val (.ref a2), .val (.int (1 : Int32)), .val (.int (0 : Int32))] [(.int (0 : Int32)), (.ref a2), (.int x)])) rfl rfl (hb hby d22_59) _ k) ?_
    rcases hr with ⟨q, qr⟩ | ⟨q, qr⟩
    · skip
      refine Gl.step (B := (s₁.setTop (mkF m 71 #[.val (.ref a1), .val (.ref a2), .val (.int (1 : Int32)), .val (.int ((0 : Int32) + (1 : Int32)))] []))) (fun t k => XS.icmpYes X0.here hx rfl (pc0 := 60) (pc' := 65) rfl (hb hby d22_60) rfl (teq (q : x = y)).1 (by decide) (by decide) (XS.iinc X0.here hx rfl (hb hby d22_65) rfl (l' := #[.val (.ref a1), .val (.ref a2), .val (.int (1 : Int32)), .val (.int ((0 : Int32) + (1 : Int32)))]) rfl (XS.goto X0.here hx rfl (pc0 := 68) (pc' := 49) rfl (hb hby d22_68) (by decide) (by decide) (XS.iloadN X0.here hx rfl (hb hby d22_49) rfl (XS.iloadN X0.here hx rfl (hb hby d22_50) rfl (XS.icmpYes X0.here hx rfl (pc0 := 51) (pc' := 71) rfl (hb hby d22_51) rfl (flt (by decide : ¬ (((0 : Int32) + (1 : Int32)) < (1 : Int32)))).2.1 (by decide) (by decide) k)))))) ?_
      refine Gl.step (B := (s₁.setTop (mkF m 72 #[.val (.ref a1), .val (.ref a2), .val (.int (1 : Int32)), .val (.int ((0 : Int32) + (1 : Int32)))] [(.int (-1 : Int32))]))) (fun t k => XS.iconst X0.here hx rfl (hb hby d22_71) k) ?_
      obtain ⟨fs, hr, hrun, hended, hW, hsame⟩ := X0.leave (v := some (.int (-1 : Int32))) (fun h => by rw [Bd.returns] at h; cases h)
      refine ⟨_, _, ?_, hrun, hended, _, _, rfl, ?_, ⟨_, rfl⟩, hW, hsame.mono (by decide) (by decide)⟩
      · show Steps p.tables e below (s₁.setTop (mkF m 72 #[.val (.ref a1), .val (.ref a2), .val (.int (1 : Int32)), .val (.int ((0 : Int32) + (1 : Int32)))] [(.int (-1 : Int32))])) _
        exact retI X0 hx Bd.returns (hb hby d22_72) hr
      · show Q_rmis Z a1 a2 k1 k2 x y r h0 n0 _ s₁.heap _
        rw [e0]
        exact ⟨(by rw [qr]), N0, rfl⟩
    · skip
      refine Gl.step (B := (s₁.setTop (mkF m 64 #[.val (.ref a1), .val (.ref a2), .val (.int (1 : Int32)), .val (.int (0 : Int32))] [(.int (0 : Int32))]))) (fun t k => XS.icmpNo X0.here hx rfl (hb hby d22_60) rfl (feq (q : ¬ (x = y))).1 (XS.iloadN X0.here hx rfl (hb hby d22_63) rfl k)) ?_
      obtain ⟨fs, hr, hrun, hended, hW, hsame⟩ := X0.leave (v := some (.int (0 : Int32))) (fun h => by rw [Bd.returns] at h; cases h)
      refine ⟨_, _, ?_, hrun, hended, _, _, rfl, ?_, ⟨_, rfl⟩, hW, hsame.mono (by decide) (by decide)⟩
      · show Steps p.tables e below (s₁.setTop (mkF m 64 #[.val (.ref a1), .val (.ref a2), .val (.int (1 : Int32)), .val (.int (0 : Int32))] [(.int (0 : Int32))])) _
        exact retI X0 hx Bd.returns (hb hby d22_64) hr
      · show Q_rmis Z a1 a2 k1 k2 x y r h0 n0 _ s₁.heap _
        rw [e0]
        exact ⟨(by rw [qr]), N0, rfl⟩
  obtain ⟨s₂, o, g1, g2, g3, g4⟩ := go
  exact ⟨s₂, o, castTop (ef_rmis m a1 a2 (1 : Int32)) g1, g2, g3, g4⟩
theorem ef_rgch (m : MethodId) (x0 : Addr) (x1 : Int32) : entryFrame m #[(.ref x0), (.int x1)] 2 = mkF m 0 #[.val (.ref x0), .val (.int x1)] [] := by first | (simp [entryFrame, mkF, argsToLocals, Value.category]; done) | rfl
theorem pn_java_lang_StringLatin1 : plainName "java/lang/StringLatin1" = true := by first | (simp [plainName, overriddenIn]; done) | decide +kernel
abbrev y8 : MethodName := ⟨"java/lang/StringLatin1", "getChar", "([BI)C"⟩
theorem d25_0 : decode jdk_43_method_44_code 0 = .ok (.aload_n 0, 1) := by decide +kernel
theorem d25_1 : decode jdk_43_method_44_code 1 = .ok (.iload_n 1, 1) := by decide +kernel
theorem d25_2 : decode jdk_43_method_44_code 2 = .ok (.baload, 1) := by decide +kernel
theorem d25_3 : decode jdk_43_method_44_code 3 = .ok (.sipush 255, 3) := by decide +kernel
theorem d25_6 : decode jdk_43_method_44_code 6 = .ok (.iand, 1) := by decide +kernel
theorem d25_7 : decode jdk_43_method_44_code 7 = .ok (.i2c, 1) := by decide +kernel
theorem d25_8 : decode jdk_43_method_44_code 8 = .ok (.ireturn, 1) := by decide +kernel
def Q_rgch (Z : State) (a1 : Addr) (k1 : ClassId) (x : Int32) (h0 : Heap) (n0 : Nat) (v : Option Value) (h : Heap) (L : List Loc) : Prop := v = some (.int (nar .char ((x &&& (255 : Int32)).toUInt32.toUInt16.toUInt32.toInt32))) ∧ Fr n0 L ∧ h = h0
set_option maxRecDepth 65536 in
set_option maxHeartbeats 40000000 in
theorem rgch (l : Launch) (Z : State) (a0 : Array Value) (hw : ∀ d ∈ tables_1, d.before a0 Z = true) (ws : List Jvm.Cond) (a1 : Addr) (k1 : ClassId) (x : Int32) (h0 : Heap) (n0 : Nat) (O0 : Old Z n0 h0) (pm0 : Arv Z h0 a1 k1 .byte (1 : Int32) [.int x] (.int 0)) :
    MetFree l y8 (head1 (Jvm.Cond.code y8 jdk_43_method_44_code 2 (some .char) :: ws) ({ frames := 0, cells := 0, slots := 0, locals := 0 } : Room)) (fun a U => a = #[(.ref a1), (.int (0 : Int32))] ∧ Z.Warmed39 U.vm ∧ U.heap = h0) (fun _ _ _ _ _ => True) (fun _ U o U' => ∃ v L, o = .returned v ∧ Q_rgch Z a1 k1 x h0 n0 v U'.heap L ∧ FrameEnd U o U' L ({ frames := 0, cells := 0, slots := 0, locals := 0 } : Room).cells ({ frames := 0, cells := 0, slots := 0, locals := 0 } : Room).slots) := by
  refine MetFree.of_bodySF (plainFor_of_name pn_java_lang_StringLatin1) hisR ?_
  intro p e s m args below meth c s₁ Bd hml0 hP hK
  obtain ⟨rfl, hZ, hh⟩ := hP
  have hx := Bd.exec
  have hby := Bd.bytes
  have hml : c.maxLocals = 2 := hml0
  have hown : s.vm.findClass "java/lang/StringLatin1" = some m.cls := findClass_of_methodNamed Bd.named
  have hnm := (name_of_methodNamed Bd.named Bd.method).1
  have X0 : Stand p l e ({ frames := 0, cells := 0, slots := 0, locals := 0 } : Room) s m #[(.ref a1), (.int (0 : Int32))] below meth c s₁ [] 0 0 := Stand.of_body Bd
  have e0 : s₁.heap = h0 := by rw [← hh, Bd.state]; rfl
  have N0 := Fr.nil n0
  have K0 : Keep h0 h0 [] := Keep.refl h0 _
  have go : Gl p.tables e below (fun o U' => ∃ v L, o = .returned v ∧ Q_rgch Z a1 k1 x h0 n0 v U'.heap L ∧ FrameEnd s o U' L ({ frames := 0, cells := 0, slots := 0, locals := 0 } : Room).cells ({ frames := 0, cells := 0, slots := 0, locals := 0 } : Room).slots) (s₁.setTop (mkF m 0 #[.val (.ref a1), .val (.int (0 : Int32))] [])) := by
    refine Gl.step (B := (s₁.setTop (mkF m 2 #[.val (.ref a1), .val (.int (0 : Int32))] [(.int (0 : Int32)), (.ref a1)]))) (fun t k => XS.aloadN X0.here hx rfl (hb hby d25_0) rfl rfl (XS.iloadN X0.here hx rfl (hb hby d25_1) rfl k)) ?_
    obtain ⟨cl1, Ar1, q1, S1, M1, H1, G1⟩ := id pm0
    have hin1 : ¬ ((0 : Int32) < 0 ∨ cl1.slots.size ≤ ((0 : Int32)).toNatClampNeg) := inb_of S1 ⟨by decide, by decide⟩
    have hat1 : cl1.slots[((0 : Int32)).toNatClampNeg]? = some (.int x) := Has.at H1 hin1 rfl
    refine Gl.step (B := (s₁.setTop (mkF m 8 #[.val (.ref a1), .val (.int (0 : Int32))] [(.int ((x &&& (255 : Int32)).toUInt32.toUInt16.toUInt32.toInt32))]))) (fun t k => X0.baloadBytes hx (j := (0 : Int32)) (v := (.int x)) (by rw [e0]; exact Ar1.1) (State.isArrayOf_alike hZ.alike Ar1.2.1) Ar1.2.2 hin1 hat1 (g := (mkF m 2 #[.val (.ref a1), .val (.int (0 : Int32))] [(.int (0 : Int32)), (.ref a1)])) rfl rfl (hb hby d25_2) _ (XS.sipush X0.here hx rfl (hb hby d25_3) (XS.iand X0.here hx rfl (hb hby d25_6) rfl (XS.i2c X0.here hx rfl (hb hby d25_7) rfl k)))) ?_
    obtain ⟨fs, hr, hrun, hended, hW, hsame⟩ := X0.leave (v := some (.int (nar .char ((x &&& (255 : Int32)).toUInt32.toUInt16.toUInt32.toInt32)))) (fun h => by rw [Bd.returns] at h; cases h)
    refine ⟨_, _, ?_, hrun, hended, _, _, rfl, ?_, ⟨_, rfl⟩, hW, hsame.mono (by decide) (by decide)⟩
    · show Steps p.tables e below (s₁.setTop (mkF m 8 #[.val (.ref a1), .val (.int (0 : Int32))] [(.int ((x &&& (255 : Int32)).toUInt32.toUInt16.toUInt32.toInt32))])) _
      exact retN X0 hx (t := .char) Bd.returns (by simp) (hb hby d25_8) hr
    · show Q_rgch Z a1 k1 x h0 n0 _ s₁.heap _
      rw [e0]
      exact ⟨rfl, N0, rfl⟩
  obtain ⟨s₂, o, g1, g2, g3, g4⟩ := go
  exact ⟨s₂, o, castTop (ef_rgch m a1 (0 : Int32)) g1, g2, g3, g4⟩
theorem ef_rcc4 (m : MethodId) (x0 : Addr) (x1 : Addr) (x2 : Int32) (x3 : Int32) : entryFrame m #[(.ref x0), (.ref x1), (.int x2), (.int x3)] 6 = mkF m 0 #[.val (.ref x0), .val (.ref x1), .val (.int x2), .val (.int x3), .unset, .unset] [] := by first | (simp [entryFrame, mkF, argsToLocals, Value.category]; done) | rfl
abbrev y9 : MethodName := ⟨"java/lang/StringLatin1", "compareTo", "([B[BII)I"⟩
theorem d20_0 : decode jdk_43_method_15_code 0 = .ok (.iload_n 2, 1) := by decide +kernel
theorem d20_1 : decode jdk_43_method_15_code 1 = .ok (.iload_n 3, 1) := by decide +kernel
theorem d20_2 : decode jdk_43_method_15_code 2 = .ok (.invokestatic 38, 3) := by decide +kernel
theorem d20_5 : decode jdk_43_method_15_code 5 = .ok (.istore 4, 2) := by decide +kernel
theorem d20_7 : decode jdk_43_method_15_code 7 = .ok (.aload_n 0, 1) := by decide +kernel
theorem d20_8 : decode jdk_43_method_15_code 8 = .ok (.aload_n 1, 1) := by decide +kernel
theorem d20_9 : decode jdk_43_method_15_code 9 = .ok (.iload 4, 2) := by decide +kernel
theorem d20_11 : decode jdk_43_method_15_code 11 = .ok (.invokestatic 44, 3) := by decide +kernel
theorem pd___B_BI_I : parseMethodDescriptor "([B[BI)I" = some ⟨[(.array .byte), (.array .byte), .int], some .int⟩ := by decide +kernel
theorem d20_14 : decode jdk_43_method_15_code 14 = .ok (.istore 5, 2) := by decide +kernel
theorem d20_16 : decode jdk_43_method_15_code 16 = .ok (.iload 5, 2) := by decide +kernel
theorem d20_18 : decode jdk_43_method_15_code 18 = .ok (.ifCond .ge 9, 3) := by decide +kernel
theorem d20_21 : decode jdk_43_method_15_code 21 = .ok (.iload_n 2, 1) := by decide +kernel
theorem d20_22 : decode jdk_43_method_15_code 22 = .ok (.iload_n 3, 1) := by decide +kernel
theorem d20_23 : decode jdk_43_method_15_code 23 = .ok (.isub, 1) := by decide +kernel
theorem d20_24 : decode jdk_43_method_15_code 24 = .ok (.goto 16, 3) := by decide +kernel
theorem d20_40 : decode jdk_43_method_15_code 40 = .ok (.ireturn, 1) := by decide +kernel
theorem d20_27 : decode jdk_43_method_15_code 27 = .ok (.aload_n 0, 1) := by decide +kernel
theorem d20_28 : decode jdk_43_method_15_code 28 = .ok (.iload 5, 2) := by decide +kernel
theorem d20_30 : decode jdk_43_method_15_code 30 = .ok (.invokestatic 50, 3) := by decide +kernel
theorem pd___BI_C : parseMethodDescriptor "([BI)C" = some ⟨[(.array .byte), .int], some .char⟩ := by decide +kernel
theorem d20_33 : decode jdk_43_method_15_code 33 = .ok (.aload_n 1, 1) := by decide +kernel
theorem d20_34 : decode jdk_43_method_15_code 34 = .ok (.iload 5, 2) := by decide +kernel
theorem d20_36 : decode jdk_43_method_15_code 36 = .ok (.invokestatic 50, 3) := by decide +kernel
theorem d20_39 : decode jdk_43_method_15_code 39 = .ok (.isub, 1) := by decide +kernel
def Q_rcc4 (Z : State) (a1 : Addr) (a2 : Addr) (k1 : ClassId) (k2 : ClassId) (x : Int32) (y : Int32) (r : Int32) (h0 : Heap) (n0 : Nat) (v : Option Value) (h : Heap) (L : List Loc) : Prop := v = some (.int r) ∧ Fr n0 L ∧ h = h0
set_option maxRecDepth 65536 in
set_option maxHeartbeats 40000000 in
theorem rcc4 (l : Launch) (Z : State) (a0 : Array Value) (hw : ∀ d ∈ tables_1, d.before a0 Z = true) (ws : List Jvm.Cond) (a1 : Addr) (a2 : Addr) (k1 : ClassId) (k2 : ClassId) (x : Int32) (y : Int32) (r : Int32) (h0 : Heap) (n0 : Nat) (O0 : Old Z n0 h0) (pm0 : Arv Z h0 a1 k1 .byte (1 : Int32) [.int x] (.int 0)) (pm1 : Arv Z h0 a2 k2 .byte (1 : Int32) [.int y] (.int 0)) (hr : (x = y ∧ r = 0) ∨ (¬ (x = y) ∧ r = (nar .char ((x &&& (255 : Int32)).toUInt32.toUInt16.toUInt32.toInt32)) - (nar .char ((y &&& (255 : Int32)).toUInt32.toUInt16.toUInt32.toInt32)))) :
    MetFree l y9 (head1 (Jvm.Cond.code y9 jdk_43_method_15_code 6 (some .int) :: ws) ({ frames := 1, cells := 0, slots := 0, locals := 15 } : Room)) (fun a U => a = #[(.ref a1), (.ref a2), (.int (1 : Int32)), (.int (1 : Int32))] ∧ Z.Warmed39 U.vm ∧ U.heap = h0) (fun _ _ _ _ _ => True) (fun _ U o U' => ∃ v L, o = .returned v ∧ Q_rcc4 Z a1 a2 k1 k2 x y r h0 n0 v U'.heap L ∧ FrameEnd U o U' L ({ frames := 1, cells := 0, slots := 0, locals := 15 } : Room).cells ({ frames := 1, cells := 0, slots := 0, locals := 15 } : Room).slots) := by
  refine MetFree.of_bodySF (plainFor_of_name pn_java_lang_StringLatin1) hisR ?_
  intro p e s m args below meth c s₁ Bd hml0 hP hK
  obtain ⟨rfl, hZ, hh⟩ := hP
  have hx := Bd.exec
  have hby := Bd.bytes
  have hml : c.maxLocals = 6 := hml0
  have hown : s.vm.findClass "java/lang/StringLatin1" = some m.cls := findClass_of_methodNamed Bd.named
  have hnm := (name_of_methodNamed Bd.named Bd.method).1
  have X0 : Stand p l e ({ frames := 1, cells := 0, slots := 0, locals := 15 } : Room) s m #[(.ref a1), (.ref a2), (.int (1 : Int32)), (.int (1 : Int32))] below meth c s₁ [] 0 0 := Stand.of_body Bd
  have e0 : s₁.heap = h0 := by rw [← hh, Bd.state]; rfl
  have N0 := Fr.nil n0
  have K0 : Keep h0 h0 [] := Keep.refl h0 _
  have go : Gl p.tables e below (fun o U' => ∃ v L, o = .returned v ∧ Q_rcc4 Z a1 a2 k1 k2 x y r h0 n0 v U'.heap L ∧ FrameEnd s o U' L ({ frames := 1, cells := 0, slots := 0, locals := 15 } : Room).cells ({ frames := 1, cells := 0, slots := 0, locals := 15 } : Room).slots) (s₁.setTop (mkF m 0 #[.val (.ref a1), .val (.ref a2), .val (.int (1 : Int32)), .val (.int (1 : Int32)), .unset, .unset] [])) := by
    rcases hr with ⟨q, qr⟩ | ⟨q, qr⟩
    · skip
      refine Gl.step (B := (s₁.setTop (mkF m 2 #[.val (.ref a1), .val (.ref a2), .val (.int (1 : Int32)), .val (.int (1 : Int32)), .unset, .unset] [(.int (1 : Int32)), (.int (1 : Int32))]))) (fun t k => XS.iloadN X0.here hx rfl (hb hby d20_0) rfl (XS.iloadN X0.here hx rfl (hb hby d20_1) rfl k)) ?_
      obtain ⟨_, _, ⟨T1, L1, c1, z1⟩, -, X1, ⟨Lc1, hQ1, l1, y1, zz1⟩, st1⟩ := Jvm.LawKit.callS X0 hx (y := y2) hown (mvT hZ (t113 hw)) (mvT hZ (t114 hw)) (mvT hZ (t91 hw)) (mvT hZ (t115 hw)) (by decide) (backOf (W := 0) (rmin l Z a0 hw [] (1 : Int32) (1 : Int32) (1 : Int32) h0 n0 O0 (Or.inr ⟨by decide, rfl⟩)) hZ (t115 hw) (t91 hw) (by decide) (by decide)) (g := (mkF m 2 #[.val (.ref a1), .val (.ref a2), .val (.int (1 : Int32)), .val (.int (1 : Int32)), .unset, .unset] [(.int (1 : Int32)), (.int (1 : Int32))])) rfl (by rw [hml]; rfl) (argsL := [(.int (1 : Int32)), (.int (1 : Int32))]) (rest := []) (lenOf pd__II_I rfl) rfl (by show 2 * 0 + _ ≤ _; exact Nat.le_of_eq rfl) (hb hby d20_2) (fun _ _ => ⟨rfl, e0, (by decide : 0 + 0 ≤ _), (by decide : 0 + 0 ≤ _)⟩)
      dsimp only [Pt.U, Pt.locs, Pt.cells, Pt.slots] at X1 l1 y1 zz1 st1 hQ1
      subst y1 zz1
      obtain ⟨rfl, N1q, eh1⟩ := hQ1
      have N1 : Fr n0 L1 := Eq.mpr (congrArg (Fr n0) l1) (Fr.app N0 N1q)
      refine Gl.step (B := (T1.setTop (mkF m 5 #[.val (.ref a1), .val (.ref a2), .val (.int (1 : Int32)), .val (.int (1 : Int32)), .unset, .unset] [(.int (1 : Int32))]))) st1 ?_
      refine Gl.step (B := (T1.setTop (mkF m 11 #[.val (.ref a1), .val (.ref a2), .val (.int (1 : Int32)), .val (.int (1 : Int32)), .val (.int (1 : Int32)), .unset] [(.int (1 : Int32)), (.ref a2), (.ref a1)]))) (fun t k => XS.istore X1.here hx rfl (hb hby d20_5) rfl (l' := #[.val (.ref a1), .val (.ref a2), .val (.int (1 : Int32)), .val (.int (1 : Int32)), .val (.int (1 : Int32)), .unset]) rfl (XS.aloadN X1.here hx rfl (hb hby d20_7) rfl rfl (XS.aloadN X1.here hx rfl (hb hby d20_8) rfl rfl (XS.iload X1.here hx rfl (hb hby d20_9) rfl k)))) ?_
      obtain ⟨_, _, ⟨T2, L2, c2, z2⟩, -, X2, ⟨Lc2, hQ2, l2, y2, zz2⟩, st2⟩ := Jvm.LawKit.callS X1 hx (y := y7) hown (mvT hZ (t116 hw)) (mvT hZ (t117 hw)) (mvT hZ (t118 hw)) (mvT hZ (t119 hw)) (by decide) (backOf (W := 0) (rmis l Z a0 hw [] a1 a2 k1 k2 x y (-1 : Int32) h0 n0 O0 pm0 pm1 (Or.inl ⟨q, rfl⟩)) hZ (t119 hw) (t118 hw) (by decide) (by decide)) (g := (mkF m 11 #[.val (.ref a1), .val (.ref a2), .val (.int (1 : Int32)), .val (.int (1 : Int32)), .val (.int (1 : Int32)), .unset] [(.int (1 : Int32)), (.ref a2), (.ref a1)])) rfl (by rw [hml]; rfl) (argsL := [(.ref a1), (.ref a2), (.int (1 : Int32))]) (rest := []) (lenOf pd___B_BI_I rfl) rfl (by show 2 * 0 + _ ≤ _; exact Nat.le_of_eq rfl) (hb hby d20_11) (fun _ _ => ⟨rfl, eh1, (by decide : 0 + 0 ≤ _), (by decide : 0 + 0 ≤ _)⟩)
      dsimp only [Pt.U, Pt.locs, Pt.cells, Pt.slots] at X2 l2 y2 zz2 st2 hQ2
      subst y2 zz2
      obtain ⟨rfl, N2q, eh2⟩ := hQ2
      have N2 : Fr n0 L2 := Eq.mpr (congrArg (Fr n0) l2) (Fr.app N1 N2q)
      refine Gl.step (B := (T2.setTop (mkF m 14 #[.val (.ref a1), .val (.ref a2), .val (.int (1 : Int32)), .val (.int (1 : Int32)), .val (.int (1 : Int32)), .unset] [(.int (-1 : Int32))]))) st2 ?_
      refine Gl.step (B := (T2.setTop (mkF m 24 #[.val (.ref a1), .val (.ref a2), .val (.int (1 : Int32)), .val (.int (1 : Int32)), .val (.int (1 : Int32)), .val (.int (-1 : Int32))] [(.int ((1 : Int32) - (1 : Int32)))]))) (fun t k => XS.istore X2.here hx rfl (hb hby d20_14) rfl (l' := #[.val (.ref a1), .val (.ref a2), .val (.int (1 : Int32)), .val (.int (1 : Int32)), .val (.int (1 : Int32)), .val (.int (-1 : Int32))]) rfl (XS.iload X2.here hx rfl (hb hby d20_16) rfl (XS.ifNo X2.here hx rfl (hb hby d20_18) rfl ((if0 _ _).trans (tlt (by decide : (-1 : Int32) < (0 : Int32))).2.1) (XS.iloadN X2.here hx rfl (hb hby d20_21) rfl (XS.iloadN X2.here hx rfl (hb hby d20_22) rfl (XS.isub X2.here hx rfl (hb hby d20_23) rfl k)))))) ?_
      refine Gl.step (B := (T2.setTop (mkF m 40 #[.val (.ref a1), .val (.ref a2), .val (.int (1 : Int32)), .val (.int (1 : Int32)), .val (.int (1 : Int32)), .val (.int (-1 : Int32))] [(.int ((1 : Int32) - (1 : Int32)))]))) (fun t k => XS.goto X2.here hx rfl (pc0 := 24) (pc' := 40) rfl (hb hby d20_24) (by decide) (by decide) k) ?_
      obtain ⟨fs, hr, hrun, hended, hW, hsame⟩ := X2.leave (v := some (.int ((1 : Int32) - (1 : Int32)))) (fun h => by rw [Bd.returns] at h; cases h)
      refine ⟨_, _, ?_, hrun, hended, _, _, rfl, ?_, ⟨_, rfl⟩, hW, hsame.mono (by decide) (by decide)⟩
      · show Steps p.tables e below (T2.setTop (mkF m 40 #[.val (.ref a1), .val (.ref a2), .val (.int (1 : Int32)), .val (.int (1 : Int32)), .val (.int (1 : Int32)), .val (.int (-1 : Int32))] [(.int ((1 : Int32) - (1 : Int32)))])) _
        exact retI X2 hx Bd.returns (hb hby d20_40) hr
      · show Q_rcc4 Z a1 a2 k1 k2 x y r h0 n0 _ T2.heap _
        rw [eh2]
        exact ⟨(by rw [qr]; rfl), N2, rfl⟩
    · skip
      refine Gl.step (B := (s₁.setTop (mkF m 2 #[.val (.ref a1), .val (.ref a2), .val (.int (1 : Int32)), .val (.int (1 : Int32)), .unset, .unset] [(.int (1 : Int32)), (.int (1 : Int32))]))) (fun t k => XS.iloadN X0.here hx rfl (hb hby d20_0) rfl (XS.iloadN X0.here hx rfl (hb hby d20_1) rfl k)) ?_
      obtain ⟨_, _, ⟨T3, L3, c3, z3⟩, -, X3, ⟨Lc3, hQ3, l3, y3, zz3⟩, st3⟩ := Jvm.LawKit.callS X0 hx (y := y2) hown (mvT hZ (t113 hw)) (mvT hZ (t114 hw)) (mvT hZ (t91 hw)) (mvT hZ (t115 hw)) (by decide) (backOf (W := 0) (rmin l Z a0 hw [] (1 : Int32) (1 : Int32) (1 : Int32) h0 n0 O0 (Or.inr ⟨by decide, rfl⟩)) hZ (t115 hw) (t91 hw) (by decide) (by decide)) (g := (mkF m 2 #[.val (.ref a1), .val (.ref a2), .val (.int (1 : Int32)), .val (.int (1 : Int32)), .unset, .unset] [(.int (1 : Int32)), (.int (1 : Int32))])) rfl (by rw [hml]; rfl) (argsL := [(.int (1 : Int32)), (.int (1 : Int32))]) (rest := []) (lenOf pd__II_I rfl) rfl (by show 2 * 0 + _ ≤ _; exact Nat.le_of_eq rfl) (hb hby d20_2) (fun _ _ => ⟨rfl, e0, (by decide : 0 + 0 ≤ _), (by decide : 0 + 0 ≤ _)⟩)
      dsimp only [Pt.U, Pt.locs, Pt.cells, Pt.slots] at X3 l3 y3 zz3 st3 hQ3
      subst y3 zz3
      obtain ⟨rfl, N3q, eh3⟩ := hQ3
      have N3 : Fr n0 L3 := Eq.mpr (congrArg (Fr n0) l3) (Fr.app N0 N3q)
      refine Gl.step (B := (T3.setTop (mkF m 5 #[.val (.ref a1), .val (.ref a2), .val (.int (1 : Int32)), .val (.int (1 : Int32)), .unset, .unset] [(.int (1 : Int32))]))) st3 ?_
      refine Gl.step (B := (T3.setTop (mkF m 11 #[.val (.ref a1), .val (.ref a2), .val (.int (1 : Int32)), .val (.int (1 : Int32)), .val (.int (1 : Int32)), .unset] [(.int (1 : Int32)), (.ref a2), (.ref a1)]))) (fun t k => XS.istore X3.here hx rfl (hb hby d20_5) rfl (l' := #[.val (.ref a1), .val (.ref a2), .val (.int (1 : Int32)), .val (.int (1 : Int32)), .val (.int (1 : Int32)), .unset]) rfl (XS.aloadN X3.here hx rfl (hb hby d20_7) rfl rfl (XS.aloadN X3.here hx rfl (hb hby d20_8) rfl rfl (XS.iload X3.here hx rfl (hb hby d20_9) rfl k)))) ?_
      obtain ⟨_, _, ⟨T4, L4, c4, z4⟩, -, X4, ⟨Lc4, hQ4, l4, y4, zz4⟩, st4⟩ := Jvm.LawKit.callS X3 hx (y := y7) hown (mvT hZ (t116 hw)) (mvT hZ (t117 hw)) (mvT hZ (t118 hw)) (mvT hZ (t119 hw)) (by decide) (backOf (W := 0) (rmis l Z a0 hw [] a1 a2 k1 k2 x y (0 : Int32) h0 n0 O0 pm0 pm1 (Or.inr ⟨q, rfl⟩)) hZ (t119 hw) (t118 hw) (by decide) (by decide)) (g := (mkF m 11 #[.val (.ref a1), .val (.ref a2), .val (.int (1 : Int32)), .val (.int (1 : Int32)), .val (.int (1 : Int32)), .unset] [(.int (1 : Int32)), (.ref a2), (.ref a1)])) rfl (by rw [hml]; rfl) (argsL := [(.ref a1), (.ref a2), (.int (1 : Int32))]) (rest := []) (lenOf pd___B_BI_I rfl) rfl (by show 2 * 0 + _ ≤ _; exact Nat.le_of_eq rfl) (hb hby d20_11) (fun _ _ => ⟨rfl, eh3, (by decide : 0 + 0 ≤ _), (by decide : 0 + 0 ≤ _)⟩)
      dsimp only [Pt.U, Pt.locs, Pt.cells, Pt.slots] at X4 l4 y4 zz4 st4 hQ4
      subst y4 zz4
      obtain ⟨rfl, N4q, eh4⟩ := hQ4
      have N4 : Fr n0 L4 := Eq.mpr (congrArg (Fr n0) l4) (Fr.app N3 N4q)
      refine Gl.step (B := (T4.setTop (mkF m 14 #[.val (.ref a1), .val (.ref a2), .val (.int (1 : Int32)), .val (.int (1 : Int32)), .val (.int (1 : Int32)), .unset] [(.int (0 : Int32))]))) st4 ?_
      refine Gl.step (B := (T4.setTop (mkF m 30 #[.val (.ref a1), .val (.ref a2), .val (.int (1 : Int32)), .val (.int (1 : Int32)), .val (.int (1 : Int32)), .val (.int (0 : Int32))] [(.int (0 : Int32)), (.ref a1)]))) (fun t k => XS.istore X4.here hx rfl (hb hby d20_14) rfl (l' := #[.val (.ref a1), .val (.ref a2), .val (.int (1 : Int32)), .val (.int (1 : Int32)), .val (.int (1 : Int32)), .val (.int (0 : Int32))]) rfl (XS.iload X4.here hx rfl (hb hby d20_16) rfl (XS.ifYes X4.here hx rfl (pc0 := 18) (pc' := 27) rfl (hb hby d20_18) rfl ((if0 _ _).trans (flt (by decide : ¬ ((0 : Int32) < (0 : Int32)))).2.1) (by decide) (by decide) (XS.aloadN X4.here hx rfl (hb hby d20_27) rfl rfl (XS.iload X4.here hx rfl (hb hby d20_28) rfl k))))) ?_
      obtain ⟨_, _, ⟨T5, L5, c5, z5⟩, -, X5, ⟨Lc5, hQ5, l5, y5, zz5⟩, st5⟩ := Jvm.LawKit.callS X4 hx (y := y8) hown (mvT hZ (t132 hw)) (mvT hZ (t133 hw)) (mvT hZ (t108 hw)) (mvT hZ (t134 hw)) (by decide) (backOf (W := 0) (rgch l Z a0 hw [] a1 k1 x h0 n0 O0 pm0) hZ (t134 hw) (t108 hw) (by decide) (by decide)) (g := (mkF m 30 #[.val (.ref a1), .val (.ref a2), .val (.int (1 : Int32)), .val (.int (1 : Int32)), .val (.int (1 : Int32)), .val (.int (0 : Int32))] [(.int (0 : Int32)), (.ref a1)])) rfl (by rw [hml]; rfl) (argsL := [(.ref a1), (.int (0 : Int32))]) (rest := []) (lenOf pd___BI_C rfl) rfl (by show 2 * 0 + _ ≤ _; exact Nat.le_of_eq rfl) (hb hby d20_30) (fun _ _ => ⟨rfl, eh4, (by decide : 0 + 0 ≤ _), (by decide : 0 + 0 ≤ _)⟩)
      dsimp only [Pt.U, Pt.locs, Pt.cells, Pt.slots] at X5 l5 y5 zz5 st5 hQ5
      subst y5 zz5
      obtain ⟨rfl, N5q, eh5⟩ := hQ5
      have N5 : Fr n0 L5 := Eq.mpr (congrArg (Fr n0) l5) (Fr.app N4 N5q)
      refine Gl.step (B := (T5.setTop (mkF m 33 #[.val (.ref a1), .val (.ref a2), .val (.int (1 : Int32)), .val (.int (1 : Int32)), .val (.int (1 : Int32)), .val (.int (0 : Int32))] [(.int (nar .char ((x &&& (255 : Int32)).toUInt32.toUInt16.toUInt32.toInt32)))]))) st5 ?_
      refine Gl.step (B := (T5.setTop (mkF m 36 #[.val (.ref a1), .val (.ref a2), .val (.int (1 : Int32)), .val (.int (1 : Int32)), .val (.int (1 : Int32)), .val (.int (0 : Int32))] [(.int (0 : Int32)), (.ref a2), (.int (nar .char ((x &&& (255 : Int32)).toUInt32.toUInt16.toUInt32.toInt32)))]))) (fun t k => XS.aloadN X5.here hx rfl (hb hby d20_33) rfl rfl (XS.iload X5.here hx rfl (hb hby d20_34) rfl k)) ?_
      obtain ⟨_, _, ⟨T6, L6, c6, z6⟩, -, X6, ⟨Lc6, hQ6, l6, y6, zz6⟩, st6⟩ := Jvm.LawKit.callS X5 hx (y := y8) hown (mvT hZ (t132 hw)) (mvT hZ (t133 hw)) (mvT hZ (t108 hw)) (mvT hZ (t134 hw)) (by decide) (backOf (W := 1) (rgch l Z a0 hw [] a2 k2 y h0 n0 O0 pm1) hZ (t134 hw) (t108 hw) (by decide) (by decide)) (g := (mkF m 36 #[.val (.ref a1), .val (.ref a2), .val (.int (1 : Int32)), .val (.int (1 : Int32)), .val (.int (1 : Int32)), .val (.int (0 : Int32))] [(.int (0 : Int32)), (.ref a2), (.int (nar .char ((x &&& (255 : Int32)).toUInt32.toUInt16.toUInt32.toInt32)))])) rfl (by rw [hml]; rfl) (argsL := [(.ref a2), (.int (0 : Int32))]) (rest := [(.int (nar .char ((x &&& (255 : Int32)).toUInt32.toUInt16.toUInt32.toInt32)))]) (lenOf pd___BI_C rfl) rfl (by show 2 * 0 + _ ≤ _; exact Nat.le_of_eq rfl) (hb hby d20_36) (fun _ _ => ⟨rfl, eh5, (by decide : 0 + 0 ≤ _), (by decide : 0 + 0 ≤ _)⟩)
      dsimp only [Pt.U, Pt.locs, Pt.cells, Pt.slots] at X6 l6 y6 zz6 st6 hQ6
      subst y6 zz6
      obtain ⟨rfl, N6q, eh6⟩ := hQ6
      have N6 : Fr n0 L6 := Eq.mpr (congrArg (Fr n0) l6) (Fr.app N5 N6q)
      refine Gl.step (B := (T6.setTop (mkF m 39 #[.val (.ref a1), .val (.ref a2), .val (.int (1 : Int32)), .val (.int (1 : Int32)), .val (.int (1 : Int32)), .val (.int (0 : Int32))] [(.int (nar .char ((y &&& (255 : Int32)).toUInt32.toUInt16.toUInt32.toInt32))), (.int (nar .char ((x &&& (255 : Int32)).toUInt32.toUInt16.toUInt32.toInt32)))]))) st6 ?_
      refine Gl.step (B := (T6.setTop (mkF m 40 #[.val (.ref a1), .val (.ref a2), .val (.int (1 : Int32)), .val (.int (1 : Int32)), .val (.int (1 : Int32)), .val (.int (0 : Int32))] [(.int ((nar .char ((x &&& (255 : Int32)).toUInt32.toUInt16.toUInt32.toInt32)) - (nar .char ((y &&& (255 : Int32)).toUInt32.toUInt16.toUInt32.toInt32))))]))) (fun t k => XS.isub X6.here hx rfl (hb hby d20_39) rfl k) ?_
      obtain ⟨fs, hr, hrun, hended, hW, hsame⟩ := X6.leave (v := some (.int ((nar .char ((x &&& (255 : Int32)).toUInt32.toUInt16.toUInt32.toInt32)) - (nar .char ((y &&& (255 : Int32)).toUInt32.toUInt16.toUInt32.toInt32))))) (fun h => by rw [Bd.returns] at h; cases h)
      refine ⟨_, _, ?_, hrun, hended, _, _, rfl, ?_, ⟨_, rfl⟩, hW, hsame.mono (by decide) (by decide)⟩
      · show Steps p.tables e below (T6.setTop (mkF m 40 #[.val (.ref a1), .val (.ref a2), .val (.int (1 : Int32)), .val (.int (1 : Int32)), .val (.int (1 : Int32)), .val (.int (0 : Int32))] [(.int ((nar .char ((x &&& (255 : Int32)).toUInt32.toUInt16.toUInt32.toInt32)) - (nar .char ((y &&& (255 : Int32)).toUInt32.toUInt16.toUInt32.toInt32))))])) _
        exact retI X6 hx Bd.returns (hb hby d20_40) hr
      · show Q_rcc4 Z a1 a2 k1 k2 x y r h0 n0 _ T6.heap _
        rw [eh6]
        exact ⟨(by rw [qr]), N6, rfl⟩
  obtain ⟨s₂, o, g1, g2, g3, g4⟩ := go
  exact ⟨s₂, o, castTop (ef_rcc4 m a1 a2 (1 : Int32) (1 : Int32)) g1, g2, g3, g4⟩
theorem ef_rcc2 (m : MethodId) (x0 : Addr) (x1 : Addr) : entryFrame m #[(.ref x0), (.ref x1)] 4 = mkF m 0 #[.val (.ref x0), .val (.ref x1), .unset, .unset] [] := by first | (simp [entryFrame, mkF, argsToLocals, Value.category]; done) | rfl
abbrev y10 : MethodName := ⟨"java/lang/StringLatin1", "compareTo", "([B[B)I"⟩
theorem d19_0 : decode jdk_43_method_14_code 0 = .ok (.aload_n 0, 1) := by decide +kernel
theorem d19_1 : decode jdk_43_method_14_code 1 = .ok (.arraylength, 1) := by decide +kernel
theorem d19_2 : decode jdk_43_method_14_code 2 = .ok (.istore_n 2, 1) := by decide +kernel
theorem d19_3 : decode jdk_43_method_14_code 3 = .ok (.aload_n 1, 1) := by decide +kernel
theorem d19_4 : decode jdk_43_method_14_code 4 = .ok (.arraylength, 1) := by decide +kernel
theorem d19_5 : decode jdk_43_method_14_code 5 = .ok (.istore_n 3, 1) := by decide +kernel
theorem d19_6 : decode jdk_43_method_14_code 6 = .ok (.aload_n 0, 1) := by decide +kernel
theorem d19_7 : decode jdk_43_method_14_code 7 = .ok (.aload_n 1, 1) := by decide +kernel
theorem d19_8 : decode jdk_43_method_14_code 8 = .ok (.iload_n 2, 1) := by decide +kernel
theorem d19_9 : decode jdk_43_method_14_code 9 = .ok (.iload_n 3, 1) := by decide +kernel
theorem d19_10 : decode jdk_43_method_14_code 10 = .ok (.invokestatic 34, 3) := by decide +kernel
theorem pd___B_BII_I : parseMethodDescriptor "([B[BII)I" = some ⟨[(.array .byte), (.array .byte), .int, .int], some .int⟩ := by decide +kernel
theorem d19_13 : decode jdk_43_method_14_code 13 = .ok (.ireturn, 1) := by decide +kernel
def Q_rcc2 (Z : State) (a1 : Addr) (a2 : Addr) (k1 : ClassId) (k2 : ClassId) (x : Int32) (y : Int32) (r : Int32) (h0 : Heap) (n0 : Nat) (v : Option Value) (h : Heap) (L : List Loc) : Prop := v = some (.int r) ∧ Fr n0 L ∧ h = h0
set_option maxRecDepth 65536 in
set_option maxHeartbeats 40000000 in
theorem rcc2 (l : Launch) (Z : State) (a0 : Array Value) (hw : ∀ d ∈ tables_1, d.before a0 Z = true) (ws : List Jvm.Cond) (a1 : Addr) (a2 : Addr) (k1 : ClassId) (k2 : ClassId) (x : Int32) (y : Int32) (r : Int32) (h0 : Heap) (n0 : Nat) (O0 : Old Z n0 h0) (pm0 : Arv Z h0 a1 k1 .byte (1 : Int32) [.int x] (.int 0)) (pm1 : Arv Z h0 a2 k2 .byte (1 : Int32) [.int y] (.int 0)) (hr : (x = y ∧ r = 0) ∨ (¬ (x = y) ∧ r = (nar .char ((x &&& (255 : Int32)).toUInt32.toUInt16.toUInt32.toInt32)) - (nar .char ((y &&& (255 : Int32)).toUInt32.toUInt16.toUInt32.toInt32)))) :
    MetFree l y10 (head1 (Jvm.Cond.code y10 jdk_43_method_14_code 4 (some .int) :: ws) ({ frames := 2, cells := 0, slots := 0, locals := 32 } : Room)) (fun a U => a = #[(.ref a1), (.ref a2)] ∧ Z.Warmed39 U.vm ∧ U.heap = h0) (fun _ _ _ _ _ => True) (fun _ U o U' => ∃ v L, o = .returned v ∧ Q_rcc2 Z a1 a2 k1 k2 x y r h0 n0 v U'.heap L ∧ FrameEnd U o U' L ({ frames := 2, cells := 0, slots := 0, locals := 32 } : Room).cells ({ frames := 2, cells := 0, slots := 0, locals := 32 } : Room).slots) := by
  refine MetFree.of_bodySF (plainFor_of_name pn_java_lang_StringLatin1) hisR ?_
  intro p e s m args below meth c s₁ Bd hml0 hP hK
  obtain ⟨rfl, hZ, hh⟩ := hP
  have hx := Bd.exec
  have hby := Bd.bytes
  have hml : c.maxLocals = 4 := hml0
  have hown : s.vm.findClass "java/lang/StringLatin1" = some m.cls := findClass_of_methodNamed Bd.named
  have hnm := (name_of_methodNamed Bd.named Bd.method).1
  have X0 : Stand p l e ({ frames := 2, cells := 0, slots := 0, locals := 32 } : Room) s m #[(.ref a1), (.ref a2)] below meth c s₁ [] 0 0 := Stand.of_body Bd
  have e0 : s₁.heap = h0 := by rw [← hh, Bd.state]; rfl
  have N0 := Fr.nil n0
  have K0 : Keep h0 h0 [] := Keep.refl h0 _
  have go : Gl p.tables e below (fun o U' => ∃ v L, o = .returned v ∧ Q_rcc2 Z a1 a2 k1 k2 x y r h0 n0 v U'.heap L ∧ FrameEnd s o U' L ({ frames := 2, cells := 0, slots := 0, locals := 32 } : Room).cells ({ frames := 2, cells := 0, slots := 0, locals := 32 } : Room).slots) (s₁.setTop (mkF m 0 #[.val (.ref a1), .val (.ref a2), .unset, .unset] [])) := by
    refine Gl.step (B := (s₁.setTop (mkF m 1 #[.val (.ref a1), .val (.ref a2), .unset, .unset] [(.ref a1)]))) (fun t k => XS.aloadN X0.here hx rfl (hb hby d19_0) rfl rfl k) ?_
    obtain ⟨cl1, Ar1, q1, S1, M1, H1, G1⟩ := id pm0
    refine Gl.step (B := (s₁.setTop (mkF m 2 #[.val (.ref a1), .val (.ref a2), .unset, .unset] [(.int cl1.slots.size.toInt32)]))) (fun t k => X0.arraylength hx (by rw [e0]; exact Ar1.1) (State.isArrayOf_alike hZ.alike Ar1.2.1) (g := (mkF m 1 #[.val (.ref a1), .val (.ref a2), .unset, .unset] [(.ref a1)])) rfl rfl (hb hby d19_1) _ k) ?_
    rw [len_of S1 M1]
    refine Gl.step (B := (s₁.setTop (mkF m 4 #[.val (.ref a1), .val (.ref a2), .val (.int (1 : Int32)), .unset] [(.ref a2)]))) (fun t k => XS.istoreN X0.here hx rfl (hb hby d19_2) rfl (l' := #[.val (.ref a1), .val (.ref a2), .val (.int (1 : Int32)), .unset]) rfl (XS.aloadN X0.here hx rfl (hb hby d19_3) rfl rfl k)) ?_
    obtain ⟨cl2, Ar2, q2, S2, M2, H2, G2⟩ := id pm1
    refine Gl.step (B := (s₁.setTop (mkF m 5 #[.val (.ref a1), .val (.ref a2), .val (.int (1 : Int32)), .unset] [(.int cl2.slots.size.toInt32)]))) (fun t k => X0.arraylength hx (by rw [e0]; exact Ar2.1) (State.isArrayOf_alike hZ.alike Ar2.2.1) (g := (mkF m 4 #[.val (.ref a1), .val (.ref a2), .val (.int (1 : Int32)), .unset] [(.ref a2)])) rfl rfl (hb hby d19_4) _ k) ?_
    rw [len_of S2 M2]
    refine Gl.step (B := (s₁.setTop (mkF m 10 #[.val (.ref a1), .val (.ref a2), .val (.int (1 : Int32)), .val (.int (1 : Int32))] [(.int (1 : Int32)), (.int (1 : Int32)), (.ref a2), (.ref a1)]))) (fun t k => XS.istoreN X0.here hx rfl (hb hby d19_5) rfl (l' := #[.val (.ref a1), .val (.ref a2), .val (.int (1 : Int32)), .val (.int (1 : Int32))]) rfl (XS.aloadN X0.here hx rfl (hb hby d19_6) rfl rfl (XS.aloadN X0.here hx rfl (hb hby d19_7) rfl rfl (XS.iloadN X0.here hx rfl (hb hby d19_8) rfl (XS.iloadN X0.here hx rfl (hb hby d19_9) rfl k))))) ?_
    obtain ⟨_, _, ⟨T3, L3, c3, z3⟩, -, X3, ⟨Lc3, hQ3, l3, y3, zz3⟩, st3⟩ := Jvm.LawKit.callS X0 hx (y := y9) hown (mvT hZ (t110 hw)) (mvT hZ (t111 hw)) (mvT hZ (t108 hw)) (mvT hZ (t112 hw)) (by decide) (backOf (W := 0) (rcc4 l Z a0 hw [] a1 a2 k1 k2 x y r h0 n0 O0 pm0 pm1 (hr)) hZ (t112 hw) (t108 hw) (by decide) (by decide)) (g := (mkF m 10 #[.val (.ref a1), .val (.ref a2), .val (.int (1 : Int32)), .val (.int (1 : Int32))] [(.int (1 : Int32)), (.int (1 : Int32)), (.ref a2), (.ref a1)])) rfl (by rw [hml]; rfl) (argsL := [(.ref a1), (.ref a2), (.int (1 : Int32)), (.int (1 : Int32))]) (rest := []) (lenOf pd___B_BII_I rfl) rfl (by show 2 * 0 + _ ≤ _; exact Nat.le_of_eq rfl) (hb hby d19_10) (fun _ _ => ⟨rfl, e0, (by decide : 0 + 0 ≤ _), (by decide : 0 + 0 ≤ _)⟩)
    dsimp only [Pt.U, Pt.locs, Pt.cells, Pt.slots] at X3 l3 y3 zz3 st3 hQ3
    subst y3 zz3
    obtain ⟨rfl, N3q, eh3⟩ := hQ3
    have N3 : Fr n0 L3 := Eq.mpr (congrArg (Fr n0) l3) (Fr.app N0 N3q)
    refine Gl.step (B := (T3.setTop (mkF m 13 #[.val (.ref a1), .val (.ref a2), .val (.int (1 : Int32)), .val (.int (1 : Int32))] [(.int r)]))) st3 ?_
    obtain ⟨fs, hr, hrun, hended, hW, hsame⟩ := X3.leave (v := some (.int r)) (fun h => by rw [Bd.returns] at h; cases h)
    refine ⟨_, _, ?_, hrun, hended, _, _, rfl, ?_, ⟨_, rfl⟩, hW, hsame.mono (by decide) (by decide)⟩
    · show Steps p.tables e below (T3.setTop (mkF m 13 #[.val (.ref a1), .val (.ref a2), .val (.int (1 : Int32)), .val (.int (1 : Int32))] [(.int r)])) _
      exact retI X3 hx Bd.returns (hb hby d19_13) hr
    · show Q_rcc2 Z a1 a2 k1 k2 x y r h0 n0 _ T3.heap _
      rw [eh3]
      exact ⟨rfl, N3, rfl⟩
  obtain ⟨s₂, o, g1, g2, g3, g4⟩ := go
  exact ⟨s₂, o, castTop (ef_rcc2 m a1 a2) g1, g2, g3, g4⟩
theorem ef_rcmp (m : MethodId) (x0 : Addr) (x1 : Addr) : entryFrame m #[(.ref x0), (.ref x1)] 5 = mkF m 0 #[.val (.ref x0), .val (.ref x1), .unset, .unset, .unset] [] := by first | (simp [entryFrame, mkF, argsToLocals, Value.category]; done) | rfl
abbrev y11 : MethodName := ⟨"java/lang/String", "compareTo", "(Ljava/lang/String;)I"⟩
theorem d17_0 : decode jdk_42_method_71_code 0 = .ok (.aload_n 0, 1) := by decide +kernel
theorem d17_1 : decode jdk_42_method_71_code 1 = .ok (.getfield 9, 3) := by decide +kernel
theorem d17_4 : decode jdk_42_method_71_code 4 = .ok (.astore_n 2, 1) := by decide +kernel
theorem d17_5 : decode jdk_42_method_71_code 5 = .ok (.aload_n 1, 1) := by decide +kernel
theorem d17_6 : decode jdk_42_method_71_code 6 = .ok (.getfield 9, 3) := by decide +kernel
theorem d17_9 : decode jdk_42_method_71_code 9 = .ok (.astore_n 3, 1) := by decide +kernel
theorem d17_10 : decode jdk_42_method_71_code 10 = .ok (.aload_n 0, 1) := by decide +kernel
theorem d17_11 : decode jdk_42_method_71_code 11 = .ok (.invokevirtual 335, 3) := by decide +kernel
theorem pd___B : parseMethodDescriptor "()B" = some ⟨[], some .byte⟩ := by decide +kernel
theorem d17_14 : decode jdk_42_method_71_code 14 = .ok (.istore 4, 2) := by decide +kernel
theorem d17_16 : decode jdk_42_method_71_code 16 = .ok (.iload 4, 2) := by decide +kernel
theorem d17_18 : decode jdk_42_method_71_code 18 = .ok (.aload_n 1, 1) := by decide +kernel
theorem d17_19 : decode jdk_42_method_71_code 19 = .ok (.invokevirtual 335, 3) := by decide +kernel
theorem d17_22 : decode jdk_42_method_71_code 22 = .ok (.if_icmp .ne 22, 3) := by decide +kernel
theorem d17_25 : decode jdk_42_method_71_code 25 = .ok (.iload 4, 2) := by decide +kernel
theorem d17_27 : decode jdk_42_method_71_code 27 = .ok (.ifCond .ne 11, 3) := by decide +kernel
theorem d17_30 : decode jdk_42_method_71_code 30 = .ok (.aload_n 2, 1) := by decide +kernel
theorem d17_31 : decode jdk_42_method_71_code 31 = .ok (.aload_n 3, 1) := by decide +kernel
theorem d17_32 : decode jdk_42_method_71_code 32 = .ok (.invokestatic 586, 3) := by decide +kernel
theorem pd___B_B_I : parseMethodDescriptor "([B[B)I" = some ⟨[(.array .byte), (.array .byte)], some .int⟩ := by decide +kernel
theorem d17_35 : decode jdk_42_method_71_code 35 = .ok (.goto 8, 3) := by decide +kernel
theorem d17_43 : decode jdk_42_method_71_code 43 = .ok (.ireturn, 1) := by decide +kernel
def Q_rcmp (Z : State) (a1 : Addr) (a2 : Addr) (x : Int32) (y : Int32) (zc : Int32) (h0 : Heap) (n0 : Nat) (v : Option Value) (h : Heap) (L : List Loc) : Prop := v = some (.int (x - y)) ∧ Fr n0 L ∧ h = h0
set_option maxRecDepth 65536 in
set_option maxHeartbeats 40000000 in
theorem rcmp (l : Launch) (Z : State) (a0 : Array Value) (hw : ∀ d ∈ tables_1, d.before a0 Z = true) (ws : List Jvm.Cond) (a1 : Addr) (a2 : Addr) (x : Int32) (y : Int32) (zc : Int32) (h0 : Heap) (n0 : Nat) (O0 : Old Z n0 h0) (pm0 : Sta Z Z.heap "java/lang/String" "COMPACT_STRINGS" "Z" (.int zc)) (hz : ¬ (zc = (0 : Int32))) (g_Str_a1 : Str Z h0 a1 x) (g_Str_a2 : Str Z h0 a2 y) (hkx : Ky x) (hky : Ky y) :
    MetFree l y11 (head1 (Jvm.Cond.code y11 jdk_42_method_71_code 5 (some .int) :: ws) ({ frames := 3, cells := 0, slots := 0, locals := 47 } : Room)) (fun a U => a = #[(.ref a1), (.ref a2)] ∧ Z.Warmed39 U.vm ∧ U.heap = h0) (fun _ _ _ _ _ => True) (fun _ U o U' => ∃ v L, o = .returned v ∧ Q_rcmp Z a1 a2 x y zc h0 n0 v U'.heap L ∧ FrameEnd U o U' L ({ frames := 3, cells := 0, slots := 0, locals := 47 } : Room).cells ({ frames := 3, cells := 0, slots := 0, locals := 47 } : Room).slots) := by
  refine MetFree.of_bodySF (plainFor_of_name pn_java_lang_String) hisR ?_
  intro p e s m args below meth c s₁ Bd hml0 hP hK
  obtain ⟨rfl, hZ, hh⟩ := hP
  have hx := Bd.exec
  have hby := Bd.bytes
  have hml : c.maxLocals = 5 := hml0
  have hown : s.vm.findClass "java/lang/String" = some m.cls := findClass_of_methodNamed Bd.named
  have hnm := (name_of_methodNamed Bd.named Bd.method).1
  have X0 : Stand p l e ({ frames := 3, cells := 0, slots := 0, locals := 47 } : Room) s m #[(.ref a1), (.ref a2)] below meth c s₁ [] 0 0 := Stand.of_body Bd
  have e0 : s₁.heap = h0 := by rw [← hh, Bd.state]; rfl
  have N0 := Fr.nil n0
  have K0 : Keep h0 h0 [] := Keep.refl h0 _
  have go : Gl p.tables e below (fun o U' => ∃ v L, o = .returned v ∧ Q_rcmp Z a1 a2 x y zc h0 n0 v U'.heap L ∧ FrameEnd s o U' L ({ frames := 3, cells := 0, slots := 0, locals := 47 } : Room).cells ({ frames := 3, cells := 0, slots := 0, locals := 47 } : Room).slots) (s₁.setTop (mkF m 0 #[.val (.ref a1), .val (.ref a2), .unset, .unset, .unset] [])) := by
    obtain ⟨ea1, ca1, ta1, ka1, va1, da1⟩ := g_Str_a1
    obtain ⟨ea2, ca2, ta2, ka2, va2, da2⟩ := g_Str_a2
    refine Gl.step (B := (s₁.setTop (mkF m 1 #[.val (.ref a1), .val (.ref a2), .unset, .unset, .unset] [(.ref a1)]))) (fun t k => XS.aloadN X0.here hx rfl (hb hby d17_0) rfl rfl k) ?_
    obtain ⟨T1, X1, e1, st1⟩ := getF X0 hx hZ hown (host := "") (Or.inl (t32 hw)) Via.refl e0 va1 (g := (mkF m 1 #[.val (.ref a1), .val (.ref a2), .unset, .unset, .unset] [(.ref a1)])) rfl rfl (hb hby d17_1)
    refine Gl.step (B := (T1.setTop (mkF m 4 #[.val (.ref a1), .val (.ref a2), .unset, .unset, .unset] [(.ref ta1)]))) st1 ?_
    refine Gl.step (B := (T1.setTop (mkF m 6 #[.val (.ref a1), .val (.ref a2), .val (.ref ta1), .unset, .unset] [(.ref a2)]))) (fun t k => XS.astoreN X1.here hx rfl (hb hby d17_4) rfl rfl (l' := #[.val (.ref a1), .val (.ref a2), .val (.ref ta1), .unset, .unset]) rfl (XS.aloadN X1.here hx rfl (hb hby d17_5) rfl rfl k)) ?_
    obtain ⟨T2, X2, e2, st2⟩ := getF X1 hx hZ hown (host := "") (Or.inl (t32 hw)) Via.refl e1 va2 (g := (mkF m 6 #[.val (.ref a1), .val (.ref a2), .val (.ref ta1), .unset, .unset] [(.ref a2)])) rfl rfl (hb hby d17_6)
    refine Gl.step (B := (T2.setTop (mkF m 9 #[.val (.ref a1), .val (.ref a2), .val (.ref ta1), .unset, .unset] [(.ref ta2)]))) st2 ?_
    refine Gl.step (B := (T2.setTop (mkF m 11 #[.val (.ref a1), .val (.ref a2), .val (.ref ta1), .val (.ref ta2), .unset] [(.ref a1)]))) (fun t k => XS.astoreN X2.here hx rfl (hb hby d17_9) rfl rfl (l' := #[.val (.ref a1), .val (.ref a2), .val (.ref ta1), .val (.ref ta2), .unset]) rfl (XS.aloadN X2.here hx rfl (hb hby d17_10) rfl rfl k)) ?_
    obtain ⟨cq3, kq3, q3a, q3b, q3c⟩ := isOf hZ e2 ea1
    obtain ⟨_, _, ⟨T3, L3, c3, z3⟩, -, X3, ⟨Lc3, hQ3, l3, y3, zz3⟩, st3⟩ := X2.virtualBack hx (y := y6) (z := y6) hown (mvT hZ (t101 hw)) (mvT hZ (t102 hw)) (notFace_of_selects (args := #[]) (mvT hZ (t104 hw))) (mvT hZ (t104 hw)) (mvT hZ (t103 hw)) (by decide) (backOf (W := 0) (rcod l Z a0 hw [] a1 zc h0 n0 O0 pm0 (hz) ca1) hZ (t105 hw) (t7 hw) (by decide) (by decide)) q3a q3c (g := (mkF m 11 #[.val (.ref a1), .val (.ref a2), .val (.ref ta1), .val (.ref ta2), .unset] [(.ref a1)])) rfl (by rw [hml]; rfl) (Steps.refl _) (argsL := []) (rest := []) (lenOf pd___B rfl) rfl (by show 2 * 0 + _ ≤ _; exact Nat.le_of_eq rfl) (hb hby d17_11) (fun _ _ => ⟨rfl, e2, (by decide : 0 + 0 ≤ _), (by decide : 0 + 0 ≤ _)⟩)
    dsimp only [Pt.U, Pt.locs, Pt.cells, Pt.slots] at X3 l3 y3 zz3 st3 hQ3
    subst y3 zz3
    obtain ⟨rfl, N3q, eh3⟩ := hQ3
    have N3 : Fr n0 L3 := Eq.mpr (congrArg (Fr n0) l3) (Fr.app N0 N3q)
    refine Gl.tr (B := (T3.setTop (mkF m 14 #[.val (.ref a1), .val (.ref a2), .val (.ref ta1), .val (.ref ta2), .unset] [(.int (0 : Int32))]))) st3 ?_
    refine Gl.step (B := (T3.setTop (mkF m 19 #[.val (.ref a1), .val (.ref a2), .val (.ref ta1), .val (.ref ta2), .val (.int (0 : Int32))] [(.ref a2), (.int (0 : Int32))]))) (fun t k => XS.istore X3.here hx rfl (hb hby d17_14) rfl (l' := #[.val (.ref a1), .val (.ref a2), .val (.ref ta1), .val (.ref ta2), .val (.int (0 : Int32))]) rfl (XS.iload X3.here hx rfl (hb hby d17_16) rfl (XS.aloadN X3.here hx rfl (hb hby d17_18) rfl rfl k))) ?_
    obtain ⟨cq4, kq4, q4a, q4b, q4c⟩ := isOf hZ eh3 ea2
    obtain ⟨_, _, ⟨T4, L4, c4, z4⟩, -, X4, ⟨Lc4, hQ4, l4, y4, zz4⟩, st4⟩ := X3.virtualBack hx (y := y6) (z := y6) hown (mvT hZ (t101 hw)) (mvT hZ (t102 hw)) (notFace_of_selects (args := #[]) (mvT hZ (t104 hw))) (mvT hZ (t104 hw)) (mvT hZ (t103 hw)) (by decide) (backOf (W := 1) (rcod l Z a0 hw [] a2 zc h0 n0 O0 pm0 (hz) ca2) hZ (t105 hw) (t7 hw) (by decide) (by decide)) q4a q4c (g := (mkF m 19 #[.val (.ref a1), .val (.ref a2), .val (.ref ta1), .val (.ref ta2), .val (.int (0 : Int32))] [(.ref a2), (.int (0 : Int32))])) rfl (by rw [hml]; rfl) (Steps.refl _) (argsL := []) (rest := [(.int (0 : Int32))]) (lenOf pd___B rfl) rfl (by show 2 * 0 + _ ≤ _; exact Nat.le_of_eq rfl) (hb hby d17_19) (fun _ _ => ⟨rfl, eh3, (by decide : 0 + 0 ≤ _), (by decide : 0 + 0 ≤ _)⟩)
    dsimp only [Pt.U, Pt.locs, Pt.cells, Pt.slots] at X4 l4 y4 zz4 st4 hQ4
    subst y4 zz4
    obtain ⟨rfl, N4q, eh4⟩ := hQ4
    have N4 : Fr n0 L4 := Eq.mpr (congrArg (Fr n0) l4) (Fr.app N3 N4q)
    refine Gl.tr (B := (T4.setTop (mkF m 22 #[.val (.ref a1), .val (.ref a2), .val (.ref ta1), .val (.ref ta2), .val (.int (0 : Int32))] [(.int (0 : Int32)), (.int (0 : Int32))]))) st4 ?_
    refine Gl.step (B := (T4.setTop (mkF m 32 #[.val (.ref a1), .val (.ref a2), .val (.ref ta1), .val (.ref ta2), .val (.int (0 : Int32))] [(.ref ta2), (.ref ta1)]))) (fun t k => XS.icmpNo X4.here hx rfl (hb hby d17_22) rfl (teq (rfl : (0 : Int32) = (0 : Int32))).2 (XS.iload X4.here hx rfl (hb hby d17_25) rfl (XS.ifNo X4.here hx rfl (hb hby d17_27) rfl ((if0 _ _).trans (teq (rfl : (0 : Int32) = (0 : Int32))).2) (XS.aloadN X4.here hx rfl (hb hby d17_30) rfl rfl (XS.aloadN X4.here hx rfl (hb hby d17_31) rfl rfl k))))) ?_
    obtain ⟨_, _, ⟨T5, L5, c5, z5⟩, -, X5, ⟨Lc5, hQ5, l5, y5, zz5⟩, st5⟩ := Jvm.LawKit.callS X4 hx (y := y10) hown (mvT hZ (t106 hw)) (mvT hZ (t107 hw)) (mvT hZ (t108 hw)) (mvT hZ (t109 hw)) (by decide) (backOf (W := 0) (rcc2 l Z a0 hw [] ta1 ta2 ka1 ka2 x y (x - y) h0 n0 O0 da1 da2 (own_cmpr hkx hky)) hZ (t109 hw) (t108 hw) (by decide) (by decide)) (g := (mkF m 32 #[.val (.ref a1), .val (.ref a2), .val (.ref ta1), .val (.ref ta2), .val (.int (0 : Int32))] [(.ref ta2), (.ref ta1)])) rfl (by rw [hml]; rfl) (argsL := [(.ref ta1), (.ref ta2)]) (rest := []) (lenOf pd___B_B_I rfl) rfl (by show 2 * 0 + _ ≤ _; exact Nat.le_of_eq rfl) (hb hby d17_32) (fun _ _ => ⟨rfl, eh4, (by decide : 0 + 0 ≤ _), (by decide : 0 + 0 ≤ _)⟩)
    dsimp only [Pt.U, Pt.locs, Pt.cells, Pt.slots] at X5 l5 y5 zz5 st5 hQ5
    subst y5 zz5
    obtain ⟨rfl, N5q, eh5⟩ := hQ5
    have N5 : Fr n0 L5 := Eq.mpr (congrArg (Fr n0) l5) (Fr.app N4 N5q)
    refine Gl.step (B := (T5.setTop (mkF m 35 #[.val (.ref a1), .val (.ref a2), .val (.ref ta1), .val (.ref ta2), .val (.int (0 : Int32))] [(.int (x - y))]))) st5 ?_
    refine Gl.step (B := (T5.setTop (mkF m 43 #[.val (.ref a1), .val (.ref a2), .val (.ref ta1), .val (.ref ta2), .val (.int (0 : Int32))] [(.int (x - y))]))) (fun t k => XS.goto X5.here hx rfl (pc0 := 35) (pc' := 43) rfl (hb hby d17_35) (by decide) (by decide) k) ?_
    obtain ⟨fs, hr, hrun, hended, hW, hsame⟩ := X5.leave (v := some (.int (x - y))) (fun h => by rw [Bd.returns] at h; cases h)
    refine ⟨_, _, ?_, hrun, hended, _, _, rfl, ?_, ⟨_, rfl⟩, hW, hsame.mono (by decide) (by decide)⟩
    · show Steps p.tables e below (T5.setTop (mkF m 43 #[.val (.ref a1), .val (.ref a2), .val (.ref ta1), .val (.ref ta2), .val (.int (0 : Int32))] [(.int (x - y))])) _
      exact retI X5 hx Bd.returns (hb hby d17_43) hr
    · show Q_rcmp Z a1 a2 x y zc h0 n0 _ T5.heap _
      rw [eh5]
      exact ⟨rfl, N5, rfl⟩
  obtain ⟨s₂, o, g1, g2, g3, g4⟩ := go
  exact ⟨s₂, o, castTop (ef_rcmp m a1 a2) g1, g2, g3, g4⟩
theorem ef_rval (m : MethodId) (x0 : Int32) : entryFrame m #[(.int x0)] 1 = mkF m 0 #[.val (.int x0)] [] := by first | (simp [entryFrame, mkF, argsToLocals, Value.category]; done) | rfl
theorem pn_java_lang_Integer : plainName "java/lang/Integer" = true := by first | (simp [plainName, overriddenIn]; done) | decide +kernel
abbrev y12 : MethodName := ⟨"java/lang/Integer", "valueOf", "(I)Ljava/lang/Integer;"⟩
theorem d10_0 : decode jdk_33_method_22_code 0 = .ok (.iload_n 0, 1) := by decide +kernel
theorem d10_1 : decode jdk_33_method_22_code 1 = .ok (.bipush (-128), 2) := by decide +kernel
theorem d10_3 : decode jdk_33_method_22_code 3 = .ok (.if_icmp .lt 20, 3) := by decide +kernel
theorem d10_6 : decode jdk_33_method_22_code 6 = .ok (.iload_n 0, 1) := by decide +kernel
theorem d10_7 : decode jdk_33_method_22_code 7 = .ok (.getstatic 191, 3) := by decide +kernel
theorem d10_10 : decode jdk_33_method_22_code 10 = .ok (.if_icmp .gt 13, 3) := by decide +kernel
theorem d10_13 : decode jdk_33_method_22_code 13 = .ok (.getstatic 195, 3) := by decide +kernel
theorem d10_16 : decode jdk_33_method_22_code 16 = .ok (.iload_n 0, 1) := by decide +kernel
theorem d10_17 : decode jdk_33_method_22_code 17 = .ok (.sipush 128, 3) := by decide +kernel
theorem d10_20 : decode jdk_33_method_22_code 20 = .ok (.iadd, 1) := by decide +kernel
theorem d10_21 : decode jdk_33_method_22_code 21 = .ok (.aaload, 1) := by decide +kernel
theorem d10_22 : decode jdk_33_method_22_code 22 = .ok (.areturn, 1) := by decide +kernel
def Q_rval (Z : State) (p1 : Int32) (va : Addr) (ca : Addr) (cl : Cell) (h0 : Heap) (n0 : Nat) (v : Option Value) (h : Heap) (L : List Loc) : Prop := v = some (.ref va) ∧ Fr n0 L ∧ h = h0
set_option maxRecDepth 65536 in
set_option maxHeartbeats 40000000 in
theorem rval (l : Launch) (Z : State) (a0 : Array Value) (hw : ∀ d ∈ tables_1, d.before a0 Z = true) (ws : List Jvm.Cond) (p1 : Int32) (va : Addr) (ca : Addr) (cl : Cell) (h0 : Heap) (n0 : Nat) (O0 : Old Z n0 h0) (pm0 : Sta Z Z.heap "java/lang/Integer$IntegerCache" "high" "I" (.int (127 : Int32))) (pm1 : Sta Z Z.heap "java/lang/Integer$IntegerCache" "cache" "[Ljava/lang/Integer;" (.ref ca)) (hA : Arr Z Z.heap ca cl (.object "java/lang/Integer")) (h1 : ¬ (p1 < (-128 : Int32))) (h2 : ¬ ((127 : Int32) < p1)) (hin : ¬ ((p1 + (128 : Int32)) < 0 ∨ cl.slots.size ≤ (p1 + (128 : Int32)).toNatClampNeg)) (hat : cl.slots[(p1 + (128 : Int32)).toNatClampNeg]? = some (.ref va)) :
    MetFree l y12 (head1 (Jvm.Cond.code y12 jdk_33_method_22_code 1 (some (.object "java/lang/Integer")) :: ws) ({ frames := 0, cells := 0, slots := 0, locals := 0 } : Room)) (fun a U => a = #[(.int p1)] ∧ Z.Warmed39 U.vm ∧ U.heap = h0) (fun _ _ _ _ _ => True) (fun _ U o U' => ∃ v L, o = .returned v ∧ Q_rval Z p1 va ca cl h0 n0 v U'.heap L ∧ FrameEnd U o U' L ({ frames := 0, cells := 0, slots := 0, locals := 0 } : Room).cells ({ frames := 0, cells := 0, slots := 0, locals := 0 } : Room).slots) := by
  refine MetFree.of_bodySF (plainFor_of_name pn_java_lang_Integer) hisR ?_
  intro p e s m args below meth c s₁ Bd hml0 hP hK
  obtain ⟨rfl, hZ, hh⟩ := hP
  have hx := Bd.exec
  have hby := Bd.bytes
  have hml : c.maxLocals = 1 := hml0
  have hown : s.vm.findClass "java/lang/Integer" = some m.cls := findClass_of_methodNamed Bd.named
  have hnm := (name_of_methodNamed Bd.named Bd.method).1
  have X0 : Stand p l e ({ frames := 0, cells := 0, slots := 0, locals := 0 } : Room) s m #[(.int p1)] below meth c s₁ [] 0 0 := Stand.of_body Bd
  have e0 : s₁.heap = h0 := by rw [← hh, Bd.state]; rfl
  have N0 := Fr.nil n0
  have K0 : Keep h0 h0 [] := Keep.refl h0 _
  have go : Gl p.tables e below (fun o U' => ∃ v L, o = .returned v ∧ Q_rval Z p1 va ca cl h0 n0 v U'.heap L ∧ FrameEnd s o U' L ({ frames := 0, cells := 0, slots := 0, locals := 0 } : Room).cells ({ frames := 0, cells := 0, slots := 0, locals := 0 } : Room).slots) (s₁.setTop (mkF m 0 #[.val (.int p1)] [])) := by
    refine Gl.step (B := (s₁.setTop (mkF m 7 #[.val (.int p1)] [(.int p1)]))) (fun t k => XS.iloadN X0.here hx rfl (hb hby d10_0) rfl (XS.bipush X0.here hx rfl (hb hby d10_1) (XS.icmpNo X0.here hx rfl (hb hby d10_3) rfl (flt (h1 : ¬ (p1 < (-128 : Int32)))).1 (XS.iloadN X0.here hx rfl (hb hby d10_6) rfl k)))) ?_
    obtain ⟨T1, X1, e1, st1⟩ := getS2 X0 hx hZ hown (host := "") (Or.inl (t54 hw)) Via.refl e0 (pm0.ext O0.2) (g := (mkF m 7 #[.val (.int p1)] [(.int p1)])) rfl (hb hby d10_7)
    refine Gl.step (B := (T1.setTop (mkF m 10 #[.val (.int p1)] [(.int (127 : Int32)), (.int p1)]))) st1 ?_
    refine Gl.step (B := (T1.setTop (mkF m 13 #[.val (.int p1)] []))) (fun t k => XS.icmpNo X1.here hx rfl (hb hby d10_10) rfl (flt (h2 : ¬ ((127 : Int32) < p1))).2.2.1 k) ?_
    obtain ⟨T2, X2, e2, st2⟩ := getS2 X1 hx hZ hown (host := "") (Or.inl (t56 hw)) Via.refl e1 (pm1.ext O0.2) (g := (mkF m 13 #[.val (.int p1)] [])) rfl (hb hby d10_13)
    refine Gl.step (B := (T2.setTop (mkF m 16 #[.val (.int p1)] [(.ref ca)]))) st2 ?_
    refine Gl.step (B := (T2.setTop (mkF m 22 #[.val (.int p1)] [(.ref va)]))) (fun t k => XS.iloadN X2.here hx rfl (hb hby d10_16) rfl (XS.sipush X2.here hx rfl (hb hby d10_17) (XS.iadd X2.here hx rfl (hb hby d10_20) rfl (X2.aaload hx (j := (p1 + (128 : Int32))) (v := (.ref va)) (by rw [e2]; exact O0.2.2 _ _ hA.1) (State.isArrayOf_alike hZ.alike hA.2.1) rfl hA.2.2 hin hat (g := (mkF m 21 #[.val (.int p1)] [(.int (p1 + (128 : Int32))), (.ref ca)])) rfl rfl (hb hby d10_21) _ k)))) ?_
    obtain ⟨fs, hr, hrun, hended, hW, hsame⟩ := X2.leave (v := some (.ref va)) (fun h => by rw [Bd.returns] at h; cases h)
    refine ⟨_, _, ?_, hrun, hended, _, _, rfl, ?_, ⟨_, rfl⟩, hW, hsame.mono (by decide) (by decide)⟩
    · show Steps p.tables e below (T2.setTop (mkF m 22 #[.val (.int p1)] [(.ref va)])) _
      jvm_step X2.here [X2.here.top, hx, (hb hby d10_22), X2.method', Bd.returns, Value.isRef, FieldType.isReference]
      first | (intro acts; rw [hr _ acts rfl rfl rfl]) | rw [hr _ _ rfl rfl rfl]
      exact Steps.refl _
    · show Q_rval Z p1 va ca cl h0 n0 _ T2.heap _
      rw [e2]
      exact ⟨rfl, N0, rfl⟩
  obtain ⟨s₂, o, g1, g2, g3, g4⟩ := go
  exact ⟨s₂, o, castTop (ef_rval m p1) g1, g2, g3, g4⟩
theorem ef_ri3NN (m : MethodId) (x0 : Addr) (x2 : Int32) : entryFrame m #[(.ref x0), .null, (.int x2), .null] 4 = mkF m 0 #[.val (.ref x0), .val .null, .val (.int x2), .val .null] [] := by first | (simp [entryFrame, mkF, argsToLocals, Value.category]; done) | rfl
abbrev y13 : MethodName := ⟨"com/example/isogloss/isogloss/util/PersistentMap", "<init>", "(Lcom/example/isogloss/isogloss/util/PersistentMap$Node;ILcom/example/isogloss/isogloss/util/PersistentMap;)V"⟩
theorem d9_0 : decode prog_164_method_2_code 0 = .ok (.aload_n 0, 1) := by decide +kernel
theorem d9_1 : decode prog_164_method_2_code 1 = .ok (.invokespecial 7, 3) := by decide +kernel
theorem d9_4 : decode prog_164_method_2_code 4 = .ok (.aload_n 0, 1) := by decide +kernel
theorem d9_5 : decode prog_164_method_2_code 5 = .ok (.aload_n 1, 1) := by decide +kernel
theorem d9_6 : decode prog_164_method_2_code 6 = .ok (.putfield 12, 3) := by decide +kernel
theorem d9_9 : decode prog_164_method_2_code 9 = .ok (.aload_n 0, 1) := by decide +kernel
theorem d9_10 : decode prog_164_method_2_code 10 = .ok (.iload_n 2, 1) := by decide +kernel
theorem d9_11 : decode prog_164_method_2_code 11 = .ok (.putfield 16, 3) := by decide +kernel
theorem d9_14 : decode prog_164_method_2_code 14 = .ok (.aload_n 0, 1) := by decide +kernel
theorem d9_15 : decode prog_164_method_2_code 15 = .ok (.aload_n 3, 1) := by decide +kernel
theorem d9_16 : decode prog_164_method_2_code 16 = .ok (.putfield 20, 3) := by decide +kernel
theorem d9_19 : decode prog_164_method_2_code 19 = .ok (.return_, 1) := by decide +kernel
def Q_ri3NN (Z : State) (a1 : Addr) (p3 : Int32) (h0 : Heap) (n0 : Nat) (v : Option Value) (h : Heap) (L : List Loc) : Prop := v = none ∧ Fr n0 L ∧ Keep h0 h [a1] ∧ (Exa Z h a1 own_PM) ∧ (Fld Z h a1 own_PM "root" own_LN .null) ∧ (Fld Z h a1 own_PM "size" "I" (.int p3)) ∧ (Fld Z h a1 own_PM "base" own_LP .null)
set_option maxRecDepth 65536 in
set_option maxHeartbeats 40000000 in
theorem ri3NN (l : Launch) (Z : State) (a0 : Array Value) (hw : ∀ d ∈ tables_1, d.before a0 Z = true) (ws : List Jvm.Cond) (a1 : Addr) (p3 : Int32) (h0 : Heap) (n0 : Nat) (O0 : Old Z n0 h0) (pm0 : Exa Z h0 a1 own_PM) (pm1 : Fld Z h0 a1 own_PM "root" own_LN .null) (pm2 : Fld Z h0 a1 own_PM "size" "I" (.int (0 : Int32))) (pm3 : Fld Z h0 a1 own_PM "base" own_LP .null) (pm4 : n0 ≤ a1) :
    MetFree l y13 (head1 (Jvm.Cond.code y13 prog_164_method_2_code 4 none :: ws) ({ frames := 1, cells := 0, slots := 0, locals := 12 } : Room)) (fun a U => a = #[(.ref a1), .null, (.int p3), .null] ∧ Z.Warmed39 U.vm ∧ U.heap = h0) (fun _ _ _ _ _ => True) (fun _ U o U' => ∃ v L, o = .returned v ∧ Q_ri3NN Z a1 p3 h0 n0 v U'.heap L ∧ FrameEnd U o U' L ({ frames := 1, cells := 0, slots := 0, locals := 12 } : Room).cells ({ frames := 1, cells := 0, slots := 0, locals := 12 } : Room).slots) := by
  refine MetFree.of_bodySF (plainFor_of_name pn_com_example_isogloss_isogloss_util_PersistentMap) hisR ?_
  intro p e s m args below meth c s₁ Bd hml0 hP hK
  obtain ⟨rfl, hZ, hh⟩ := hP
  have hx := Bd.exec
  have hby := Bd.bytes
  have hml : c.maxLocals = 4 := hml0
  have hown : s.vm.findClass own_PM = some m.cls := findClass_of_methodNamed Bd.named
  have hnm := (name_of_methodNamed Bd.named Bd.method).1
  have X0 : Stand p l e ({ frames := 1, cells := 0, slots := 0, locals := 12 } : Room) s m #[(.ref a1), .null, (.int p3), .null] below meth c s₁ [] 0 0 := Stand.of_body Bd
  have e0 : s₁.heap = h0 := by rw [← hh, Bd.state]; rfl
  have N0 := Fr.nil n0
  have K0 : Keep h0 h0 [a1] := Keep.refl h0 _
  have go : Gl p.tables e below (fun o U' => ∃ v L, o = .returned v ∧ Q_ri3NN Z a1 p3 h0 n0 v U'.heap L ∧ FrameEnd s o U' L ({ frames := 1, cells := 0, slots := 0, locals := 12 } : Room).cells ({ frames := 1, cells := 0, slots := 0, locals := 12 } : Room).slots) (s₁.setTop (mkF m 0 #[.val (.ref a1), .val .null, .val (.int p3), .val .null] [])) := by
    refine Gl.step (B := (s₁.setTop (mkF m 1 #[.val (.ref a1), .val .null, .val (.int p3), .val .null] [(.ref a1)]))) (fun t k => XS.aloadN X0.here hx rfl (hb hby d9_0) rfl rfl k) ?_
    obtain ⟨T1, X1, e1, st1⟩ := initO X0 hx hZ hown (t43 hw) (t16 hw) (t17 hw) e0 (g := (mkF m 1 #[.val (.ref a1), .val .null, .val (.int p3), .val .null] [(.ref a1)])) rfl (by rw [hml]; rfl) rfl (hb hby d9_1) (by decide) (W := 0) (by show 2 * 0 + _ ≤ _; exact Nat.le_of_eq rfl) (by decide)
    refine Gl.step (B := (T1.setTop (mkF m 4 #[.val (.ref a1), .val .null, .val (.int p3), .val .null] []))) st1 ?_
    refine Gl.step (B := (T1.setTop (mkF m 6 #[.val (.ref a1), .val .null, .val (.int p3), .val .null] [.null, (.ref a1)]))) (fun t k => XS.aloadN X1.here hx rfl (hb hby d9_4) rfl rfl (XS.aloadN X1.here hx rfl (hb hby d9_5) rfl rfl k)) ?_
    obtain ⟨T2, h2, X2, e2, W2, st2⟩ := putF X1 hx hZ hown (host := "") (Or.inl (t44 hw)) Via.refl e1 pm1 pm0 (Or.inr ⟨(t45 hw), rfl, hnm⟩) (t35 hw) (ty := (.object "com/example/isogloss/isogloss/util/PersistentMap$Node")) (by decide) rfl rfl (g := (mkF m 6 #[.val (.ref a1), .val .null, .val (.int p3), .val .null] [.null, (.ref a1)])) rfl rfl (hb hby d9_6)
    have Fw2 := pm1.same W2
    have N2 := Fr.snoc X2 N0 pm4
    have O3 : Old Z n0 h2 := O0.wr W2 pm4
    have K3 : Keep h0 h2 [a1] := K0.wr W2 (Or.inl (List.mem_of_getElem? (i := 0) rfl))
    refine Gl.step (B := (T2.setTop (mkF m 9 #[.val (.ref a1), .val .null, .val (.int p3), .val .null] []))) st2 ?_
    refine Gl.step (B := (T2.setTop (mkF m 11 #[.val (.ref a1), .val .null, .val (.int p3), .val .null] [(.int p3), (.ref a1)]))) (fun t k => XS.aloadN X2.here hx rfl (hb hby d9_9) rfl rfl (XS.iloadN X2.here hx rfl (hb hby d9_10) rfl k)) ?_
    have f4 := (pm0.wr W2)
    have f5 := (pm2.other W2 (Or.inr (slot_ne (Or.inr (t47 hw)) (Or.inr (t45 hw)) (by decide) (t := .int) (t' := (.object "com/example/isogloss/isogloss/util/PersistentMap$Node")) (by decide) (by decide))))
    obtain ⟨T6, h6, X6, e6, W6, st6⟩ := putF X2 hx hZ hown (host := "") (Or.inl (t46 hw)) Via.refl e2 f5 f4 (Or.inr ⟨(t47 hw), rfl, hnm⟩) (t35 hw) (ty := .int) (by decide) rfl rfl (g := (mkF m 11 #[.val (.ref a1), .val .null, .val (.int p3), .val .null] [(.int p3), (.ref a1)])) rfl rfl (hb hby d9_11)
    have Fw6 := f5.same W6
    have N6 := Fr.snoc X6 N2 pm4
    have O7 : Old Z n0 h6 := O3.wr W6 pm4
    have K7 : Keep h0 h6 [a1] := K3.wr W6 (Or.inl (List.mem_of_getElem? (i := 0) rfl))
    refine Gl.step (B := (T6.setTop (mkF m 14 #[.val (.ref a1), .val .null, .val (.int p3), .val .null] []))) st6 ?_
    refine Gl.step (B := (T6.setTop (mkF m 16 #[.val (.ref a1), .val .null, .val (.int p3), .val .null] [.null, (.ref a1)]))) (fun t k => XS.aloadN X6.here hx rfl (hb hby d9_14) rfl rfl (XS.aloadN X6.here hx rfl (hb hby d9_15) rfl rfl k)) ?_
    have f8 := (f4.wr W6)
    have f9 := ((pm3.other W2 (Or.inr (slot_ne (Or.inr (t49 hw)) (Or.inr (t45 hw)) (by decide) (t := (.object "com/example/isogloss/isogloss/util/PersistentMap")) (t' := (.object "com/example/isogloss/isogloss/util/PersistentMap$Node")) (by decide) (by decide)))).other W6 (Or.inr (slot_ne (Or.inr (t49 hw)) (Or.inr (t47 hw)) (by decide) (t := (.object "com/example/isogloss/isogloss/util/PersistentMap")) (t' := .int) (by decide) (by decide))))
    obtain ⟨T10, h10, X10, e10, W10, st10⟩ := putF X6 hx hZ hown (host := "") (Or.inl (t48 hw)) Via.refl e6 f9 f8 (Or.inr ⟨(t49 hw), rfl, hnm⟩) (t35 hw) (ty := (.object "com/example/isogloss/isogloss/util/PersistentMap")) (by decide) rfl rfl (g := (mkF m 16 #[.val (.ref a1), .val .null, .val (.int p3), .val .null] [.null, (.ref a1)])) rfl rfl (hb hby d9_16)
    have Fw10 := f9.same W10
    have N10 := Fr.snoc X10 N6 pm4
    have O11 : Old Z n0 h10 := O7.wr W10 pm4
    have K11 : Keep h0 h10 [a1] := K7.wr W10 (Or.inl (List.mem_of_getElem? (i := 0) rfl))
    refine Gl.step (B := (T10.setTop (mkF m 19 #[.val (.ref a1), .val .null, .val (.int p3), .val .null] []))) st10 ?_
    have f12 := (f8.wr W10)
    have f13 := ((Fw2.other W6 (Or.inr (slot_ne (Or.inr (t45 hw)) (Or.inr (t47 hw)) (by decide) (t := (.object "com/example/isogloss/isogloss/util/PersistentMap$Node")) (t' := .int) (by decide) (by decide)))).other W10 (Or.inr (slot_ne (Or.inr (t45 hw)) (Or.inr (t49 hw)) (by decide) (t := (.object "com/example/isogloss/isogloss/util/PersistentMap$Node")) (t' := (.object "com/example/isogloss/isogloss/util/PersistentMap")) (by decide) (by decide))))
    have f14 := (Fw6.other W10 (Or.inr (slot_ne (Or.inr (t47 hw)) (Or.inr (t49 hw)) (by decide) (t := .int) (t' := (.object "com/example/isogloss/isogloss/util/PersistentMap")) (by decide) (by decide))))
    obtain ⟨fs, hr, hrun, hended, hW, hsame⟩ := X10.leave (v := none) (fun _ => rfl)
    refine ⟨_, _, ?_, hrun, hended, _, _, rfl, ?_, ⟨_, rfl⟩, hW, hsame.mono (by decide) (by decide)⟩
    · show Steps p.tables e below (T10.setTop (mkF m 19 #[.val (.ref a1), .val .null, .val (.int p3), .val .null] [])) _
      exact X10.returnOut hx Bd.returns (hb hby d9_19) hr
    · show Q_ri3NN Z a1 p3 h0 n0 _ T10.heap _
      rw [e10]
      exact ⟨rfl, N10, K11, f12, f13, f14, Fw10⟩
  obtain ⟨s₂, o, g1, g2, g3, g4⟩ := go
  exact ⟨s₂, o, castTop (ef_ri3NN m a1 p3) g1, g2, g3, g4⟩
theorem ef_ri3RN (m : MethodId) (x0 : Addr) (x1 : Addr) (x2 : Int32) : entryFrame m #[(.ref x0), (.ref x1), (.int x2), .null] 4 = mkF m 0 #[.val (.ref x0), .val (.ref x1), .val (.int x2), .val .null] [] := by first | (simp [entryFrame, mkF, argsToLocals, Value.category]; done) | rfl
def Q_ri3RN (Z : State) (a1 : Addr) (ar : Addr) (p3 : Int32) (h0 : Heap) (n0 : Nat) (v : Option Value) (h : Heap) (L : List Loc) : Prop := v = none ∧ Fr n0 L ∧ Keep h0 h [a1] ∧ (Exa Z h a1 own_PM) ∧ (Fld Z h a1 own_PM "root" own_LN (.ref ar)) ∧ (Fld Z h a1 own_PM "size" "I" (.int p3)) ∧ (Fld Z h a1 own_PM "base" own_LP .null)
set_option maxRecDepth 65536 in
set_option maxHeartbeats 40000000 in
theorem ri3RN (l : Launch) (Z : State) (a0 : Array Value) (hw : ∀ d ∈ tables_1, d.before a0 Z = true) (ws : List Jvm.Cond) (a1 : Addr) (ar : Addr) (p3 : Int32) (h0 : Heap) (n0 : Nat) (O0 : Old Z n0 h0) (pm0 : Exa Z h0 a1 own_PM) (pm1 : Fld Z h0 a1 own_PM "root" own_LN .null) (pm2 : Fld Z h0 a1 own_PM "size" "I" (.int (0 : Int32))) (pm3 : Fld Z h0 a1 own_PM "base" own_LP .null) (pm4 : n0 ≤ a1) :
    MetFree l y13 (head1 (Jvm.Cond.code y13 prog_164_method_2_code 4 none :: ws) ({ frames := 1, cells := 0, slots := 0, locals := 12 } : Room)) (fun a U => a = #[(.ref a1), (.ref ar), (.int p3), .null] ∧ Z.Warmed39 U.vm ∧ U.heap = h0) (fun _ _ _ _ _ => True) (fun _ U o U' => ∃ v L, o = .returned v ∧ Q_ri3RN Z a1 ar p3 h0 n0 v U'.heap L ∧ FrameEnd U o U' L ({ frames := 1, cells := 0, slots := 0, locals := 12 } : Room).cells ({ frames := 1, cells := 0, slots := 0, locals := 12 } : Room).slots) := by
  refine MetFree.of_bodySF (plainFor_of_name pn_com_example_isogloss_isogloss_util_PersistentMap) hisR ?_
  intro p e s m args below meth c s₁ Bd hml0 hP hK
  obtain ⟨rfl, hZ, hh⟩ := hP
  have hx := Bd.exec
  have hby := Bd.bytes
  have hml : c.maxLocals = 4 := hml0
  have hown : s.vm.findClass own_PM = some m.cls := findClass_of_methodNamed Bd.named
  have hnm := (name_of_methodNamed Bd.named Bd.method).1
  have X0 : Stand p l e ({ frames := 1, cells := 0, slots := 0, locals := 12 } : Room) s m #[(.ref a1), (.ref ar), (.int p3), .null] below meth c s₁ [] 0 0 := Stand.of_body Bd
  have e0 : s₁.heap = h0 := by rw [← hh, Bd.state]; rfl
  have N0 := Fr.nil n0
  have K0 : Keep h0 h0 [a1] := Keep.refl h0 _
  have go : Gl p.tables e below (fun o U' => ∃ v L, o = .returned v ∧ Q_ri3RN Z a1 ar p3 h0 n0 v U'.heap L ∧ FrameEnd s o U' L ({ frames := 1, cells := 0, slots := 0, locals := 12 } : Room).cells ({ frames := 1, cells := 0, slots := 0, locals := 12 } : Room).slots) (s₁.setTop (mkF m 0 #[.val (.ref a1), .val (.ref ar), .val (.int p3), .val .null] [])) := by
    refine Gl.step (B := (s₁.setTop (mkF m 1 #[.val (.ref a1), .val (.ref ar), .val (.int p3), .val .null] [(.ref a1)]))) (fun t k => XS.aloadN X0.here hx rfl (hb hby d9_0) rfl rfl k) ?_
    obtain ⟨T1, X1, e1, st1⟩ := initO X0 hx hZ hown (t43 hw) (t16 hw) (t17 hw) e0 (g := (mkF m 1 #[.val (.ref a1), .val (.ref ar), .val (.int p3), .val .null] [(.ref a1)])) rfl (by rw [hml]; rfl) rfl (hb hby d9_1) (by decide) (W := 0) (by show 2 * 0 + _ ≤ _; exact Nat.le_of_eq rfl) (by decide)
    refine Gl.step (B := (T1.setTop (mkF m 4 #[.val (.ref a1), .val (.ref ar), .val (.int p3), .val .null] []))) st1 ?_
    refine Gl.step (B := (T1.setTop (mkF m 6 #[.val (.ref a1), .val (.ref ar), .val (.int p3), .val .null] [(.ref ar), (.ref a1)]))) (fun t k => XS.aloadN X1.here hx rfl (hb hby d9_4) rfl rfl (XS.aloadN X1.here hx rfl (hb hby d9_5) rfl rfl k)) ?_
    obtain ⟨T2, h2, X2, e2, W2, st2⟩ := putF X1 hx hZ hown (host := "") (Or.inl (t44 hw)) Via.refl e1 pm1 pm0 (Or.inr ⟨(t45 hw), rfl, hnm⟩) (t35 hw) (ty := (.object "com/example/isogloss/isogloss/util/PersistentMap$Node")) (by decide) rfl rfl (g := (mkF m 6 #[.val (.ref a1), .val (.ref ar), .val (.int p3), .val .null] [(.ref ar), (.ref a1)])) rfl rfl (hb hby d9_6)
    have Fw2 := pm1.same W2
    have N2 := Fr.snoc X2 N0 pm4
    have O3 : Old Z n0 h2 := O0.wr W2 pm4
    have K3 : Keep h0 h2 [a1] := K0.wr W2 (Or.inl (List.mem_of_getElem? (i := 0) rfl))
    refine Gl.step (B := (T2.setTop (mkF m 9 #[.val (.ref a1), .val (.ref ar), .val (.int p3), .val .null] []))) st2 ?_
    refine Gl.step (B := (T2.setTop (mkF m 11 #[.val (.ref a1), .val (.ref ar), .val (.int p3), .val .null] [(.int p3), (.ref a1)]))) (fun t k => XS.aloadN X2.here hx rfl (hb hby d9_9) rfl rfl (XS.iloadN X2.here hx rfl (hb hby d9_10) rfl k)) ?_
    have f4 := (pm0.wr W2)
    have f5 := (pm2.other W2 (Or.inr (slot_ne (Or.inr (t47 hw)) (Or.inr (t45 hw)) (by decide) (t := .int) (t' := (.object "com/example/isogloss/isogloss/util/PersistentMap$Node")) (by decide) (by decide))))
    obtain ⟨T6, h6, X6, e6, W6, st6⟩ := putF X2 hx hZ hown (host := "") (Or.inl (t46 hw)) Via.refl e2 f5 f4 (Or.inr ⟨(t47 hw), rfl, hnm⟩) (t35 hw) (ty := .int) (by decide) rfl rfl (g := (mkF m 11 #[.val (.ref a1), .val (.ref ar), .val (.int p3), .val .null] [(.int p3), (.ref a1)])) rfl rfl (hb hby d9_11)
    have Fw6 := f5.same W6
    have N6 := Fr.snoc X6 N2 pm4
    have O7 : Old Z n0 h6 := O3.wr W6 pm4
    have K7 : Keep h0 h6 [a1] := K3.wr W6 (Or.inl (List.mem_of_getElem? (i := 0) rfl))
    refine Gl.step (B := (T6.setTop (mkF m 14 #[.val (.ref a1), .val (.ref ar), .val (.int p3), .val .null] []))) st6 ?_
    refine Gl.step (B := (T6.setTop (mkF m 16 #[.val (.ref a1), .val (.ref ar), .val (.int p3), .val .null] [.null, (.ref a1)]))) (fun t k => XS.aloadN X6.here hx rfl (hb hby d9_14) rfl rfl (XS.aloadN X6.here hx rfl (hb hby d9_15) rfl rfl k)) ?_
    have f8 := (f4.wr W6)
    have f9 := ((pm3.other W2 (Or.inr (slot_ne (Or.inr (t49 hw)) (Or.inr (t45 hw)) (by decide) (t := (.object "com/example/isogloss/isogloss/util/PersistentMap")) (t' := (.object "com/example/isogloss/isogloss/util/PersistentMap$Node")) (by decide) (by decide)))).other W6 (Or.inr (slot_ne (Or.inr (t49 hw)) (Or.inr (t47 hw)) (by decide) (t := (.object "com/example/isogloss/isogloss/util/PersistentMap")) (t' := .int) (by decide) (by decide))))
    obtain ⟨T10, h10, X10, e10, W10, st10⟩ := putF X6 hx hZ hown (host := "") (Or.inl (t48 hw)) Via.refl e6 f9 f8 (Or.inr ⟨(t49 hw), rfl, hnm⟩) (t35 hw) (ty := (.object "com/example/isogloss/isogloss/util/PersistentMap")) (by decide) rfl rfl (g := (mkF m 16 #[.val (.ref a1), .val (.ref ar), .val (.int p3), .val .null] [.null, (.ref a1)])) rfl rfl (hb hby d9_16)
    have Fw10 := f9.same W10
    have N10 := Fr.snoc X10 N6 pm4
    have O11 : Old Z n0 h10 := O7.wr W10 pm4
    have K11 : Keep h0 h10 [a1] := K7.wr W10 (Or.inl (List.mem_of_getElem? (i := 0) rfl))
    refine Gl.step (B := (T10.setTop (mkF m 19 #[.val (.ref a1), .val (.ref ar), .val (.int p3), .val .null] []))) st10 ?_
    have f12 := (f8.wr W10)
    have f13 := ((Fw2.other W6 (Or.inr (slot_ne (Or.inr (t45 hw)) (Or.inr (t47 hw)) (by decide) (t := (.object "com/example/isogloss/isogloss/util/PersistentMap$Node")) (t' := .int) (by decide) (by decide)))).other W10 (Or.inr (slot_ne (Or.inr (t45 hw)) (Or.inr (t49 hw)) (by decide) (t := (.object "com/example/isogloss/isogloss/util/PersistentMap$Node")) (t' := (.object "com/example/isogloss/isogloss/util/PersistentMap")) (by decide) (by decide))))
    have f14 := (Fw6.other W10 (Or.inr (slot_ne (Or.inr (t47 hw)) (Or.inr (t49 hw)) (by decide) (t := .int) (t' := (.object "com/example/isogloss/isogloss/util/PersistentMap")) (by decide) (by decide))))
    obtain ⟨fs, hr, hrun, hended, hW, hsame⟩ := X10.leave (v := none) (fun _ => rfl)
    refine ⟨_, _, ?_, hrun, hended, _, _, rfl, ?_, ⟨_, rfl⟩, hW, hsame.mono (by decide) (by decide)⟩
    · show Steps p.tables e below (T10.setTop (mkF m 19 #[.val (.ref a1), .val (.ref ar), .val (.int p3), .val .null] [])) _
      exact X10.returnOut hx Bd.returns (hb hby d9_19) hr
    · show Q_ri3RN Z a1 ar p3 h0 n0 _ T10.heap _
      rw [e10]
      exact ⟨rfl, N10, K11, f12, f13, f14, Fw10⟩
  obtain ⟨s₂, o, g1, g2, g3, g4⟩ := go
  exact ⟨s₂, o, castTop (ef_ri3RN m a1 ar p3) g1, g2, g3, g4⟩
theorem ef_ri3RR (m : MethodId) (x0 : Addr) (x1 : Addr) (x2 : Int32) (x3 : Addr) : entryFrame m #[(.ref x0), (.ref x1), (.int x2), (.ref x3)] 4 = mkF m 0 #[.val (.ref x0), .val (.ref x1), .val (.int x2), .val (.ref x3)] [] := by first | (simp [entryFrame, mkF, argsToLocals, Value.category]; done) | rfl
def Q_ri3RR (Z : State) (a1 : Addr) (ar : Addr) (p3 : Int32) (ab : Addr) (h0 : Heap) (n0 : Nat) (v : Option Value) (h : Heap) (L : List Loc) : Prop := v = none ∧ Fr n0 L ∧ Keep h0 h [a1] ∧ (Exa Z h a1 own_PM) ∧ (Fld Z h a1 own_PM "root" own_LN (.ref ar)) ∧ (Fld Z h a1 own_PM "size" "I" (.int p3)) ∧ (Fld Z h a1 own_PM "base" own_LP (.ref ab))
set_option maxRecDepth 65536 in
set_option maxHeartbeats 40000000 in
theorem ri3RR (l : Launch) (Z : State) (a0 : Array Value) (hw : ∀ d ∈ tables_1, d.before a0 Z = true) (ws : List Jvm.Cond) (a1 : Addr) (ar : Addr) (p3 : Int32) (ab : Addr) (h0 : Heap) (n0 : Nat) (O0 : Old Z n0 h0) (pm0 : Exa Z h0 a1 own_PM) (pm1 : Fld Z h0 a1 own_PM "root" own_LN .null) (pm2 : Fld Z h0 a1 own_PM "size" "I" (.int (0 : Int32))) (pm3 : Fld Z h0 a1 own_PM "base" own_LP .null) (pm4 : n0 ≤ a1) :
    MetFree l y13 (head1 (Jvm.Cond.code y13 prog_164_method_2_code 4 none :: ws) ({ frames := 1, cells := 0, slots := 0, locals := 12 } : Room)) (fun a U => a = #[(.ref a1), (.ref ar), (.int p3), (.ref ab)] ∧ Z.Warmed39 U.vm ∧ U.heap = h0) (fun _ _ _ _ _ => True) (fun _ U o U' => ∃ v L, o = .returned v ∧ Q_ri3RR Z a1 ar p3 ab h0 n0 v U'.heap L ∧ FrameEnd U o U' L ({ frames := 1, cells := 0, slots := 0, locals := 12 } : Room).cells ({ frames := 1, cells := 0, slots := 0, locals := 12 } : Room).slots) := by
  refine MetFree.of_bodySF (plainFor_of_name pn_com_example_isogloss_isogloss_util_PersistentMap) hisR ?_
  intro p e s m args below meth c s₁ Bd hml0 hP hK
  obtain ⟨rfl, hZ, hh⟩ := hP
  have hx := Bd.exec
  have hby := Bd.bytes
  have hml : c.maxLocals = 4 := hml0
  have hown : s.vm.findClass own_PM = some m.cls := findClass_of_methodNamed Bd.named
  have hnm := (name_of_methodNamed Bd.named Bd.method).1
  have X0 : Stand p l e ({ frames := 1, cells := 0, slots := 0, locals := 12 } : Room) s m #[(.ref a1), (.ref ar), (.int p3), (.ref ab)] below meth c s₁ [] 0 0 := Stand.of_body Bd
  have e0 : s₁.heap = h0 := by rw [← hh, Bd.state]; rfl
  have N0 := Fr.nil n0
  have K0 : Keep h0 h0 [a1] := Keep.refl h0 _
  have go : Gl p.tables e below (fun o U' => ∃ v L, o = .returned v ∧ Q_ri3RR Z a1 ar p3 ab h0 n0 v U'.heap L ∧ FrameEnd s o U' L ({ frames := 1, cells := 0, slots := 0, locals := 12 } : Room).cells ({ frames := 1, cells := 0, slots := 0, locals := 12 } : Room).slots) (s₁.setTop (mkF m 0 #[.val (.ref a1), .val (.ref ar), .val (.int p3), .val (.ref ab)] [])) := by
    refine Gl.step (B := (s₁.setTop (mkF m 1 #[.val (.ref a1), .val (.ref ar), .val (.int p3), .val (.ref ab)] [(.ref a1)]))) (fun t k => XS.aloadN X0.here hx rfl (hb hby d9_0) rfl rfl k) ?_
    obtain ⟨T1, X1, e1, st1⟩ := initO X0 hx hZ hown (t43 hw) (t16 hw) (t17 hw) e0 (g := (mkF m 1 #[.val (.ref a1), .val (.ref ar), .val (.int p3), .val (.ref ab)] [(.ref a1)])) rfl (by rw [hml]; rfl) rfl (hb hby d9_1) (by decide) (W := 0) (by show 2 * 0 + _ ≤ _; exact Nat.le_of_eq rfl) (by decide)
    refine Gl.step (B := (T1.setTop (mkF m 4 #[.val (.ref a1), .val (.ref ar), .val (.int p3), .val (.ref ab)] []))) st1 ?_
    refine Gl.step (B := (T1.setTop (mkF m 6 #[.val (.ref a1), .val (.ref ar), .val (.int p3), .val (.ref ab)] [(.ref ar), (.ref a1)]))) (fun t k => XS.aloadN X1.here hx rfl (hb hby d9_4) rfl rfl (XS.aloadN X1.here hx rfl (hb hby d9_5) rfl rfl k)) ?_
    obtain ⟨T2, h2, X2, e2, W2, st2⟩ := putF X1 hx hZ hown (host := "") (Or.inl (t44 hw)) Via.refl e1 pm1 pm0 (Or.inr ⟨(t45 hw), rfl, hnm⟩) (t35 hw) (ty := (.object "com/example/isogloss/isogloss/util/PersistentMap$Node")) (by decide) rfl rfl (g := (mkF m 6 #[.val (.ref a1), .val (.ref ar), .val (.int p3), .val (.ref ab)] [(.ref ar), (.ref a1)])) rfl rfl (hb hby d9_6)
    have Fw2 := pm1.same W2
    have N2 := Fr.snoc X2 N0 pm4
    have O3 : Old Z n0 h2 := O0.wr W2 pm4
    have K3 : Keep h0 h2 [a1] := K0.wr W2 (Or.inl (List.mem_of_getElem? (i := 0) rfl))
    refine Gl.step (B := (T2.setTop (mkF m 9 #[.val (.ref a1), .val (.ref ar), .val (.int p3), .val (.ref ab)] []))) st2 ?_
    refine Gl.step (B := (T2.setTop (mkF m 11 #[.val (.ref a1), .val (.ref ar), .val (.int p3), .val (.ref ab)] [(.int p3), (.ref a1)]))) (fun t k => XS.aloadN X2.here hx rfl (hb hby d9_9) rfl rfl (XS.iloadN X2.here hx rfl (hb hby d9_10) rfl k)) ?_
    have f4 := (pm0.wr W2)
    have f5 := (pm2.other W2 (Or.inr (slot_ne (Or.inr (t47 hw)) (Or.inr (t45 hw)) (by decide) (t := .int) (t' := (.object "com/example/isogloss/isogloss/util/PersistentMap$Node")) (by decide) (by decide))))
    obtain ⟨T6, h6, X6, e6, W6, st6⟩ := putF X2 hx hZ hown (host := "") (Or.inl (t46 hw)) Via.refl e2 f5 f4 (Or.inr ⟨(t47 hw), rfl, hnm⟩) (t35 hw) (ty := .int) (by decide) rfl rfl (g := (mkF m 11 #[.val (.ref a1), .val (.ref ar), .val (.int p3), .val (.ref ab)] [(.int p3), (.ref a1)])) rfl rfl (hb hby d9_11)
    have Fw6 := f5.same W6
    have N6 := Fr.snoc X6 N2 pm4
    have O7 : Old Z n0 h6 := O3.wr W6 pm4
    have K7 : Keep h0 h6 [a1] := K3.wr W6 (Or.inl (List.mem_of_getElem? (i := 0) rfl))
    refine Gl.step (B := (T6.setTop (mkF m 14 #[.val (.ref a1), .val (.ref ar), .val (.int p3), .val (.ref ab)] []))) st6 ?_
    refine Gl.step (B := (T6.setTop (mkF m 16 #[.val (.ref a1), .val (.ref ar), .val (.int p3), .val (.ref ab)] [(.ref ab), (.ref a1)]))) (fun t k => XS.aloadN X6.here hx rfl (hb hby d9_14) rfl rfl (XS.aloadN X6.here hx rfl (hb hby d9_15) rfl rfl k)) ?_
    have f8 := (f4.wr W6)
    have f9 := ((pm3.other W2 (Or.inr (slot_ne (Or.inr (t49 hw)) (Or.inr (t45 hw)) (by decide) (t := (.object "com/example/isogloss/isogloss/util/PersistentMap")) (t' := (.object "com/example/isogloss/isogloss/util/PersistentMap$Node")) (by decide) (by decide)))).other W6 (Or.inr (slot_ne (Or.inr (t49 hw)) (Or.inr (t47 hw)) (by decide) (t := (.object "com/example/isogloss/isogloss/util/PersistentMap")) (t' := .int) (by decide) (by decide))))
    obtain ⟨T10, h10, X10, e10, W10, st10⟩ := putF X6 hx hZ hown (host := "") (Or.inl (t48 hw)) Via.refl e6 f9 f8 (Or.inr ⟨(t49 hw), rfl, hnm⟩) (t35 hw) (ty := (.object "com/example/isogloss/isogloss/util/PersistentMap")) (by decide) rfl rfl (g := (mkF m 16 #[.val (.ref a1), .val (.ref ar), .val (.int p3), .val (.ref ab)] [(.ref ab), (.ref a1)])) rfl rfl (hb hby d9_16)
    have Fw10 := f9.same W10
    have N10 := Fr.snoc X10 N6 pm4
    have O11 : Old Z n0 h10 := O7.wr W10 pm4
    have K11 : Keep h0 h10 [a1] := K7.wr W10 (Or.inl (List.mem_of_getElem? (i := 0) rfl))
    refine Gl.step (B := (T10.setTop (mkF m 19 #[.val (.ref a1), .val (.ref ar), .val (.int p3), .val (.ref ab)] []))) st10 ?_
    have f12 := (f8.wr W10)
    have f13 := ((Fw2.other W6 (Or.inr (slot_ne (Or.inr (t45 hw)) (Or.inr (t47 hw)) (by decide) (t := (.object "com/example/isogloss/isogloss/util/PersistentMap$Node")) (t' := .int) (by decide) (by decide)))).other W10 (Or.inr (slot_ne (Or.inr (t45 hw)) (Or.inr (t49 hw)) (by decide) (t := (.object "com/example/isogloss/isogloss/util/PersistentMap$Node")) (t' := (.object "com/example/isogloss/isogloss/util/PersistentMap")) (by decide) (by decide))))
    have f14 := (Fw6.other W10 (Or.inr (slot_ne (Or.inr (t47 hw)) (Or.inr (t49 hw)) (by decide) (t := .int) (t' := (.object "com/example/isogloss/isogloss/util/PersistentMap")) (by decide) (by decide))))
    obtain ⟨fs, hr, hrun, hended, hW, hsame⟩ := X10.leave (v := none) (fun _ => rfl)
    refine ⟨_, _, ?_, hrun, hended, _, _, rfl, ?_, ⟨_, rfl⟩, hW, hsame.mono (by decide) (by decide)⟩
    · show Steps p.tables e below (T10.setTop (mkF m 19 #[.val (.ref a1), .val (.ref ar), .val (.int p3), .val (.ref ab)] [])) _
      exact X10.returnOut hx Bd.returns (hb hby d9_19) hr
    · show Q_ri3RR Z a1 ar p3 ab h0 n0 _ T10.heap _
      rw [e10]
      exact ⟨rfl, N10, K11, f12, f13, f14, Fw10⟩
  obtain ⟨s₂, o, g1, g2, g3, g4⟩ := go
  exact ⟨s₂, o, castTop (ef_ri3RR m a1 ar p3 ab) g1, g2, g3, g4⟩
theorem ef_ri0 (m : MethodId) (x0 : Addr) : entryFrame m #[(.ref x0)] 1 = mkF m 0 #[.val (.ref x0)] [] := by first | (simp [entryFrame, mkF, argsToLocals, Value.category]; done) | rfl
abbrev y14 : MethodName := ⟨"com/example/isogloss/isogloss/util/PersistentMap", "<init>", "()V"⟩
theorem d8_0 : decode prog_164_method_1_code 0 = .ok (.aload_n 0, 1) := by decide +kernel
theorem d8_1 : decode prog_164_method_1_code 1 = .ok (.aconst_null, 1) := by decide +kernel
theorem d8_2 : decode prog_164_method_1_code 2 = .ok (.iconst 0, 1) := by decide +kernel
theorem d8_3 : decode prog_164_method_1_code 3 = .ok (.aconst_null, 1) := by decide +kernel
theorem d8_4 : decode prog_164_method_1_code 4 = .ok (.invokespecial 1, 3) := by decide +kernel
theorem pd__Lcom_example_isogloss_isogloss_util_PersistentMap_Node_ILcom_example_isogloss_isogloss_util_PersistentMap__V : parseMethodDescriptor "(Lcom/example/isogloss/isogloss/util/PersistentMap$Node;ILcom/example/isogloss/isogloss/util/PersistentMap;)V" = some ⟨[(.object "com/example/isogloss/isogloss/util/PersistentMap$Node"), .int, (.object "com/example/isogloss/isogloss/util/PersistentMap")], none⟩ := by decide +kernel
theorem d8_7 : decode prog_164_method_1_code 7 = .ok (.return_, 1) := by decide +kernel
def Q_ri0 (Z : State) (a1 : Addr) (h0 : Heap) (n0 : Nat) (v : Option Value) (h : Heap) (L : List Loc) : Prop := v = none ∧ Fr n0 L ∧ Keep h0 h [a1] ∧ (Exa Z h a1 own_PM) ∧ (Fld Z h a1 own_PM "root" own_LN .null) ∧ (Fld Z h a1 own_PM "size" "I" (.int (0 : Int32))) ∧ (Fld Z h a1 own_PM "base" own_LP .null)
set_option maxRecDepth 65536 in
set_option maxHeartbeats 40000000 in
theorem ri0 (l : Launch) (Z : State) (a0 : Array Value) (hw : ∀ d ∈ tables_1, d.before a0 Z = true) (ws : List Jvm.Cond) (a1 : Addr) (h0 : Heap) (n0 : Nat) (O0 : Old Z n0 h0) (pm0 : Exa Z h0 a1 own_PM) (pm1 : Fld Z h0 a1 own_PM "root" own_LN .null) (pm2 : Fld Z h0 a1 own_PM "size" "I" (.int (0 : Int32))) (pm3 : Fld Z h0 a1 own_PM "base" own_LP .null) (pm4 : n0 ≤ a1) :
    MetFree l y14 (head1 (Jvm.Cond.code y14 prog_164_method_1_code 1 none :: ws) ({ frames := 2, cells := 0, slots := 0, locals := 27 } : Room)) (fun a U => a = #[(.ref a1)] ∧ Z.Warmed39 U.vm ∧ U.heap = h0) (fun _ _ _ _ _ => True) (fun _ U o U' => ∃ v L, o = .returned v ∧ Q_ri0 Z a1 h0 n0 v U'.heap L ∧ FrameEnd U o U' L ({ frames := 2, cells := 0, slots := 0, locals := 27 } : Room).cells ({ frames := 2, cells := 0, slots := 0, locals := 27 } : Room).slots) := by
  refine MetFree.of_bodySF (plainFor_of_name pn_com_example_isogloss_isogloss_util_PersistentMap) hisR ?_
  intro p e s m args below meth c s₁ Bd hml0 hP hK
  obtain ⟨rfl, hZ, hh⟩ := hP
  have hx := Bd.exec
  have hby := Bd.bytes
  have hml : c.maxLocals = 1 := hml0
  have hown : s.vm.findClass own_PM = some m.cls := findClass_of_methodNamed Bd.named
  have hnm := (name_of_methodNamed Bd.named Bd.method).1
  have X0 : Stand p l e ({ frames := 2, cells := 0, slots := 0, locals := 27 } : Room) s m #[(.ref a1)] below meth c s₁ [] 0 0 := Stand.of_body Bd
  have e0 : s₁.heap = h0 := by rw [← hh, Bd.state]; rfl
  have N0 := Fr.nil n0
  have K0 : Keep h0 h0 [a1] := Keep.refl h0 _
  have go : Gl p.tables e below (fun o U' => ∃ v L, o = .returned v ∧ Q_ri0 Z a1 h0 n0 v U'.heap L ∧ FrameEnd s o U' L ({ frames := 2, cells := 0, slots := 0, locals := 27 } : Room).cells ({ frames := 2, cells := 0, slots := 0, locals := 27 } : Room).slots) (s₁.setTop (mkF m 0 #[.val (.ref a1)] [])) := by
    refine Gl.step (B := (s₁.setTop (mkF m 4 #[.val (.ref a1)] [.null, (.int (0 : Int32)), .null, (.ref a1)]))) (fun t k => XS.aloadN X0.here hx rfl (hb hby d8_0) rfl rfl (XS.aconstNull X0.here hx rfl (hb hby d8_1) (XS.iconst X0.here hx rfl (hb hby d8_2) (XS.aconstNull X0.here hx rfl (hb hby d8_3) k)))) ?_
    obtain ⟨_, _, ⟨T1, L1, c1, z1⟩, -, X1, ⟨Lc1, hQ1, l1, y1, zz1⟩, st1⟩ := X0.specialBack hx (y := y13) rfl hown (mvT hZ (t40 hw)) (mvT hZ (t41 hw)) (mvT hZ (t42 hw)) (by decide) (backOf (W := 0) (ri3NN l Z a0 hw [] a1 (0 : Int32) h0 n0 O0 pm0 pm1 pm2 pm3 pm4) hZ (t42 hw) (t36 hw) (by decide) (by decide)) (g := (mkF m 4 #[.val (.ref a1)] [.null, (.int (0 : Int32)), .null, (.ref a1)])) rfl (by rw [hml]; rfl) (Steps.refl _) (a := a1) (argsL := [.null, (.int (0 : Int32)), .null]) (rest := []) (lenOf pd__Lcom_example_isogloss_isogloss_util_PersistentMap_Node_ILcom_example_isogloss_isogloss_util_PersistentMap__V rfl) rfl (by show 2 * 0 + _ ≤ _; exact Nat.le_of_eq rfl) (hb hby d8_4) (fun _ _ => ⟨rfl, e0, (by decide : 0 + 0 ≤ _), (by decide : 0 + 0 ≤ _)⟩)
    dsimp only [Pt.U, Pt.locs, Pt.cells, Pt.slots] at X1 l1 y1 zz1 st1 hQ1
    subst y1 zz1
    obtain ⟨rfl, N1q, Kc1, r0_1, r1_1, r2_1, r3_1⟩ := hQ1
    have N1 : Fr n0 L1 := Eq.mpr (congrArg (Fr n0) l1) (Fr.app N0 N1q)
    have O2 : Old Z n0 T1.heap := O0.keep Kc1 (allS pm4 all0)
    have K2 : Keep h0 T1.heap [a1] := K0.trans Kc1 (allS (Or.inl (List.mem_of_getElem? (i := 0) rfl)) all0)
    refine Gl.tr (B := (T1.setTop (mkF m 7 #[.val (.ref a1)] []))) st1 ?_
    obtain ⟨fs, hr, hrun, hended, hW, hsame⟩ := X1.leave (v := none) (fun _ => rfl)
    refine ⟨_, _, ?_, hrun, hended, _, _, rfl, ?_, ⟨_, rfl⟩, hW, hsame.mono (by decide) (by decide)⟩
    · show Steps p.tables e below (T1.setTop (mkF m 7 #[.val (.ref a1)] [])) _
      exact X1.returnOut hx Bd.returns (hb hby d8_7) hr
    · show Q_ri0 Z a1 h0 n0 _ T1.heap _
      exact ⟨rfl, N1, K2, r0_1, r1_1, r2_1, r3_1⟩
  obtain ⟨s₂, o, g1, g2, g3, g4⟩ := go
  exact ⟨s₂, o, castTop (ef_ri0 m a1) g1, g2, g3, g4⟩
theorem ef_rbal (m : MethodId) (x0 : Addr) (x1 : Addr) (x2 : Value) (x3 : Value) (hx2 : x2.isRef = true) (hx3 : x3.isRef = true) : entryFrame m #[(.ref x0), (.ref x1), x2, x3] 5 = mkF m 0 #[.val (.ref x0), .val (.ref x1), .val x2, .val x3, .unset] [] := by rcases ref_cases hx2 with rfl | ⟨_, rfl⟩ <;> rcases ref_cases hx3 with rfl | ⟨_, rfl⟩ <;> first | (simp [entryFrame, mkF, argsToLocals, Value.category]; done) | rfl
abbrev y15 : MethodName := ⟨"com/example/isogloss/isogloss/util/PersistentMap", "balanced", "(Ljava/lang/String;Ljava/lang/Object;Lcom/example/isogloss/isogloss/util/PersistentMap$Node;Lcom/example/isogloss/isogloss/util/PersistentMap$Node;)Lcom/example/isogloss/isogloss/util/PersistentMap$Node;"⟩
theorem d26_0 : decode prog_164_method_12_code 0 = .ok (.aload_n 2, 1) := by decide +kernel
theorem d26_1 : decode prog_164_method_12_code 1 = .ok (.invokestatic 126, 3) := by decide +kernel
theorem d26_4 : decode prog_164_method_12_code 4 = .ok (.aload_n 3, 1) := by decide +kernel
theorem d26_5 : decode prog_164_method_12_code 5 = .ok (.invokestatic 126, 3) := by decide +kernel
theorem d26_8 : decode prog_164_method_12_code 8 = .ok (.iconst 1, 1) := by decide +kernel
theorem d26_9 : decode prog_164_method_12_code 9 = .ok (.iadd, 1) := by decide +kernel
theorem d26_10 : decode prog_164_method_12_code 10 = .ok (.if_icmp .le 117, 3) := by decide +kernel
theorem d26_13 : decode prog_164_method_12_code 13 = .ok (.aload_n 2, 1) := by decide +kernel
theorem d26_14 : decode prog_164_method_12_code 14 = .ok (.getfield 40, 3) := by decide +kernel
theorem d26_17 : decode prog_164_method_12_code 17 = .ok (.invokestatic 126, 3) := by decide +kernel
theorem d26_20 : decode prog_164_method_12_code 20 = .ok (.aload_n 2, 1) := by decide +kernel
theorem d26_21 : decode prog_164_method_12_code 21 = .ok (.getfield 43, 3) := by decide +kernel
theorem d26_24 : decode prog_164_method_12_code 24 = .ok (.invokestatic 126, 3) := by decide +kernel
theorem d26_27 : decode prog_164_method_12_code 27 = .ok (.if_icmp .lt 37, 3) := by decide +kernel
theorem d26_64 : decode prog_164_method_12_code 64 = .ok (.aload_n 2, 1) := by decide +kernel
theorem d26_65 : decode prog_164_method_12_code 65 = .ok (.getfield 43, 3) := by decide +kernel
theorem d26_68 : decode prog_164_method_12_code 68 = .ok (.astore 4, 2) := by decide +kernel
theorem d26_70 : decode prog_164_method_12_code 70 = .ok (.new 25, 3) := by decide +kernel
theorem d26_73 : decode prog_164_method_12_code 73 = .ok (.dup, 1) := by decide +kernel
theorem d26_74 : decode prog_164_method_12_code 74 = .ok (.aload 4, 2) := by decide +kernel
theorem d26_76 : decode prog_164_method_12_code 76 = .ok (.getfield 24, 3) := by decide +kernel
theorem d26_79 : decode prog_164_method_12_code 79 = .ok (.aload 4, 2) := by decide +kernel
theorem d26_81 : decode prog_164_method_12_code 81 = .ok (.getfield 36, 3) := by decide +kernel
theorem d26_84 : decode prog_164_method_12_code 84 = .ok (.new 25, 3) := by decide +kernel
theorem d26_87 : decode prog_164_method_12_code 87 = .ok (.dup, 1) := by decide +kernel
theorem d26_88 : decode prog_164_method_12_code 88 = .ok (.aload_n 2, 1) := by decide +kernel
theorem d26_89 : decode prog_164_method_12_code 89 = .ok (.getfield 24, 3) := by decide +kernel
theorem d26_92 : decode prog_164_method_12_code 92 = .ok (.aload_n 2, 1) := by decide +kernel
theorem d26_93 : decode prog_164_method_12_code 93 = .ok (.getfield 36, 3) := by decide +kernel
theorem d26_96 : decode prog_164_method_12_code 96 = .ok (.aload_n 2, 1) := by decide +kernel
theorem d26_97 : decode prog_164_method_12_code 97 = .ok (.getfield 40, 3) := by decide +kernel
theorem d26_100 : decode prog_164_method_12_code 100 = .ok (.aload 4, 2) := by decide +kernel
theorem d26_102 : decode prog_164_method_12_code 102 = .ok (.getfield 40, 3) := by decide +kernel
theorem d26_105 : decode prog_164_method_12_code 105 = .ok (.invokespecial 119, 3) := by decide +kernel
theorem pd__Ljava_lang_String_Ljava_lang_Object_Lcom_example_isogloss_isogloss_util_PersistentMap_Node_Lcom_example_isogloss_isogloss_util_PersistentMap_Node__V : parseMethodDescriptor "(Ljava/lang/String;Ljava/lang/Object;Lcom/example/isogloss/isogloss/util/PersistentMap$Node;Lcom/example/isogloss/isogloss/util/PersistentMap$Node;)V" = some ⟨[(.object "java/lang/String"), (.object "java/lang/Object"), (.object "com/example/isogloss/isogloss/util/PersistentMap$Node"), (.object "com/example/isogloss/isogloss/util/PersistentMap$Node")], none⟩ := by decide +kernel
theorem d26_108 : decode prog_164_method_12_code 108 = .ok (.new 25, 3) := by decide +kernel
theorem d26_111 : decode prog_164_method_12_code 111 = .ok (.dup, 1) := by decide +kernel
theorem d26_112 : decode prog_164_method_12_code 112 = .ok (.aload_n 0, 1) := by decide +kernel
theorem d26_113 : decode prog_164_method_12_code 113 = .ok (.aload_n 1, 1) := by decide +kernel
theorem d26_114 : decode prog_164_method_12_code 114 = .ok (.aload 4, 2) := by decide +kernel
theorem d26_116 : decode prog_164_method_12_code 116 = .ok (.getfield 43, 3) := by decide +kernel
theorem d26_119 : decode prog_164_method_12_code 119 = .ok (.aload_n 3, 1) := by decide +kernel
theorem d26_120 : decode prog_164_method_12_code 120 = .ok (.invokespecial 119, 3) := by decide +kernel
theorem d26_123 : decode prog_164_method_12_code 123 = .ok (.invokespecial 119, 3) := by decide +kernel
theorem d26_126 : decode prog_164_method_12_code 126 = .ok (.areturn, 1) := by decide +kernel
theorem d26_30 : decode prog_164_method_12_code 30 = .ok (.new 25, 3) := by decide +kernel
theorem d26_33 : decode prog_164_method_12_code 33 = .ok (.dup, 1) := by decide +kernel
theorem d26_34 : decode prog_164_method_12_code 34 = .ok (.aload_n 2, 1) := by decide +kernel
theorem d26_35 : decode prog_164_method_12_code 35 = .ok (.getfield 24, 3) := by decide +kernel
theorem d26_38 : decode prog_164_method_12_code 38 = .ok (.aload_n 2, 1) := by decide +kernel
theorem d26_39 : decode prog_164_method_12_code 39 = .ok (.getfield 36, 3) := by decide +kernel
theorem d26_42 : decode prog_164_method_12_code 42 = .ok (.aload_n 2, 1) := by decide +kernel
theorem d26_43 : decode prog_164_method_12_code 43 = .ok (.getfield 40, 3) := by decide +kernel
theorem d26_46 : decode prog_164_method_12_code 46 = .ok (.new 25, 3) := by decide +kernel
theorem d26_49 : decode prog_164_method_12_code 49 = .ok (.dup, 1) := by decide +kernel
theorem d26_50 : decode prog_164_method_12_code 50 = .ok (.aload_n 0, 1) := by decide +kernel
theorem d26_51 : decode prog_164_method_12_code 51 = .ok (.aload_n 1, 1) := by decide +kernel
theorem d26_52 : decode prog_164_method_12_code 52 = .ok (.aload_n 2, 1) := by decide +kernel
theorem d26_53 : decode prog_164_method_12_code 53 = .ok (.getfield 43, 3) := by decide +kernel
theorem d26_56 : decode prog_164_method_12_code 56 = .ok (.aload_n 3, 1) := by decide +kernel
theorem d26_57 : decode prog_164_method_12_code 57 = .ok (.invokespecial 119, 3) := by decide +kernel
theorem d26_60 : decode prog_164_method_12_code 60 = .ok (.invokespecial 119, 3) := by decide +kernel
theorem d26_63 : decode prog_164_method_12_code 63 = .ok (.areturn, 1) := by decide +kernel
theorem d26_127 : decode prog_164_method_12_code 127 = .ok (.aload_n 3, 1) := by decide +kernel
theorem d26_128 : decode prog_164_method_12_code 128 = .ok (.invokestatic 126, 3) := by decide +kernel
theorem d26_131 : decode prog_164_method_12_code 131 = .ok (.aload_n 2, 1) := by decide +kernel
theorem d26_132 : decode prog_164_method_12_code 132 = .ok (.invokestatic 126, 3) := by decide +kernel
theorem d26_135 : decode prog_164_method_12_code 135 = .ok (.iconst 1, 1) := by decide +kernel
theorem d26_136 : decode prog_164_method_12_code 136 = .ok (.iadd, 1) := by decide +kernel
theorem d26_137 : decode prog_164_method_12_code 137 = .ok (.if_icmp .le 117, 3) := by decide +kernel
theorem d26_140 : decode prog_164_method_12_code 140 = .ok (.aload_n 3, 1) := by decide +kernel
theorem d26_141 : decode prog_164_method_12_code 141 = .ok (.getfield 43, 3) := by decide +kernel
theorem d26_144 : decode prog_164_method_12_code 144 = .ok (.invokestatic 126, 3) := by decide +kernel
theorem d26_147 : decode prog_164_method_12_code 147 = .ok (.aload_n 3, 1) := by decide +kernel
theorem d26_148 : decode prog_164_method_12_code 148 = .ok (.getfield 40, 3) := by decide +kernel
theorem d26_151 : decode prog_164_method_12_code 151 = .ok (.invokestatic 126, 3) := by decide +kernel
theorem d26_154 : decode prog_164_method_12_code 154 = .ok (.if_icmp .lt 37, 3) := by decide +kernel
theorem d26_191 : decode prog_164_method_12_code 191 = .ok (.aload_n 3, 1) := by decide +kernel
theorem d26_192 : decode prog_164_method_12_code 192 = .ok (.getfield 40, 3) := by decide +kernel
theorem d26_195 : decode prog_164_method_12_code 195 = .ok (.astore 4, 2) := by decide +kernel
theorem d26_197 : decode prog_164_method_12_code 197 = .ok (.new 25, 3) := by decide +kernel
theorem d26_200 : decode prog_164_method_12_code 200 = .ok (.dup, 1) := by decide +kernel
theorem d26_201 : decode prog_164_method_12_code 201 = .ok (.aload 4, 2) := by decide +kernel
theorem d26_203 : decode prog_164_method_12_code 203 = .ok (.getfield 24, 3) := by decide +kernel
theorem d26_206 : decode prog_164_method_12_code 206 = .ok (.aload 4, 2) := by decide +kernel
theorem d26_208 : decode prog_164_method_12_code 208 = .ok (.getfield 36, 3) := by decide +kernel
theorem d26_211 : decode prog_164_method_12_code 211 = .ok (.new 25, 3) := by decide +kernel
theorem d26_214 : decode prog_164_method_12_code 214 = .ok (.dup, 1) := by decide +kernel
theorem d26_215 : decode prog_164_method_12_code 215 = .ok (.aload_n 0, 1) := by decide +kernel
theorem d26_216 : decode prog_164_method_12_code 216 = .ok (.aload_n 1, 1) := by decide +kernel
theorem d26_217 : decode prog_164_method_12_code 217 = .ok (.aload_n 2, 1) := by decide +kernel
theorem d26_218 : decode prog_164_method_12_code 218 = .ok (.aload 4, 2) := by decide +kernel
theorem d26_220 : decode prog_164_method_12_code 220 = .ok (.getfield 40, 3) := by decide +kernel
theorem d26_223 : decode prog_164_method_12_code 223 = .ok (.invokespecial 119, 3) := by decide +kernel
theorem d26_226 : decode prog_164_method_12_code 226 = .ok (.new 25, 3) := by decide +kernel
theorem d26_229 : decode prog_164_method_12_code 229 = .ok (.dup, 1) := by decide +kernel
theorem d26_230 : decode prog_164_method_12_code 230 = .ok (.aload_n 3, 1) := by decide +kernel
theorem d26_231 : decode prog_164_method_12_code 231 = .ok (.getfield 24, 3) := by decide +kernel
theorem d26_234 : decode prog_164_method_12_code 234 = .ok (.aload_n 3, 1) := by decide +kernel
theorem d26_235 : decode prog_164_method_12_code 235 = .ok (.getfield 36, 3) := by decide +kernel
theorem d26_238 : decode prog_164_method_12_code 238 = .ok (.aload 4, 2) := by decide +kernel
theorem d26_240 : decode prog_164_method_12_code 240 = .ok (.getfield 43, 3) := by decide +kernel
theorem d26_243 : decode prog_164_method_12_code 243 = .ok (.aload_n 3, 1) := by decide +kernel
theorem d26_244 : decode prog_164_method_12_code 244 = .ok (.getfield 43, 3) := by decide +kernel
theorem d26_247 : decode prog_164_method_12_code 247 = .ok (.invokespecial 119, 3) := by decide +kernel
theorem d26_250 : decode prog_164_method_12_code 250 = .ok (.invokespecial 119, 3) := by decide +kernel
theorem d26_253 : decode prog_164_method_12_code 253 = .ok (.areturn, 1) := by decide +kernel
theorem d26_157 : decode prog_164_method_12_code 157 = .ok (.new 25, 3) := by decide +kernel
theorem d26_160 : decode prog_164_method_12_code 160 = .ok (.dup, 1) := by decide +kernel
theorem d26_161 : decode prog_164_method_12_code 161 = .ok (.aload_n 3, 1) := by decide +kernel
theorem d26_162 : decode prog_164_method_12_code 162 = .ok (.getfield 24, 3) := by decide +kernel
theorem d26_165 : decode prog_164_method_12_code 165 = .ok (.aload_n 3, 1) := by decide +kernel
theorem d26_166 : decode prog_164_method_12_code 166 = .ok (.getfield 36, 3) := by decide +kernel
theorem d26_169 : decode prog_164_method_12_code 169 = .ok (.new 25, 3) := by decide +kernel
theorem d26_172 : decode prog_164_method_12_code 172 = .ok (.dup, 1) := by decide +kernel
theorem d26_173 : decode prog_164_method_12_code 173 = .ok (.aload_n 0, 1) := by decide +kernel
theorem d26_174 : decode prog_164_method_12_code 174 = .ok (.aload_n 1, 1) := by decide +kernel
theorem d26_175 : decode prog_164_method_12_code 175 = .ok (.aload_n 2, 1) := by decide +kernel
theorem d26_176 : decode prog_164_method_12_code 176 = .ok (.aload_n 3, 1) := by decide +kernel
theorem d26_177 : decode prog_164_method_12_code 177 = .ok (.getfield 40, 3) := by decide +kernel
theorem d26_180 : decode prog_164_method_12_code 180 = .ok (.invokespecial 119, 3) := by decide +kernel
theorem d26_183 : decode prog_164_method_12_code 183 = .ok (.aload_n 3, 1) := by decide +kernel
theorem d26_184 : decode prog_164_method_12_code 184 = .ok (.getfield 43, 3) := by decide +kernel
theorem d26_187 : decode prog_164_method_12_code 187 = .ok (.invokespecial 119, 3) := by decide +kernel
theorem d26_190 : decode prog_164_method_12_code 190 = .ok (.areturn, 1) := by decide +kernel
theorem d26_254 : decode prog_164_method_12_code 254 = .ok (.new 25, 3) := by decide +kernel
theorem d26_257 : decode prog_164_method_12_code 257 = .ok (.dup, 1) := by decide +kernel
theorem d26_258 : decode prog_164_method_12_code 258 = .ok (.aload_n 0, 1) := by decide +kernel
theorem d26_259 : decode prog_164_method_12_code 259 = .ok (.aload_n 1, 1) := by decide +kernel
theorem d26_260 : decode prog_164_method_12_code 260 = .ok (.aload_n 2, 1) := by decide +kernel
theorem d26_261 : decode prog_164_method_12_code 261 = .ok (.aload_n 3, 1) := by decide +kernel
theorem d26_262 : decode prog_164_method_12_code 262 = .ok (.invokespecial 119, 3) := by decide +kernel
theorem d26_265 : decode prog_164_method_12_code 265 = .ok (.areturn, 1) := by decide +kernel
def Q_rbal (Z : State) (a1 : Addr) (a2 : Addr) (vl : Value) (vr : Value) (f : Nat) (nl : Nat) (nr : Nat) (x : Int32) (PL : Int32 → Prop) (PR : Int32 → Prop) (h0 : Heap) (n0 : Nat) (v : Option Value) (h : Heap) (L : List Loc) : Prop := ∃ b : Addr, v = some (.ref b) ∧ Fr n0 L ∧ Keep h0 h [] ∧ (h0.size ≤ b) ∧ (BalP Z h f nl nr b x PL PR)
set_option maxRecDepth 65536 in
set_option maxHeartbeats 40000000 in
theorem rbal (l : Launch) (Z : State) (a0 : Array Value) (hw : ∀ d ∈ tables_1, d.before a0 Z = true) (ws : List Jvm.Cond) (a1 : Addr) (a2 : Addr) (vl : Value) (vr : Value) (f : Nat) (nl : Nat) (nr : Nat) (x : Int32) (PL : Int32 → Prop) (PR : Int32 → Prop) (h0 : Heap) (n0 : Nat) (O0 : Old Z n0 h0) (g_Str_a1 : Str Z h0 a1 x) (hkx : Ky x) (g_Tree_vl : Tree Z h0 f nl vl PL) (g_Tree_vr : Tree Z h0 f nr vr PR) (hbd : nl ≤ nr + 2 ∧ nr ≤ nl + 2) (hf : f ≤ 6) (o1 : ∀ k, PL k → k < x) (o2 : ∀ k, PR k → x < k) :
    MetFree l y15 (head1 (Jvm.Cond.code y15 prog_164_method_12_code 5 (some (.object "com/example/isogloss/isogloss/util/PersistentMap$Node")) :: ws) ({ frames := 2, cells := 3, slots := 15, locals := 41 } : Room)) (fun a U => a = #[(.ref a1), (.ref a2), vl, vr] ∧ Z.Warmed39 U.vm ∧ U.heap = h0) (fun _ _ _ _ _ => True) (fun _ U o U' => ∃ v L, o = .returned v ∧ Q_rbal Z a1 a2 vl vr f nl nr x PL PR h0 n0 v U'.heap L ∧ FrameEnd U o U' L ({ frames := 2, cells := 3, slots := 15, locals := 41 } : Room).cells ({ frames := 2, cells := 3, slots := 15, locals := 41 } : Room).slots) := by
  refine MetFree.of_bodySF (plainFor_of_name pn_com_example_isogloss_isogloss_util_PersistentMap) hisR ?_
  intro p e s m args below meth c s₁ Bd hml0 hP hK
  obtain ⟨rfl, hZ, hh⟩ := hP
  have hx := Bd.exec
  have hby := Bd.bytes
  have hml : c.maxLocals = 5 := hml0
  have hown : s.vm.findClass own_PM = some m.cls := findClass_of_methodNamed Bd.named
  have hnm := (name_of_methodNamed Bd.named Bd.method).1
  have X0 : Stand p l e ({ frames := 2, cells := 3, slots := 15, locals := 41 } : Room) s m #[(.ref a1), (.ref a2), vl, vr] below meth c s₁ [] 0 0 := Stand.of_body Bd
  have e0 : s₁.heap = h0 := by rw [← hh, Bd.state]; rfl
  have N0 := Fr.nil n0
  have K0 : Keep h0 h0 [] := Keep.refl h0 _
  have go : Gl p.tables e below (fun o U' => ∃ v L, o = .returned v ∧ Q_rbal Z a1 a2 vl vr f nl nr x PL PR h0 n0 v U'.heap L ∧ FrameEnd s o U' L ({ frames := 2, cells := 3, slots := 15, locals := 41 } : Room).cells ({ frames := 2, cells := 3, slots := 15, locals := 41 } : Room).slots) (s₁.setTop (mkF m 0 #[.val (.ref a1), .val (.ref a2), .val vl, .val vr, .unset] [])) := by
    have ql := g_Tree_vl.le
    have qr := g_Tree_vr.le
    refine Gl.step (B := (s₁.setTop (mkF m 1 #[.val (.ref a1), .val (.ref a2), .val vl, .val vr, .unset] [vl]))) (fun t k => XS.aloadN X0.here hx rfl (hb hby d26_0) rfl g_Tree_vl.isRef k) ?_
    obtain ⟨_, _, ⟨T1, L1, c1, z1⟩, -, X1, ⟨Lc1, hQ1, l1, y1, zz1⟩, st1⟩ := Jvm.LawKit.callS X0 hx (y := y3) hown (mvT hZ (t138 hw)) (mvT hZ (t87 hw)) (mvT hZ (t36 hw)) (mvT hZ (t88 hw)) (by decide) (backOf (W := 0) (rhV l Z a0 hw [] vl nl h0 n0 O0 g_Tree_vl.ht) hZ (t88 hw) (t36 hw) (by decide) (by decide)) (g := (mkF m 1 #[.val (.ref a1), .val (.ref a2), .val vl, .val vr, .unset] [vl])) rfl (by rw [hml]; rfl) (argsL := [vl]) (rest := []) (lenOf pd__Lcom_example_isogloss_isogloss_util_PersistentMap_Node__I rfl) rfl (by show 2 * 0 + _ ≤ _; exact Nat.le_of_eq rfl) (hb hby d26_1) (fun _ _ => ⟨rfl, e0, (by decide : 0 + 0 ≤ _), (by decide : 0 + 0 ≤ _)⟩)
    dsimp only [Pt.U, Pt.locs, Pt.cells, Pt.slots] at X1 l1 y1 zz1 st1 hQ1
    subst y1 zz1
    obtain ⟨rfl, N1q, eh1⟩ := hQ1
    have N1 : Fr n0 L1 := Eq.mpr (congrArg (Fr n0) l1) (Fr.app N0 N1q)
    refine Gl.step (B := (T1.setTop (mkF m 4 #[.val (.ref a1), .val (.ref a2), .val vl, .val vr, .unset] [(.int (Int32.ofNat nl))]))) st1 ?_
    refine Gl.step (B := (T1.setTop (mkF m 5 #[.val (.ref a1), .val (.ref a2), .val vl, .val vr, .unset] [vr, (.int (Int32.ofNat nl))]))) (fun t k => XS.aloadN X1.here hx rfl (hb hby d26_4) rfl g_Tree_vr.isRef k) ?_
    obtain ⟨_, _, ⟨T2, L2, c2, z2⟩, -, X2, ⟨Lc2, hQ2, l2, y2, zz2⟩, st2⟩ := Jvm.LawKit.callS X1 hx (y := y3) hown (mvT hZ (t138 hw)) (mvT hZ (t87 hw)) (mvT hZ (t36 hw)) (mvT hZ (t88 hw)) (by decide) (backOf (W := 1) (rhV l Z a0 hw [] vr nr h0 n0 O0 g_Tree_vr.ht) hZ (t88 hw) (t36 hw) (by decide) (by decide)) (g := (mkF m 5 #[.val (.ref a1), .val (.ref a2), .val vl, .val vr, .unset] [vr, (.int (Int32.ofNat nl))])) rfl (by rw [hml]; rfl) (argsL := [vr]) (rest := [(.int (Int32.ofNat nl))]) (lenOf pd__Lcom_example_isogloss_isogloss_util_PersistentMap_Node__I rfl) rfl (by show 2 * 0 + _ ≤ _; exact Nat.le_of_eq rfl) (hb hby d26_5) (fun _ _ => ⟨rfl, eh1, (by decide : 0 + 0 ≤ _), (by decide : 0 + 0 ≤ _)⟩)
    dsimp only [Pt.U, Pt.locs, Pt.cells, Pt.slots] at X2 l2 y2 zz2 st2 hQ2
    subst y2 zz2
    obtain ⟨rfl, N2q, eh2⟩ := hQ2
    have N2 : Fr n0 L2 := Eq.mpr (congrArg (Fr n0) l2) (Fr.app N1 N2q)
    refine Gl.step (B := (T2.setTop (mkF m 8 #[.val (.ref a1), .val (.ref a2), .val vl, .val vr, .unset] [(.int (Int32.ofNat nr)), (.int (Int32.ofNat nl))]))) st2 ?_
    refine Gl.step (B := (T2.setTop (mkF m 10 #[.val (.ref a1), .val (.ref a2), .val vl, .val vr, .unset] [(.int ((Int32.ofNat nr) + (1 : Int32))), (.int (Int32.ofNat nl))]))) (fun t k => XS.iconst X2.here hx rfl (hb hby d26_8) (XS.iadd X2.here hx rfl (hb hby d26_9) rfl k)) ?_
    rw [own_pre nr]
    by_cases hL : nr + 1 < nl
    · skip
      obtain ⟨gq, aq, kaq, vaq, xq, vlq, vrq, nlq, nrq, PLq, PRq, efq, evq, Nq, Sq, hxq, hnq, b1q, b2q, TLq, TRq, p1q, p2q, hPq⟩ := own_open g_Tree_vl (by omega)
      subst evq
      subst efq
      have cq : Int32.ofNat (nr + 1) < Int32.ofNat nl := (own_olt (by omega) (by omega)).mpr hL
      refine Gl.step (B := (T2.setTop (mkF m 14 #[.val (.ref a1), .val (.ref a2), .val (.ref aq), .val vr, .unset] [(.ref aq)]))) (fun t k => XS.icmpNo X2.here hx rfl (hb hby d26_10) rfl (tlt (cq : (Int32.ofNat (nr + 1)) < (Int32.ofNat nl))).2.2.2 (XS.aloadN X2.here hx rfl (hb hby d26_13) rfl rfl k)) ?_
      obtain ⟨T3, X3, e3, st3⟩ := own_getFR X2 hx hZ hown (t121 hw) eh2 Nq.2.2.2.1 (g := (mkF m 14 #[.val (.ref a1), .val (.ref a2), .val (.ref aq), .val vr, .unset] [(.ref aq)])) rfl rfl (hb hby d26_14)
      refine Gl.step (B := (T3.setTop (mkF m 17 #[.val (.ref a1), .val (.ref a2), .val (.ref aq), .val vr, .unset] [vlq]))) st3 ?_
      obtain ⟨_, _, ⟨T4, L4, c4, z4⟩, -, X4, ⟨Lc4, hQ4, l4, y4, zz4⟩, st4⟩ := Jvm.LawKit.callS X3 hx (y := y3) hown (mvT hZ (t138 hw)) (mvT hZ (t87 hw)) (mvT hZ (t36 hw)) (mvT hZ (t88 hw)) (by decide) (backOf (W := 0) (rhV l Z a0 hw [] vlq nlq h0 n0 O0 TLq.ht) hZ (t88 hw) (t36 hw) (by decide) (by decide)) (g := (mkF m 17 #[.val (.ref a1), .val (.ref a2), .val (.ref aq), .val vr, .unset] [vlq])) rfl (by rw [hml]; rfl) (argsL := [vlq]) (rest := []) (lenOf pd__Lcom_example_isogloss_isogloss_util_PersistentMap_Node__I rfl) rfl (by show 2 * 0 + _ ≤ _; exact Nat.le_of_eq rfl) (hb hby d26_17) (fun _ _ => ⟨rfl, e3, (by decide : 0 + 0 ≤ _), (by decide : 0 + 0 ≤ _)⟩)
      dsimp only [Pt.U, Pt.locs, Pt.cells, Pt.slots] at X4 l4 y4 zz4 st4 hQ4
      subst y4 zz4
      obtain ⟨rfl, N4q, eh4⟩ := hQ4
      have N4 : Fr n0 L4 := Eq.mpr (congrArg (Fr n0) l4) (Fr.app N2 N4q)
      refine Gl.step (B := (T4.setTop (mkF m 20 #[.val (.ref a1), .val (.ref a2), .val (.ref aq), .val vr, .unset] [(.int (Int32.ofNat nlq))]))) st4 ?_
      refine Gl.step (B := (T4.setTop (mkF m 21 #[.val (.ref a1), .val (.ref a2), .val (.ref aq), .val vr, .unset] [(.ref aq), (.int (Int32.ofNat nlq))]))) (fun t k => XS.aloadN X4.here hx rfl (hb hby d26_20) rfl rfl k) ?_
      obtain ⟨T5, X5, e5, st5⟩ := own_getFR X4 hx hZ hown (t122 hw) eh4 Nq.2.2.2.2.1 (g := (mkF m 21 #[.val (.ref a1), .val (.ref a2), .val (.ref aq), .val vr, .unset] [(.ref aq), (.int (Int32.ofNat nlq))])) rfl rfl (hb hby d26_21)
      refine Gl.step (B := (T5.setTop (mkF m 24 #[.val (.ref a1), .val (.ref a2), .val (.ref aq), .val vr, .unset] [vrq, (.int (Int32.ofNat nlq))]))) st5 ?_
      obtain ⟨_, _, ⟨T6, L6, c6, z6⟩, -, X6, ⟨Lc6, hQ6, l6, y6, zz6⟩, st6⟩ := Jvm.LawKit.callS X5 hx (y := y3) hown (mvT hZ (t138 hw)) (mvT hZ (t87 hw)) (mvT hZ (t36 hw)) (mvT hZ (t88 hw)) (by decide) (backOf (W := 1) (rhV l Z a0 hw [] vrq nrq h0 n0 O0 TRq.ht) hZ (t88 hw) (t36 hw) (by decide) (by decide)) (g := (mkF m 24 #[.val (.ref a1), .val (.ref a2), .val (.ref aq), .val vr, .unset] [vrq, (.int (Int32.ofNat nlq))])) rfl (by rw [hml]; rfl) (argsL := [vrq]) (rest := [(.int (Int32.ofNat nlq))]) (lenOf pd__Lcom_example_isogloss_isogloss_util_PersistentMap_Node__I rfl) rfl (by show 2 * 0 + _ ≤ _; exact Nat.le_of_eq rfl) (hb hby d26_24) (fun _ _ => ⟨rfl, e5, (by decide : 0 + 0 ≤ _), (by decide : 0 + 0 ≤ _)⟩)
      dsimp only [Pt.U, Pt.locs, Pt.cells, Pt.slots] at X6 l6 y6 zz6 st6 hQ6
      subst y6 zz6
      obtain ⟨rfl, N6q, eh6⟩ := hQ6
      have N6 : Fr n0 L6 := Eq.mpr (congrArg (Fr n0) l6) (Fr.app N4 N6q)
      refine Gl.step (B := (T6.setTop (mkF m 27 #[.val (.ref a1), .val (.ref a2), .val (.ref aq), .val vr, .unset] [(.int (Int32.ofNat nrq)), (.int (Int32.ofNat nlq))]))) st6 ?_
      by_cases hC : nlq < nrq
      · skip
        have cc : Int32.ofNat nlq < Int32.ofNat nrq := (own_olt (by omega) (by omega)).mpr hC
        obtain ⟨gp, ap, kap, vap, xp, vlp, vrp, nlp, nrp, PLp, PRp, efp, evp, Np, Sp, hxp, hnp, b1p, b2p, TLp, TRp, p1p, p2p, hPp⟩ := own_open TRq (by omega)
        subst evp
        subst efp
        rcases ref_cases g_Tree_vr.isRef with hvr | ⟨ar, hvr⟩
        · skip
          subst hvr
          have hnr : nr = 0 := by
            rcases g_Tree_vr.ht with ⟨-, z⟩ | ⟨_, z, -⟩
            · exact z
            · exact nomatch z
          subst hnr
          refine Gl.step (B := (T6.setTop (mkF m 65 #[.val (.ref a1), .val (.ref a2), .val (.ref aq), .val .null, .unset] [(.ref aq)]))) (fun t k => XS.icmpYes X6.here hx rfl (pc0 := 27) (pc' := 64) rfl (hb hby d26_27) rfl (tlt (cc : (Int32.ofNat nlq) < (Int32.ofNat nrq))).1 (by decide) (by decide) (XS.aloadN X6.here hx rfl (hb hby d26_64) rfl rfl k)) ?_
          obtain ⟨T7, X7, e7, st7⟩ := own_getFR X6 hx hZ hown (t122 hw) eh6 Nq.2.2.2.2.1 (g := (mkF m 65 #[.val (.ref a1), .val (.ref a2), .val (.ref aq), .val .null, .unset] [(.ref aq)])) rfl rfl (hb hby d26_65)
          refine Gl.step (B := (T7.setTop (mkF m 68 #[.val (.ref a1), .val (.ref a2), .val (.ref aq), .val .null, .unset] [(.ref ap)]))) st7 ?_
          refine Gl.step (B := (T7.setTop (mkF m 70 #[.val (.ref a1), .val (.ref a2), .val (.ref aq), .val .null, .val (.ref ap)] []))) (fun t k => XS.astore X7.here hx rfl (hb hby d26_68) rfl rfl (l' := #[.val (.ref a1), .val (.ref a2), .val (.ref aq), .val .null, .val (.ref ap)]) rfl k) ?_
          obtain ⟨T8, h8, X8, e8, E8, A8, D8, -, st8⟩ := newO X7 hx hZ hown (t71 hw) (t72 hw) (t73 hw) e7 (g := (mkF m 70 #[.val (.ref a1), .val (.ref a2), .val (.ref aq), .val .null, .val (.ref ap)] [])) rfl (hb hby d26_70) (by decide) (by decide)
          obtain ⟨b8, g8⟩ : ∃ z, z = h0.size := ⟨_, rfl⟩
          rw [← g8] at A8 D8 st8
          have ge_b8 : n0 ≤ b8 := Nat.le_trans (own_oz O0) (Nat.le_of_eq g8.symm)
          have sz_b8 : h0.size ≤ b8 := Nat.le_trans K0.1 (Nat.le_of_eq g8.symm)
          have O9 : Old Z n0 h8 := O0.ext E8
          have K9 : Keep h0 h8 [] := K0.ext E8
          have F8_key : Fld Z h8 b8 own_ND "key" "Ljava/lang/String;" .null := D8 (Or.inr (t79 hw)) (ty := (.object "java/lang/String")) (by decide)
          have F8_value : Fld Z h8 b8 own_ND "value" "Ljava/lang/Object;" .null := D8 (Or.inr (t81 hw)) (ty := (.object "java/lang/Object")) (by decide)
          have F8_left : Fld Z h8 b8 own_ND "left" own_LN .null := D8 (Or.inr (t83 hw)) (ty := (.object "com/example/isogloss/isogloss/util/PersistentMap$Node")) (by decide)
          have F8_right : Fld Z h8 b8 own_ND "right" own_LN .null := D8 (Or.inr (t85 hw)) (ty := (.object "com/example/isogloss/isogloss/util/PersistentMap$Node")) (by decide)
          have F8_height : Fld Z h8 b8 own_ND "height" "I" (.int (0 : Int32)) := D8 (Or.inr (t94 hw)) (ty := .int) (by decide)
          refine Gl.step (B := (T8.setTop (mkF m 73 #[.val (.ref a1), .val (.ref a2), .val (.ref aq), .val .null, .val (.ref ap)] [(.ref b8)]))) st8 ?_
          refine Gl.step (B := (T8.setTop (mkF m 76 #[.val (.ref a1), .val (.ref a2), .val (.ref aq), .val .null, .val (.ref ap)] [(.ref ap), (.ref b8), (.ref b8)]))) (fun t k => XS.dup X8.here hx rfl (hb hby d26_73) rfl rfl (XS.aload X8.here hx rfl (hb hby d26_74) rfl rfl k)) ?_
          have f10 := (Np.2.1.ext (own_ke K9))
          obtain ⟨T11, X11, e11, st11⟩ := own_getFR X8 hx hZ hown (t95 hw) e8 f10 (g := (mkF m 76 #[.val (.ref a1), .val (.ref a2), .val (.ref aq), .val .null, .val (.ref ap)] [(.ref ap), (.ref b8), (.ref b8)])) rfl rfl (hb hby d26_76)
          refine Gl.step (B := (T11.setTop (mkF m 79 #[.val (.ref a1), .val (.ref a2), .val (.ref aq), .val .null, .val (.ref ap)] [(.ref kap), (.ref b8), (.ref b8)]))) st11 ?_
          refine Gl.step (B := (T11.setTop (mkF m 81 #[.val (.ref a1), .val (.ref a2), .val (.ref aq), .val .null, .val (.ref ap)] [(.ref ap), (.ref kap), (.ref b8), (.ref b8)]))) (fun t k => XS.aload X11.here hx rfl (hb hby d26_79) rfl rfl k) ?_
          have f12 := (Np.2.2.1.ext (own_ke K9))
          obtain ⟨T13, X13, e13, st13⟩ := own_getFR X11 hx hZ hown (t120 hw) e11 f12 (g := (mkF m 81 #[.val (.ref a1), .val (.ref a2), .val (.ref aq), .val .null, .val (.ref ap)] [(.ref ap), (.ref kap), (.ref b8), (.ref b8)])) rfl rfl (hb hby d26_81)
          refine Gl.step (B := (T13.setTop (mkF m 84 #[.val (.ref a1), .val (.ref a2), .val (.ref aq), .val .null, .val (.ref ap)] [(.ref vap), (.ref kap), (.ref b8), (.ref b8)]))) st13 ?_
          obtain ⟨T14, h14, X14, e14, E14, A14, D14, -, st14⟩ := newO X13 hx hZ hown (t71 hw) (t72 hw) (t73 hw) e13 (g := (mkF m 84 #[.val (.ref a1), .val (.ref a2), .val (.ref aq), .val .null, .val (.ref ap)] [(.ref vap), (.ref kap), (.ref b8), (.ref b8)])) rfl (hb hby d26_84) (by decide) (by decide)
          obtain ⟨b14, g14⟩ : ∃ z, z = h8.size := ⟨_, rfl⟩
          rw [← g14] at A14 D14 st14
          have ge_b14 : n0 ≤ b14 := Nat.le_trans (own_oz O9) (Nat.le_of_eq g14.symm)
          have sz_b14 : h0.size ≤ b14 := Nat.le_trans K9.1 (Nat.le_of_eq g14.symm)
          have O15 : Old Z n0 h14 := O9.ext E14
          have K15 : Keep h0 h14 [] := K9.ext E14
          have F14_key : Fld Z h14 b14 own_ND "key" "Ljava/lang/String;" .null := D14 (Or.inr (t79 hw)) (ty := (.object "java/lang/String")) (by decide)
          have F14_value : Fld Z h14 b14 own_ND "value" "Ljava/lang/Object;" .null := D14 (Or.inr (t81 hw)) (ty := (.object "java/lang/Object")) (by decide)
          have F14_left : Fld Z h14 b14 own_ND "left" own_LN .null := D14 (Or.inr (t83 hw)) (ty := (.object "com/example/isogloss/isogloss/util/PersistentMap$Node")) (by decide)
          have F14_right : Fld Z h14 b14 own_ND "right" own_LN .null := D14 (Or.inr (t85 hw)) (ty := (.object "com/example/isogloss/isogloss/util/PersistentMap$Node")) (by decide)
          have F14_height : Fld Z h14 b14 own_ND "height" "I" (.int (0 : Int32)) := D14 (Or.inr (t94 hw)) (ty := .int) (by decide)
          refine Gl.step (B := (T14.setTop (mkF m 87 #[.val (.ref a1), .val (.ref a2), .val (.ref aq), .val .null, .val (.ref ap)] [(.ref b14), (.ref vap), (.ref kap), (.ref b8), (.ref b8)]))) st14 ?_
          refine Gl.step (B := (T14.setTop (mkF m 89 #[.val (.ref a1), .val (.ref a2), .val (.ref aq), .val .null, .val (.ref ap)] [(.ref aq), (.ref b14), (.ref b14), (.ref vap), (.ref kap), (.ref b8), (.ref b8)]))) (fun t k => XS.dup X14.here hx rfl (hb hby d26_87) rfl rfl (XS.aloadN X14.here hx rfl (hb hby d26_88) rfl rfl k)) ?_
          have f16 := (Nq.2.1.ext (own_ke K15))
          obtain ⟨T17, X17, e17, st17⟩ := own_getFR X14 hx hZ hown (t95 hw) e14 f16 (g := (mkF m 89 #[.val (.ref a1), .val (.ref a2), .val (.ref aq), .val .null, .val (.ref ap)] [(.ref aq), (.ref b14), (.ref b14), (.ref vap), (.ref kap), (.ref b8), (.ref b8)])) rfl rfl (hb hby d26_89)
          refine Gl.step (B := (T17.setTop (mkF m 92 #[.val (.ref a1), .val (.ref a2), .val (.ref aq), .val .null, .val (.ref ap)] [(.ref kaq), (.ref b14), (.ref b14), (.ref vap), (.ref kap), (.ref b8), (.ref b8)]))) st17 ?_
          refine Gl.step (B := (T17.setTop (mkF m 93 #[.val (.ref a1), .val (.ref a2), .val (.ref aq), .val .null, .val (.ref ap)] [(.ref aq), (.ref kaq), (.ref b14), (.ref b14), (.ref vap), (.ref kap), (.ref b8), (.ref b8)]))) (fun t k => XS.aloadN X17.here hx rfl (hb hby d26_92) rfl rfl k) ?_
          have f18 := (Nq.2.2.1.ext (own_ke K15))
          obtain ⟨T19, X19, e19, st19⟩ := own_getFR X17 hx hZ hown (t120 hw) e17 f18 (g := (mkF m 93 #[.val (.ref a1), .val (.ref a2), .val (.ref aq), .val .null, .val (.ref ap)] [(.ref aq), (.ref kaq), (.ref b14), (.ref b14), (.ref vap), (.ref kap), (.ref b8), (.ref b8)])) rfl rfl (hb hby d26_93)
          refine Gl.step (B := (T19.setTop (mkF m 96 #[.val (.ref a1), .val (.ref a2), .val (.ref aq), .val .null, .val (.ref ap)] [(.ref vaq), (.ref kaq), (.ref b14), (.ref b14), (.ref vap), (.ref kap), (.ref b8), (.ref b8)]))) st19 ?_
          refine Gl.step (B := (T19.setTop (mkF m 97 #[.val (.ref a1), .val (.ref a2), .val (.ref aq), .val .null, .val (.ref ap)] [(.ref aq), (.ref vaq), (.ref kaq), (.ref b14), (.ref b14), (.ref vap), (.ref kap), (.ref b8), (.ref b8)]))) (fun t k => XS.aloadN X19.here hx rfl (hb hby d26_96) rfl rfl k) ?_
          have f20 := (Nq.2.2.2.1.ext (own_ke K15))
          obtain ⟨T21, X21, e21, st21⟩ := own_getFR X19 hx hZ hown (t121 hw) e19 f20 (g := (mkF m 97 #[.val (.ref a1), .val (.ref a2), .val (.ref aq), .val .null, .val (.ref ap)] [(.ref aq), (.ref vaq), (.ref kaq), (.ref b14), (.ref b14), (.ref vap), (.ref kap), (.ref b8), (.ref b8)])) rfl rfl (hb hby d26_97)
          refine Gl.step (B := (T21.setTop (mkF m 100 #[.val (.ref a1), .val (.ref a2), .val (.ref aq), .val .null, .val (.ref ap)] [vlq, (.ref vaq), (.ref kaq), (.ref b14), (.ref b14), (.ref vap), (.ref kap), (.ref b8), (.ref b8)]))) st21 ?_
          refine Gl.step (B := (T21.setTop (mkF m 102 #[.val (.ref a1), .val (.ref a2), .val (.ref aq), .val .null, .val (.ref ap)] [(.ref ap), vlq, (.ref vaq), (.ref kaq), (.ref b14), (.ref b14), (.ref vap), (.ref kap), (.ref b8), (.ref b8)]))) (fun t k => XS.aload X21.here hx rfl (hb hby d26_100) rfl rfl k) ?_
          have f22 := (Np.2.2.2.1.ext (own_ke K15))
          obtain ⟨T23, X23, e23, st23⟩ := own_getFR X21 hx hZ hown (t121 hw) e21 f22 (g := (mkF m 102 #[.val (.ref a1), .val (.ref a2), .val (.ref aq), .val .null, .val (.ref ap)] [(.ref ap), vlq, (.ref vaq), (.ref kaq), (.ref b14), (.ref b14), (.ref vap), (.ref kap), (.ref b8), (.ref b8)])) rfl rfl (hb hby d26_102)
          refine Gl.step (B := (T23.setTop (mkF m 105 #[.val (.ref a1), .val (.ref a2), .val (.ref aq), .val .null, .val (.ref ap)] [vlp, vlq, (.ref vaq), (.ref kaq), (.ref b14), (.ref b14), (.ref vap), (.ref kap), (.ref b8), (.ref b8)]))) st23 ?_
          have f24 := (TLq.ht.ext (own_ke K15))
          have f25 := (TLp.ht.ext (own_ke K15))
          obtain ⟨_, _, ⟨T26, L26, c26, z26⟩, -, X26, ⟨Lc26, hQ26, l26, y26, zz26⟩, st26⟩ := own_specialRef X23 hx hZ (y := y4) rfl hown (t74 hw) (t76 hw) (mvT hZ (t75 hw)) (mvT hZ (t76 hw)) (by decide) (backOf (W := 5) (rnV l Z a0 hw [] b14 kaq vaq vlq vlp nlq nlp h14 n0 O15 A14 F14_key F14_value F14_left F14_right F14_height ge_b14 f24 f25 (TLq.ht.nf sz_b14) (TLp.ht.nf sz_b14) ((by omega))) hZ (t76 hw) (t73 hw) (by decide) (by decide)) (g := (mkF m 105 #[.val (.ref a1), .val (.ref a2), .val (.ref aq), .val .null, .val (.ref ap)] [vlp, vlq, (.ref vaq), (.ref kaq), (.ref b14), (.ref b14), (.ref vap), (.ref kap), (.ref b8), (.ref b8)])) rfl (by rw [hml]; rfl) (a := b14) (argsL := [(.ref kaq), (.ref vaq), vlq, vlp]) (rest := [(.ref b14), (.ref vap), (.ref kap), (.ref b8), (.ref b8)]) (lenOf pd__Ljava_lang_String_Ljava_lang_Object_Lcom_example_isogloss_isogloss_util_PersistentMap_Node_Lcom_example_isogloss_isogloss_util_PersistentMap_Node__V rfl) rfl (by show 2 * 0 + _ ≤ _; exact Nat.le_of_eq rfl) (hb hby d26_105) (fun _ _ => ⟨rfl, e23, (by decide : 2 + 0 ≤ _), (by decide : 10 + 0 ≤ _)⟩)
          dsimp only [Pt.U, Pt.locs, Pt.cells, Pt.slots] at X26 l26 y26 zz26 st26 hQ26
          subst y26 zz26
          obtain ⟨rfl, N26q, Kc26, r0_26, r1_26, r2_26, r3_26, r4_26, r5_26⟩ := hQ26
          have N26 : Fr n0 L26 := Eq.mpr (congrArg (Fr n0) l26) (Fr.app N6 N26q)
          have O27 : Old Z n0 T26.heap := O15.keep Kc26 (allS ge_b14 all0)
          have K27 : Keep h0 T26.heap [] := K15.trans Kc26 (allS (Or.inr sz_b14) all0)
          refine Gl.tr (B := (T26.setTop (mkF m 108 #[.val (.ref a1), .val (.ref a2), .val (.ref aq), .val .null, .val (.ref ap)] [(.ref b14), (.ref vap), (.ref kap), (.ref b8), (.ref b8)]))) st26 ?_
          obtain ⟨T28, h28, X28, e28, E28, A28, D28, -, st28⟩ := newO X26 hx hZ hown (t71 hw) (t72 hw) (t73 hw) rfl (g := (mkF m 108 #[.val (.ref a1), .val (.ref a2), .val (.ref aq), .val .null, .val (.ref ap)] [(.ref b14), (.ref vap), (.ref kap), (.ref b8), (.ref b8)])) rfl (hb hby d26_108) (by decide) (by decide)
          obtain ⟨b28, g28⟩ : ∃ z, z = T26.heap.size := ⟨_, rfl⟩
          rw [← g28] at A28 D28 st28
          have ge_b28 : n0 ≤ b28 := Nat.le_trans (own_oz O27) (Nat.le_of_eq g28.symm)
          have sz_b28 : h0.size ≤ b28 := Nat.le_trans K27.1 (Nat.le_of_eq g28.symm)
          have O29 : Old Z n0 h28 := O27.ext E28
          have K29 : Keep h0 h28 [] := K27.ext E28
          have F28_key : Fld Z h28 b28 own_ND "key" "Ljava/lang/String;" .null := D28 (Or.inr (t79 hw)) (ty := (.object "java/lang/String")) (by decide)
          have F28_value : Fld Z h28 b28 own_ND "value" "Ljava/lang/Object;" .null := D28 (Or.inr (t81 hw)) (ty := (.object "java/lang/Object")) (by decide)
          have F28_left : Fld Z h28 b28 own_ND "left" own_LN .null := D28 (Or.inr (t83 hw)) (ty := (.object "com/example/isogloss/isogloss/util/PersistentMap$Node")) (by decide)
          have F28_right : Fld Z h28 b28 own_ND "right" own_LN .null := D28 (Or.inr (t85 hw)) (ty := (.object "com/example/isogloss/isogloss/util/PersistentMap$Node")) (by decide)
          have F28_height : Fld Z h28 b28 own_ND "height" "I" (.int (0 : Int32)) := D28 (Or.inr (t94 hw)) (ty := .int) (by decide)
          refine Gl.step (B := (T28.setTop (mkF m 111 #[.val (.ref a1), .val (.ref a2), .val (.ref aq), .val .null, .val (.ref ap)] [(.ref b28), (.ref b14), (.ref vap), (.ref kap), (.ref b8), (.ref b8)]))) st28 ?_
          refine Gl.step (B := (T28.setTop (mkF m 116 #[.val (.ref a1), .val (.ref a2), .val (.ref aq), .val .null, .val (.ref ap)] [(.ref ap), (.ref a2), (.ref a1), (.ref b28), (.ref b28), (.ref b14), (.ref vap), (.ref kap), (.ref b8), (.ref b8)]))) (fun t k => XS.dup X28.here hx rfl (hb hby d26_111) rfl rfl (XS.aloadN X28.here hx rfl (hb hby d26_112) rfl rfl (XS.aloadN X28.here hx rfl (hb hby d26_113) rfl rfl (XS.aload X28.here hx rfl (hb hby d26_114) rfl rfl k)))) ?_
          have f30 := (Np.2.2.2.2.1.ext (own_ke K29))
          obtain ⟨T31, X31, e31, st31⟩ := own_getFR X28 hx hZ hown (t122 hw) e28 f30 (g := (mkF m 116 #[.val (.ref a1), .val (.ref a2), .val (.ref aq), .val .null, .val (.ref ap)] [(.ref ap), (.ref a2), (.ref a1), (.ref b28), (.ref b28), (.ref b14), (.ref vap), (.ref kap), (.ref b8), (.ref b8)])) rfl rfl (hb hby d26_116)
          refine Gl.step (B := (T31.setTop (mkF m 119 #[.val (.ref a1), .val (.ref a2), .val (.ref aq), .val .null, .val (.ref ap)] [vrp, (.ref a2), (.ref a1), (.ref b28), (.ref b28), (.ref b14), (.ref vap), (.ref kap), (.ref b8), (.ref b8)]))) st31 ?_
          refine Gl.step (B := (T31.setTop (mkF m 120 #[.val (.ref a1), .val (.ref a2), .val (.ref aq), .val .null, .val (.ref ap)] [.null, vrp, (.ref a2), (.ref a1), (.ref b28), (.ref b28), (.ref b14), (.ref vap), (.ref kap), (.ref b8), (.ref b8)]))) (fun t k => XS.aloadN X31.here hx rfl (hb hby d26_119) rfl rfl k) ?_
          have f32 := (TRp.ht.ext (own_ke K29))
          obtain ⟨_, _, ⟨T33, L33, c33, z33⟩, -, X33, ⟨Lc33, hQ33, l33, y33, zz33⟩, st33⟩ := own_specialRef X31 hx hZ (y := y4) rfl hown (t74 hw) (t76 hw) (mvT hZ (t75 hw)) (mvT hZ (t76 hw)) (by decide) (backOf (W := 6) (rnV l Z a0 hw [] b28 a1 a2 vrp .null nrp 0 h28 n0 O29 A28 F28_key F28_value F28_left F28_right F28_height ge_b28 f32 (Or.inl ⟨rfl, rfl⟩) (TRp.ht.nf sz_b28) (fun q => nomatch q) ((by omega))) hZ (t76 hw) (t73 hw) (by decide) (by decide)) (g := (mkF m 120 #[.val (.ref a1), .val (.ref a2), .val (.ref aq), .val .null, .val (.ref ap)] [.null, vrp, (.ref a2), (.ref a1), (.ref b28), (.ref b28), (.ref b14), (.ref vap), (.ref kap), (.ref b8), (.ref b8)])) rfl (by rw [hml]; rfl) (a := b28) (argsL := [(.ref a1), (.ref a2), vrp, .null]) (rest := [(.ref b28), (.ref b14), (.ref vap), (.ref kap), (.ref b8), (.ref b8)]) (lenOf pd__Ljava_lang_String_Ljava_lang_Object_Lcom_example_isogloss_isogloss_util_PersistentMap_Node_Lcom_example_isogloss_isogloss_util_PersistentMap_Node__V rfl) rfl (by show 2 * 0 + _ ≤ _; exact Nat.le_of_eq rfl) (hb hby d26_120) (fun _ _ => ⟨rfl, e31, (by decide : 3 + 0 ≤ _), (by decide : 15 + 0 ≤ _)⟩)
          dsimp only [Pt.U, Pt.locs, Pt.cells, Pt.slots] at X33 l33 y33 zz33 st33 hQ33
          subst y33 zz33
          obtain ⟨rfl, N33q, Kc33, r0_33, r1_33, r2_33, r3_33, r4_33, r5_33⟩ := hQ33
          have N33 : Fr n0 L33 := Eq.mpr (congrArg (Fr n0) l33) (Fr.app N26 N33q)
          have O34 : Old Z n0 T33.heap := O29.keep Kc33 (allS ge_b28 all0)
          have K34 : Keep h0 T33.heap [] := K29.trans Kc33 (allS (Or.inr sz_b28) all0)
          refine Gl.tr (B := (T33.setTop (mkF m 123 #[.val (.ref a1), .val (.ref a2), .val (.ref aq), .val .null, .val (.ref ap)] [(.ref b28), (.ref b14), (.ref vap), (.ref kap), (.ref b8), (.ref b8)]))) st33 ?_
          have f35 := ((r5_26.ext E28).keep Kc33 (ninS (Nat.ne_of_lt (Nat.lt_of_lt_of_le r0_26.lt (Nat.le_of_eq g28.symm))) nin0))
          have f36 := ((((A8.ext E14).keep Kc26).ext E28).keep Kc33)
          have f37 := ((((F8_key.ext E14).keep Kc26 (ninS (Nat.ne_of_lt (Nat.lt_of_lt_of_le A8.lt (Nat.le_of_eq g14.symm))) nin0)).ext E28).keep Kc33 (ninS (Nat.ne_of_lt (Nat.lt_of_lt_of_le ((A8.ext E14).keep Kc26).lt (Nat.le_of_eq g28.symm))) nin0))
          have f38 := ((((F8_value.ext E14).keep Kc26 (ninS (Nat.ne_of_lt (Nat.lt_of_lt_of_le A8.lt (Nat.le_of_eq g14.symm))) nin0)).ext E28).keep Kc33 (ninS (Nat.ne_of_lt (Nat.lt_of_lt_of_le ((A8.ext E14).keep Kc26).lt (Nat.le_of_eq g28.symm))) nin0))
          have f39 := ((((F8_left.ext E14).keep Kc26 (ninS (Nat.ne_of_lt (Nat.lt_of_lt_of_le A8.lt (Nat.le_of_eq g14.symm))) nin0)).ext E28).keep Kc33 (ninS (Nat.ne_of_lt (Nat.lt_of_lt_of_le ((A8.ext E14).keep Kc26).lt (Nat.le_of_eq g28.symm))) nin0))
          have f40 := ((((F8_right.ext E14).keep Kc26 (ninS (Nat.ne_of_lt (Nat.lt_of_lt_of_le A8.lt (Nat.le_of_eq g14.symm))) nin0)).ext E28).keep Kc33 (ninS (Nat.ne_of_lt (Nat.lt_of_lt_of_le ((A8.ext E14).keep Kc26).lt (Nat.le_of_eq g28.symm))) nin0))
          have f41 := ((((F8_height.ext E14).keep Kc26 (ninS (Nat.ne_of_lt (Nat.lt_of_lt_of_le A8.lt (Nat.le_of_eq g14.symm))) nin0)).ext E28).keep Kc33 (ninS (Nat.ne_of_lt (Nat.lt_of_lt_of_le ((A8.ext E14).keep Kc26).lt (Nat.le_of_eq g28.symm))) nin0))
          obtain ⟨_, _, ⟨T42, L42, c42, z42⟩, -, X42, ⟨Lc42, hQ42, l42, y42, zz42⟩, st42⟩ := own_specialRef X33 hx hZ (y := y4) rfl hown (t74 hw) (t76 hw) (mvT hZ (t75 hw)) (mvT hZ (t76 hw)) (by decide) (backOf (W := 1) (rnV l Z a0 hw [] b8 kap vap (.ref b14) (.ref b28) (max nlq nlp + 1) (max nrp 0 + 1) T33.heap n0 O34 f36 f37 f38 f39 f40 f41 ge_b8 (Or.inr ⟨b14, rfl, f35⟩) (Or.inr ⟨b28, rfl, r5_33⟩) (fun q => (Ne.symm (Nat.ne_of_lt (Nat.lt_of_lt_of_le A8.lt (Nat.le_of_eq g14.symm)))) (Value.ref.inj q)) (fun q => (Ne.symm (Nat.ne_of_lt (Nat.lt_of_lt_of_le ((A8.ext E14).keep Kc26).lt (Nat.le_of_eq g28.symm)))) (Value.ref.inj q)) ((by omega))) hZ (t76 hw) (t73 hw) (by decide) (by decide)) (g := (mkF m 123 #[.val (.ref a1), .val (.ref a2), .val (.ref aq), .val .null, .val (.ref ap)] [(.ref b28), (.ref b14), (.ref vap), (.ref kap), (.ref b8), (.ref b8)])) rfl (by rw [hml]; rfl) (a := b8) (argsL := [(.ref kap), (.ref vap), (.ref b14), (.ref b28)]) (rest := [(.ref b8)]) (lenOf pd__Ljava_lang_String_Ljava_lang_Object_Lcom_example_isogloss_isogloss_util_PersistentMap_Node_Lcom_example_isogloss_isogloss_util_PersistentMap_Node__V rfl) rfl (by show 2 * 0 + _ ≤ _; exact Nat.le_of_eq rfl) (hb hby d26_123) (fun _ _ => ⟨rfl, rfl, (by decide : 3 + 0 ≤ _), (by decide : 15 + 0 ≤ _)⟩)
          dsimp only [Pt.U, Pt.locs, Pt.cells, Pt.slots] at X42 l42 y42 zz42 st42 hQ42
          subst y42 zz42
          obtain ⟨rfl, N42q, Kc42, r0_42, r1_42, r2_42, r3_42, r4_42, r5_42⟩ := hQ42
          have N42 : Fr n0 L42 := Eq.mpr (congrArg (Fr n0) l42) (Fr.app N33 N42q)
          have O43 : Old Z n0 T42.heap := O34.keep Kc42 (allS ge_b8 all0)
          have K43 : Keep h0 T42.heap [] := K34.trans Kc42 (allS (Or.inr sz_b8) all0)
          refine Gl.tr (B := (T42.setTop (mkF m 126 #[.val (.ref a1), .val (.ref a2), .val (.ref aq), .val .null, .val (.ref ap)] [(.ref b8)]))) st42 ?_
          have f44 := (r0_33.keep Kc42)
          have f45 := (r1_33.keep Kc42 (ninS (Ne.symm (Nat.ne_of_lt (Nat.lt_of_lt_of_le ((A8.ext E14).keep Kc26).lt (Nat.le_of_eq g28.symm)))) nin0))
          have f46 := (r2_33.keep Kc42 (ninS (Ne.symm (Nat.ne_of_lt (Nat.lt_of_lt_of_le ((A8.ext E14).keep Kc26).lt (Nat.le_of_eq g28.symm)))) nin0))
          have f47 := (r3_33.keep Kc42 (ninS (Ne.symm (Nat.ne_of_lt (Nat.lt_of_lt_of_le ((A8.ext E14).keep Kc26).lt (Nat.le_of_eq g28.symm)))) nin0))
          have f48 := (r4_33.keep Kc42 (ninS (Ne.symm (Nat.ne_of_lt (Nat.lt_of_lt_of_le ((A8.ext E14).keep Kc26).lt (Nat.le_of_eq g28.symm)))) nin0))
          have f49 := (r5_33.keep Kc42 (ninS (Ne.symm (Nat.ne_of_lt (Nat.lt_of_lt_of_le ((A8.ext E14).keep Kc26).lt (Nat.le_of_eq g28.symm)))) nin0))
          have f50 := (((r0_26.ext E28).keep Kc33).keep Kc42)
          have f51 := (((r1_26.ext E28).keep Kc33 (ninS (Nat.ne_of_lt (Nat.lt_of_lt_of_le r0_26.lt (Nat.le_of_eq g28.symm))) nin0)).keep Kc42 (ninS (Ne.symm (Nat.ne_of_lt (Nat.lt_of_lt_of_le A8.lt (Nat.le_of_eq g14.symm)))) nin0))
          have f52 := (((r2_26.ext E28).keep Kc33 (ninS (Nat.ne_of_lt (Nat.lt_of_lt_of_le r0_26.lt (Nat.le_of_eq g28.symm))) nin0)).keep Kc42 (ninS (Ne.symm (Nat.ne_of_lt (Nat.lt_of_lt_of_le A8.lt (Nat.le_of_eq g14.symm)))) nin0))
          have f53 := (((r3_26.ext E28).keep Kc33 (ninS (Nat.ne_of_lt (Nat.lt_of_lt_of_le r0_26.lt (Nat.le_of_eq g28.symm))) nin0)).keep Kc42 (ninS (Ne.symm (Nat.ne_of_lt (Nat.lt_of_lt_of_le A8.lt (Nat.le_of_eq g14.symm)))) nin0))
          have f54 := (((r4_26.ext E28).keep Kc33 (ninS (Nat.ne_of_lt (Nat.lt_of_lt_of_le r0_26.lt (Nat.le_of_eq g28.symm))) nin0)).keep Kc42 (ninS (Ne.symm (Nat.ne_of_lt (Nat.lt_of_lt_of_le A8.lt (Nat.le_of_eq g14.symm)))) nin0))
          have f55 := (f35.keep Kc42 (ninS (Ne.symm (Nat.ne_of_lt (Nat.lt_of_lt_of_le A8.lt (Nat.le_of_eq g14.symm)))) nin0))
          obtain ⟨fs, hr, hrun, hended, hW, hsame⟩ := X42.leave (v := some (.ref b8)) (fun h => by rw [Bd.returns] at h; cases h)
          refine ⟨_, _, ?_, hrun, hended, _, _, rfl, ?_, ⟨_, rfl⟩, hW, hsame.mono (by decide) (by decide)⟩
          · show Steps p.tables e below (T42.setTop (mkF m 126 #[.val (.ref a1), .val (.ref a2), .val (.ref aq), .val .null, .val (.ref ap)] [(.ref b8)])) _
            jvm_step X42.here [X42.here.top, hx, (hb hby d26_126), X42.method', Bd.returns, Value.isRef, FieldType.isReference]
            first | (intro acts; rw [hr _ acts rfl rfl rfl]) | rw [hr _ _ rfl rfl rfl]
            exact Steps.refl _
          · show Q_rbal Z a1 a2 (.ref aq) .null (gp + 1 + 1) nl 0 x PL PR h0 n0 _ T42.heap _
            exact ⟨b8, rfl, N42, K43, sz_b8, own_LR (vr := .null) ⟨f44, f45, f46, f47, f48, f49⟩ ⟨f50, f51, f52, f53, f54, f55⟩ ⟨r0_42, r1_42, r2_42, r3_42, r4_42, r5_42⟩ (g_Str_a1.ext (own_ke K43)) hkx (Sq.ext (own_ke K43)) hxq (Sp.ext (own_ke K43)) hxp (TLq.ext (own_ke K43)) (TLp.ext (own_ke K43)) (TRp.ext (own_ke K43)) (g_Tree_vr.ext (own_ke K43)) hnp b1p b2p hnq b1q b2q hL hbd.1 hC p1q p2q hPq p1p p2p hPp o1 o2⟩
        · skip
          subst hvr
          have Far : Fld Z h0 ar "com/example/isogloss/isogloss/util/PersistentMap$Node" "height" "I" (.int (Int32.ofNat nr)) := by
            rcases g_Tree_vr.ht with ⟨z, -⟩ | ⟨_, z, F⟩
            · exact nomatch z
            · cases z; exact F
          refine Gl.step (B := (T6.setTop (mkF m 65 #[.val (.ref a1), .val (.ref a2), .val (.ref aq), .val (.ref ar), .unset] [(.ref aq)]))) (fun t k => XS.icmpYes X6.here hx rfl (pc0 := 27) (pc' := 64) rfl (hb hby d26_27) rfl (tlt (cc : (Int32.ofNat nlq) < (Int32.ofNat nrq))).1 (by decide) (by decide) (XS.aloadN X6.here hx rfl (hb hby d26_64) rfl rfl k)) ?_
          obtain ⟨T56, X56, e56, st56⟩ := own_getFR X6 hx hZ hown (t122 hw) eh6 Nq.2.2.2.2.1 (g := (mkF m 65 #[.val (.ref a1), .val (.ref a2), .val (.ref aq), .val (.ref ar), .unset] [(.ref aq)])) rfl rfl (hb hby d26_65)
          refine Gl.step (B := (T56.setTop (mkF m 68 #[.val (.ref a1), .val (.ref a2), .val (.ref aq), .val (.ref ar), .unset] [(.ref ap)]))) st56 ?_
          refine Gl.step (B := (T56.setTop (mkF m 70 #[.val (.ref a1), .val (.ref a2), .val (.ref aq), .val (.ref ar), .val (.ref ap)] []))) (fun t k => XS.astore X56.here hx rfl (hb hby d26_68) rfl rfl (l' := #[.val (.ref a1), .val (.ref a2), .val (.ref aq), .val (.ref ar), .val (.ref ap)]) rfl k) ?_
          obtain ⟨T57, h57, X57, e57, E57, A57, D57, -, st57⟩ := newO X56 hx hZ hown (t71 hw) (t72 hw) (t73 hw) e56 (g := (mkF m 70 #[.val (.ref a1), .val (.ref a2), .val (.ref aq), .val (.ref ar), .val (.ref ap)] [])) rfl (hb hby d26_70) (by decide) (by decide)
          obtain ⟨b57, g57⟩ : ∃ z, z = h0.size := ⟨_, rfl⟩
          rw [← g57] at A57 D57 st57
          have ge_b57 : n0 ≤ b57 := Nat.le_trans (own_oz O0) (Nat.le_of_eq g57.symm)
          have sz_b57 : h0.size ≤ b57 := Nat.le_trans K0.1 (Nat.le_of_eq g57.symm)
          have O58 : Old Z n0 h57 := O0.ext E57
          have K58 : Keep h0 h57 [] := K0.ext E57
          have F57_key : Fld Z h57 b57 own_ND "key" "Ljava/lang/String;" .null := D57 (Or.inr (t79 hw)) (ty := (.object "java/lang/String")) (by decide)
          have F57_value : Fld Z h57 b57 own_ND "value" "Ljava/lang/Object;" .null := D57 (Or.inr (t81 hw)) (ty := (.object "java/lang/Object")) (by decide)
          have F57_left : Fld Z h57 b57 own_ND "left" own_LN .null := D57 (Or.inr (t83 hw)) (ty := (.object "com/example/isogloss/isogloss/util/PersistentMap$Node")) (by decide)
          have F57_right : Fld Z h57 b57 own_ND "right" own_LN .null := D57 (Or.inr (t85 hw)) (ty := (.object "com/example/isogloss/isogloss/util/PersistentMap$Node")) (by decide)
          have F57_height : Fld Z h57 b57 own_ND "height" "I" (.int (0 : Int32)) := D57 (Or.inr (t94 hw)) (ty := .int) (by decide)
          refine Gl.step (B := (T57.setTop (mkF m 73 #[.val (.ref a1), .val (.ref a2), .val (.ref aq), .val (.ref ar), .val (.ref ap)] [(.ref b57)]))) st57 ?_
          refine Gl.step (B := (T57.setTop (mkF m 76 #[.val (.ref a1), .val (.ref a2), .val (.ref aq), .val (.ref ar), .val (.ref ap)] [(.ref ap), (.ref b57), (.ref b57)]))) (fun t k => XS.dup X57.here hx rfl (hb hby d26_73) rfl rfl (XS.aload X57.here hx rfl (hb hby d26_74) rfl rfl k)) ?_
          have f59 := (Np.2.1.ext (own_ke K58))
          obtain ⟨T60, X60, e60, st60⟩ := own_getFR X57 hx hZ hown (t95 hw) e57 f59 (g := (mkF m 76 #[.val (.ref a1), .val (.ref a2), .val (.ref aq), .val (.ref ar), .val (.ref ap)] [(.ref ap), (.ref b57), (.ref b57)])) rfl rfl (hb hby d26_76)
          refine Gl.step (B := (T60.setTop (mkF m 79 #[.val (.ref a1), .val (.ref a2), .val (.ref aq), .val (.ref ar), .val (.ref ap)] [(.ref kap), (.ref b57), (.ref b57)]))) st60 ?_
          refine Gl.step (B := (T60.setTop (mkF m 81 #[.val (.ref a1), .val (.ref a2), .val (.ref aq), .val (.ref ar), .val (.ref ap)] [(.ref ap), (.ref kap), (.ref b57), (.ref b57)]))) (fun t k => XS.aload X60.here hx rfl (hb hby d26_79) rfl rfl k) ?_
          have f61 := (Np.2.2.1.ext (own_ke K58))
          obtain ⟨T62, X62, e62, st62⟩ := own_getFR X60 hx hZ hown (t120 hw) e60 f61 (g := (mkF m 81 #[.val (.ref a1), .val (.ref a2), .val (.ref aq), .val (.ref ar), .val (.ref ap)] [(.ref ap), (.ref kap), (.ref b57), (.ref b57)])) rfl rfl (hb hby d26_81)
          refine Gl.step (B := (T62.setTop (mkF m 84 #[.val (.ref a1), .val (.ref a2), .val (.ref aq), .val (.ref ar), .val (.ref ap)] [(.ref vap), (.ref kap), (.ref b57), (.ref b57)]))) st62 ?_
          obtain ⟨T63, h63, X63, e63, E63, A63, D63, -, st63⟩ := newO X62 hx hZ hown (t71 hw) (t72 hw) (t73 hw) e62 (g := (mkF m 84 #[.val (.ref a1), .val (.ref a2), .val (.ref aq), .val (.ref ar), .val (.ref ap)] [(.ref vap), (.ref kap), (.ref b57), (.ref b57)])) rfl (hb hby d26_84) (by decide) (by decide)
          obtain ⟨b63, g63⟩ : ∃ z, z = h57.size := ⟨_, rfl⟩
          rw [← g63] at A63 D63 st63
          have ge_b63 : n0 ≤ b63 := Nat.le_trans (own_oz O58) (Nat.le_of_eq g63.symm)
          have sz_b63 : h0.size ≤ b63 := Nat.le_trans K58.1 (Nat.le_of_eq g63.symm)
          have O64 : Old Z n0 h63 := O58.ext E63
          have K64 : Keep h0 h63 [] := K58.ext E63
          have F63_key : Fld Z h63 b63 own_ND "key" "Ljava/lang/String;" .null := D63 (Or.inr (t79 hw)) (ty := (.object "java/lang/String")) (by decide)
          have F63_value : Fld Z h63 b63 own_ND "value" "Ljava/lang/Object;" .null := D63 (Or.inr (t81 hw)) (ty := (.object "java/lang/Object")) (by decide)
          have F63_left : Fld Z h63 b63 own_ND "left" own_LN .null := D63 (Or.inr (t83 hw)) (ty := (.object "com/example/isogloss/isogloss/util/PersistentMap$Node")) (by decide)
          have F63_right : Fld Z h63 b63 own_ND "right" own_LN .null := D63 (Or.inr (t85 hw)) (ty := (.object "com/example/isogloss/isogloss/util/PersistentMap$Node")) (by decide)
          have F63_height : Fld Z h63 b63 own_ND "height" "I" (.int (0 : Int32)) := D63 (Or.inr (t94 hw)) (ty := .int) (by decide)
          refine Gl.step (B := (T63.setTop (mkF m 87 #[.val (.ref a1), .val (.ref a2), .val (.ref aq), .val (.ref ar), .val (.ref ap)] [(.ref b63), (.ref vap), (.ref kap), (.ref b57), (.ref b57)]))) st63 ?_
          refine Gl.step (B := (T63.setTop (mkF m 89 #[.val (.ref a1), .val (.ref a2), .val (.ref aq), .val (.ref ar), .val (.ref ap)] [(.ref aq), (.ref b63), (.ref b63), (.ref vap), (.ref kap), (.ref b57), (.ref b57)]))) (fun t k => XS.dup X63.here hx rfl (hb hby d26_87) rfl rfl (XS.aloadN X63.here hx rfl (hb hby d26_88) rfl rfl k)) ?_
          have f65 := (Nq.2.1.ext (own_ke K64))
          obtain ⟨T66, X66, e66, st66⟩ := own_getFR X63 hx hZ hown (t95 hw) e63 f65 (g := (mkF m 89 #[.val (.ref a1), .val (.ref a2), .val (.ref aq), .val (.ref ar), .val (.ref ap)] [(.ref aq), (.ref b63), (.ref b63), (.ref vap), (.ref kap), (.ref b57), (.ref b57)])) rfl rfl (hb hby d26_89)
          refine Gl.step (B := (T66.setTop (mkF m 92 #[.val (.ref a1), .val (.ref a2), .val (.ref aq), .val (.ref ar), .val (.ref ap)] [(.ref kaq), (.ref b63), (.ref b63), (.ref vap), (.ref kap), (.ref b57), (.ref b57)]))) st66 ?_
          refine Gl.step (B := (T66.setTop (mkF m 93 #[.val (.ref a1), .val (.ref a2), .val (.ref aq), .val (.ref ar), .val (.ref ap)] [(.ref aq), (.ref kaq), (.ref b63), (.ref b63), (.ref vap), (.ref kap), (.ref b57), (.ref b57)]))) (fun t k => XS.aloadN X66.here hx rfl (hb hby d26_92) rfl rfl k) ?_
          have f67 := (Nq.2.2.1.ext (own_ke K64))
          obtain ⟨T68, X68, e68, st68⟩ := own_getFR X66 hx hZ hown (t120 hw) e66 f67 (g := (mkF m 93 #[.val (.ref a1), .val (.ref a2), .val (.ref aq), .val (.ref ar), .val (.ref ap)] [(.ref aq), (.ref kaq), (.ref b63), (.ref b63), (.ref vap), (.ref kap), (.ref b57), (.ref b57)])) rfl rfl (hb hby d26_93)
          refine Gl.step (B := (T68.setTop (mkF m 96 #[.val (.ref a1), .val (.ref a2), .val (.ref aq), .val (.ref ar), .val (.ref ap)] [(.ref vaq), (.ref kaq), (.ref b63), (.ref b63), (.ref vap), (.ref kap), (.ref b57), (.ref b57)]))) st68 ?_
          refine Gl.step (B := (T68.setTop (mkF m 97 #[.val (.ref a1), .val (.ref a2), .val (.ref aq), .val (.ref ar), .val (.ref ap)] [(.ref aq), (.ref vaq), (.ref kaq), (.ref b63), (.ref b63), (.ref vap), (.ref kap), (.ref b57), (.ref b57)]))) (fun t k => XS.aloadN X68.here hx rfl (hb hby d26_96) rfl rfl k) ?_
          have f69 := (Nq.2.2.2.1.ext (own_ke K64))
          obtain ⟨T70, X70, e70, st70⟩ := own_getFR X68 hx hZ hown (t121 hw) e68 f69 (g := (mkF m 97 #[.val (.ref a1), .val (.ref a2), .val (.ref aq), .val (.ref ar), .val (.ref ap)] [(.ref aq), (.ref vaq), (.ref kaq), (.ref b63), (.ref b63), (.ref vap), (.ref kap), (.ref b57), (.ref b57)])) rfl rfl (hb hby d26_97)
          refine Gl.step (B := (T70.setTop (mkF m 100 #[.val (.ref a1), .val (.ref a2), .val (.ref aq), .val (.ref ar), .val (.ref ap)] [vlq, (.ref vaq), (.ref kaq), (.ref b63), (.ref b63), (.ref vap), (.ref kap), (.ref b57), (.ref b57)]))) st70 ?_
          refine Gl.step (B := (T70.setTop (mkF m 102 #[.val (.ref a1), .val (.ref a2), .val (.ref aq), .val (.ref ar), .val (.ref ap)] [(.ref ap), vlq, (.ref vaq), (.ref kaq), (.ref b63), (.ref b63), (.ref vap), (.ref kap), (.ref b57), (.ref b57)]))) (fun t k => XS.aload X70.here hx rfl (hb hby d26_100) rfl rfl k) ?_
          have f71 := (Np.2.2.2.1.ext (own_ke K64))
          obtain ⟨T72, X72, e72, st72⟩ := own_getFR X70 hx hZ hown (t121 hw) e70 f71 (g := (mkF m 102 #[.val (.ref a1), .val (.ref a2), .val (.ref aq), .val (.ref ar), .val (.ref ap)] [(.ref ap), vlq, (.ref vaq), (.ref kaq), (.ref b63), (.ref b63), (.ref vap), (.ref kap), (.ref b57), (.ref b57)])) rfl rfl (hb hby d26_102)
          refine Gl.step (B := (T72.setTop (mkF m 105 #[.val (.ref a1), .val (.ref a2), .val (.ref aq), .val (.ref ar), .val (.ref ap)] [vlp, vlq, (.ref vaq), (.ref kaq), (.ref b63), (.ref b63), (.ref vap), (.ref kap), (.ref b57), (.ref b57)]))) st72 ?_
          have f73 := (TLq.ht.ext (own_ke K64))
          have f74 := (TLp.ht.ext (own_ke K64))
          obtain ⟨_, _, ⟨T75, L75, c75, z75⟩, -, X75, ⟨Lc75, hQ75, l75, y75, zz75⟩, st75⟩ := own_specialRef X72 hx hZ (y := y4) rfl hown (t74 hw) (t76 hw) (mvT hZ (t75 hw)) (mvT hZ (t76 hw)) (by decide) (backOf (W := 5) (rnV l Z a0 hw [] b63 kaq vaq vlq vlp nlq nlp h63 n0 O64 A63 F63_key F63_value F63_left F63_right F63_height ge_b63 f73 f74 (TLq.ht.nf sz_b63) (TLp.ht.nf sz_b63) ((by omega))) hZ (t76 hw) (t73 hw) (by decide) (by decide)) (g := (mkF m 105 #[.val (.ref a1), .val (.ref a2), .val (.ref aq), .val (.ref ar), .val (.ref ap)] [vlp, vlq, (.ref vaq), (.ref kaq), (.ref b63), (.ref b63), (.ref vap), (.ref kap), (.ref b57), (.ref b57)])) rfl (by rw [hml]; rfl) (a := b63) (argsL := [(.ref kaq), (.ref vaq), vlq, vlp]) (rest := [(.ref b63), (.ref vap), (.ref kap), (.ref b57), (.ref b57)]) (lenOf pd__Ljava_lang_String_Ljava_lang_Object_Lcom_example_isogloss_isogloss_util_PersistentMap_Node_Lcom_example_isogloss_isogloss_util_PersistentMap_Node__V rfl) rfl (by show 2 * 0 + _ ≤ _; exact Nat.le_of_eq rfl) (hb hby d26_105) (fun _ _ => ⟨rfl, e72, (by decide : 2 + 0 ≤ _), (by decide : 10 + 0 ≤ _)⟩)
          dsimp only [Pt.U, Pt.locs, Pt.cells, Pt.slots] at X75 l75 y75 zz75 st75 hQ75
          subst y75 zz75
          obtain ⟨rfl, N75q, Kc75, r0_75, r1_75, r2_75, r3_75, r4_75, r5_75⟩ := hQ75
          have N75 : Fr n0 L75 := Eq.mpr (congrArg (Fr n0) l75) (Fr.app N6 N75q)
          have O76 : Old Z n0 T75.heap := O64.keep Kc75 (allS ge_b63 all0)
          have K76 : Keep h0 T75.heap [] := K64.trans Kc75 (allS (Or.inr sz_b63) all0)
          refine Gl.tr (B := (T75.setTop (mkF m 108 #[.val (.ref a1), .val (.ref a2), .val (.ref aq), .val (.ref ar), .val (.ref ap)] [(.ref b63), (.ref vap), (.ref kap), (.ref b57), (.ref b57)]))) st75 ?_
          obtain ⟨T77, h77, X77, e77, E77, A77, D77, -, st77⟩ := newO X75 hx hZ hown (t71 hw) (t72 hw) (t73 hw) rfl (g := (mkF m 108 #[.val (.ref a1), .val (.ref a2), .val (.ref aq), .val (.ref ar), .val (.ref ap)] [(.ref b63), (.ref vap), (.ref kap), (.ref b57), (.ref b57)])) rfl (hb hby d26_108) (by decide) (by decide)
          obtain ⟨b77, g77⟩ : ∃ z, z = T75.heap.size := ⟨_, rfl⟩
          rw [← g77] at A77 D77 st77
          have ge_b77 : n0 ≤ b77 := Nat.le_trans (own_oz O76) (Nat.le_of_eq g77.symm)
          have sz_b77 : h0.size ≤ b77 := Nat.le_trans K76.1 (Nat.le_of_eq g77.symm)
          have O78 : Old Z n0 h77 := O76.ext E77
          have K78 : Keep h0 h77 [] := K76.ext E77
          have F77_key : Fld Z h77 b77 own_ND "key" "Ljava/lang/String;" .null := D77 (Or.inr (t79 hw)) (ty := (.object "java/lang/String")) (by decide)
          have F77_value : Fld Z h77 b77 own_ND "value" "Ljava/lang/Object;" .null := D77 (Or.inr (t81 hw)) (ty := (.object "java/lang/Object")) (by decide)
          have F77_left : Fld Z h77 b77 own_ND "left" own_LN .null := D77 (Or.inr (t83 hw)) (ty := (.object "com/example/isogloss/isogloss/util/PersistentMap$Node")) (by decide)
          have F77_right : Fld Z h77 b77 own_ND "right" own_LN .null := D77 (Or.inr (t85 hw)) (ty := (.object "com/example/isogloss/isogloss/util/PersistentMap$Node")) (by decide)
          have F77_height : Fld Z h77 b77 own_ND "height" "I" (.int (0 : Int32)) := D77 (Or.inr (t94 hw)) (ty := .int) (by decide)
          refine Gl.step (B := (T77.setTop (mkF m 111 #[.val (.ref a1), .val (.ref a2), .val (.ref aq), .val (.ref ar), .val (.ref ap)] [(.ref b77), (.ref b63), (.ref vap), (.ref kap), (.ref b57), (.ref b57)]))) st77 ?_
          refine Gl.step (B := (T77.setTop (mkF m 116 #[.val (.ref a1), .val (.ref a2), .val (.ref aq), .val (.ref ar), .val (.ref ap)] [(.ref ap), (.ref a2), (.ref a1), (.ref b77), (.ref b77), (.ref b63), (.ref vap), (.ref kap), (.ref b57), (.ref b57)]))) (fun t k => XS.dup X77.here hx rfl (hb hby d26_111) rfl rfl (XS.aloadN X77.here hx rfl (hb hby d26_112) rfl rfl (XS.aloadN X77.here hx rfl (hb hby d26_113) rfl rfl (XS.aload X77.here hx rfl (hb hby d26_114) rfl rfl k)))) ?_
          have f79 := (Np.2.2.2.2.1.ext (own_ke K78))
          obtain ⟨T80, X80, e80, st80⟩ := own_getFR X77 hx hZ hown (t122 hw) e77 f79 (g := (mkF m 116 #[.val (.ref a1), .val (.ref a2), .val (.ref aq), .val (.ref ar), .val (.ref ap)] [(.ref ap), (.ref a2), (.ref a1), (.ref b77), (.ref b77), (.ref b63), (.ref vap), (.ref kap), (.ref b57), (.ref b57)])) rfl rfl (hb hby d26_116)
          refine Gl.step (B := (T80.setTop (mkF m 119 #[.val (.ref a1), .val (.ref a2), .val (.ref aq), .val (.ref ar), .val (.ref ap)] [vrp, (.ref a2), (.ref a1), (.ref b77), (.ref b77), (.ref b63), (.ref vap), (.ref kap), (.ref b57), (.ref b57)]))) st80 ?_
          refine Gl.step (B := (T80.setTop (mkF m 120 #[.val (.ref a1), .val (.ref a2), .val (.ref aq), .val (.ref ar), .val (.ref ap)] [(.ref ar), vrp, (.ref a2), (.ref a1), (.ref b77), (.ref b77), (.ref b63), (.ref vap), (.ref kap), (.ref b57), (.ref b57)]))) (fun t k => XS.aloadN X80.here hx rfl (hb hby d26_119) rfl rfl k) ?_
          have f81 := (Far.ext (own_ke K78))
          have f82 := (TRp.ht.ext (own_ke K78))
          obtain ⟨_, _, ⟨T83, L83, c83, z83⟩, -, X83, ⟨Lc83, hQ83, l83, y83, zz83⟩, st83⟩ := own_specialRef X80 hx hZ (y := y4) rfl hown (t74 hw) (t76 hw) (mvT hZ (t75 hw)) (mvT hZ (t76 hw)) (by decide) (backOf (W := 6) (rnV l Z a0 hw [] b77 a1 a2 vrp (.ref ar) nrp nr h77 n0 O78 A77 F77_key F77_value F77_left F77_right F77_height ge_b77 f82 (Or.inr ⟨ar, rfl, f81⟩) (TRp.ht.nf sz_b77) (fun q => (Nat.ne_of_lt (Nat.lt_of_lt_of_le (((Far.ext E57).ext E63).keep Kc75 (ninS (Nat.ne_of_lt (Nat.lt_of_lt_of_le (Far.ext E57).lt (Nat.le_of_eq g63.symm))) nin0)).lt (Nat.le_of_eq g77.symm))) (Value.ref.inj q)) ((by omega))) hZ (t76 hw) (t73 hw) (by decide) (by decide)) (g := (mkF m 120 #[.val (.ref a1), .val (.ref a2), .val (.ref aq), .val (.ref ar), .val (.ref ap)] [(.ref ar), vrp, (.ref a2), (.ref a1), (.ref b77), (.ref b77), (.ref b63), (.ref vap), (.ref kap), (.ref b57), (.ref b57)])) rfl (by rw [hml]; rfl) (a := b77) (argsL := [(.ref a1), (.ref a2), vrp, (.ref ar)]) (rest := [(.ref b77), (.ref b63), (.ref vap), (.ref kap), (.ref b57), (.ref b57)]) (lenOf pd__Ljava_lang_String_Ljava_lang_Object_Lcom_example_isogloss_isogloss_util_PersistentMap_Node_Lcom_example_isogloss_isogloss_util_PersistentMap_Node__V rfl) rfl (by show 2 * 0 + _ ≤ _; exact Nat.le_of_eq rfl) (hb hby d26_120) (fun _ _ => ⟨rfl, e80, (by decide : 3 + 0 ≤ _), (by decide : 15 + 0 ≤ _)⟩)
          dsimp only [Pt.U, Pt.locs, Pt.cells, Pt.slots] at X83 l83 y83 zz83 st83 hQ83
          subst y83 zz83
          obtain ⟨rfl, N83q, Kc83, r0_83, r1_83, r2_83, r3_83, r4_83, r5_83⟩ := hQ83
          have N83 : Fr n0 L83 := Eq.mpr (congrArg (Fr n0) l83) (Fr.app N75 N83q)
          have O84 : Old Z n0 T83.heap := O78.keep Kc83 (allS ge_b77 all0)
          have K84 : Keep h0 T83.heap [] := K78.trans Kc83 (allS (Or.inr sz_b77) all0)
          refine Gl.tr (B := (T83.setTop (mkF m 123 #[.val (.ref a1), .val (.ref a2), .val (.ref aq), .val (.ref ar), .val (.ref ap)] [(.ref b77), (.ref b63), (.ref vap), (.ref kap), (.ref b57), (.ref b57)]))) st83 ?_
          have f85 := ((r5_75.ext E77).keep Kc83 (ninS (Nat.ne_of_lt (Nat.lt_of_lt_of_le r0_75.lt (Nat.le_of_eq g77.symm))) nin0))
          have f86 := ((((A57.ext E63).keep Kc75).ext E77).keep Kc83)
          have f87 := ((((F57_key.ext E63).keep Kc75 (ninS (Nat.ne_of_lt (Nat.lt_of_lt_of_le A57.lt (Nat.le_of_eq g63.symm))) nin0)).ext E77).keep Kc83 (ninS (Nat.ne_of_lt (Nat.lt_of_lt_of_le ((A57.ext E63).keep Kc75).lt (Nat.le_of_eq g77.symm))) nin0))
          have f88 := ((((F57_value.ext E63).keep Kc75 (ninS (Nat.ne_of_lt (Nat.lt_of_lt_of_le A57.lt (Nat.le_of_eq g63.symm))) nin0)).ext E77).keep Kc83 (ninS (Nat.ne_of_lt (Nat.lt_of_lt_of_le ((A57.ext E63).keep Kc75).lt (Nat.le_of_eq g77.symm))) nin0))
          have f89 := ((((F57_left.ext E63).keep Kc75 (ninS (Nat.ne_of_lt (Nat.lt_of_lt_of_le A57.lt (Nat.le_of_eq g63.symm))) nin0)).ext E77).keep Kc83 (ninS (Nat.ne_of_lt (Nat.lt_of_lt_of_le ((A57.ext E63).keep Kc75).lt (Nat.le_of_eq g77.symm))) nin0))
          have f90 := ((((F57_right.ext E63).keep Kc75 (ninS (Nat.ne_of_lt (Nat.lt_of_lt_of_le A57.lt (Nat.le_of_eq g63.symm))) nin0)).ext E77).keep Kc83 (ninS (Nat.ne_of_lt (Nat.lt_of_lt_of_le ((A57.ext E63).keep Kc75).lt (Nat.le_of_eq g77.symm))) nin0))
          have f91 := ((((F57_height.ext E63).keep Kc75 (ninS (Nat.ne_of_lt (Nat.lt_of_lt_of_le A57.lt (Nat.le_of_eq g63.symm))) nin0)).ext E77).keep Kc83 (ninS (Nat.ne_of_lt (Nat.lt_of_lt_of_le ((A57.ext E63).keep Kc75).lt (Nat.le_of_eq g77.symm))) nin0))
          obtain ⟨_, _, ⟨T92, L92, c92, z92⟩, -, X92, ⟨Lc92, hQ92, l92, y92, zz92⟩, st92⟩ := own_specialRef X83 hx hZ (y := y4) rfl hown (t74 hw) (t76 hw) (mvT hZ (t75 hw)) (mvT hZ (t76 hw)) (by decide) (backOf (W := 1) (rnV l Z a0 hw [] b57 kap vap (.ref b63) (.ref b77) (max nlq nlp + 1) (max nrp nr + 1) T83.heap n0 O84 f86 f87 f88 f89 f90 f91 ge_b57 (Or.inr ⟨b63, rfl, f85⟩) (Or.inr ⟨b77, rfl, r5_83⟩) (fun q => (Ne.symm (Nat.ne_of_lt (Nat.lt_of_lt_of_le A57.lt (Nat.le_of_eq g63.symm)))) (Value.ref.inj q)) (fun q => (Ne.symm (Nat.ne_of_lt (Nat.lt_of_lt_of_le ((A57.ext E63).keep Kc75).lt (Nat.le_of_eq g77.symm)))) (Value.ref.inj q)) ((by omega))) hZ (t76 hw) (t73 hw) (by decide) (by decide)) (g := (mkF m 123 #[.val (.ref a1), .val (.ref a2), .val (.ref aq), .val (.ref ar), .val (.ref ap)] [(.ref b77), (.ref b63), (.ref vap), (.ref kap), (.ref b57), (.ref b57)])) rfl (by rw [hml]; rfl) (a := b57) (argsL := [(.ref kap), (.ref vap), (.ref b63), (.ref b77)]) (rest := [(.ref b57)]) (lenOf pd__Ljava_lang_String_Ljava_lang_Object_Lcom_example_isogloss_isogloss_util_PersistentMap_Node_Lcom_example_isogloss_isogloss_util_PersistentMap_Node__V rfl) rfl (by show 2 * 0 + _ ≤ _; exact Nat.le_of_eq rfl) (hb hby d26_123) (fun _ _ => ⟨rfl, rfl, (by decide : 3 + 0 ≤ _), (by decide : 15 + 0 ≤ _)⟩)
          dsimp only [Pt.U, Pt.locs, Pt.cells, Pt.slots] at X92 l92 y92 zz92 st92 hQ92
          subst y92 zz92
          obtain ⟨rfl, N92q, Kc92, r0_92, r1_92, r2_92, r3_92, r4_92, r5_92⟩ := hQ92
          have N92 : Fr n0 L92 := Eq.mpr (congrArg (Fr n0) l92) (Fr.app N83 N92q)
          have O93 : Old Z n0 T92.heap := O84.keep Kc92 (allS ge_b57 all0)
          have K93 : Keep h0 T92.heap [] := K84.trans Kc92 (allS (Or.inr sz_b57) all0)
          refine Gl.tr (B := (T92.setTop (mkF m 126 #[.val (.ref a1), .val (.ref a2), .val (.ref aq), .val (.ref ar), .val (.ref ap)] [(.ref b57)]))) st92 ?_
          have f94 := (r0_83.keep Kc92)
          have f95 := (r1_83.keep Kc92 (ninS (Ne.symm (Nat.ne_of_lt (Nat.lt_of_lt_of_le ((A57.ext E63).keep Kc75).lt (Nat.le_of_eq g77.symm)))) nin0))
          have f96 := (r2_83.keep Kc92 (ninS (Ne.symm (Nat.ne_of_lt (Nat.lt_of_lt_of_le ((A57.ext E63).keep Kc75).lt (Nat.le_of_eq g77.symm)))) nin0))
          have f97 := (r3_83.keep Kc92 (ninS (Ne.symm (Nat.ne_of_lt (Nat.lt_of_lt_of_le ((A57.ext E63).keep Kc75).lt (Nat.le_of_eq g77.symm)))) nin0))
          have f98 := (r4_83.keep Kc92 (ninS (Ne.symm (Nat.ne_of_lt (Nat.lt_of_lt_of_le ((A57.ext E63).keep Kc75).lt (Nat.le_of_eq g77.symm)))) nin0))
          have f99 := (r5_83.keep Kc92 (ninS (Ne.symm (Nat.ne_of_lt (Nat.lt_of_lt_of_le ((A57.ext E63).keep Kc75).lt (Nat.le_of_eq g77.symm)))) nin0))
          have f100 := (((r0_75.ext E77).keep Kc83).keep Kc92)
          have f101 := (((r1_75.ext E77).keep Kc83 (ninS (Nat.ne_of_lt (Nat.lt_of_lt_of_le r0_75.lt (Nat.le_of_eq g77.symm))) nin0)).keep Kc92 (ninS (Ne.symm (Nat.ne_of_lt (Nat.lt_of_lt_of_le A57.lt (Nat.le_of_eq g63.symm)))) nin0))
          have f102 := (((r2_75.ext E77).keep Kc83 (ninS (Nat.ne_of_lt (Nat.lt_of_lt_of_le r0_75.lt (Nat.le_of_eq g77.symm))) nin0)).keep Kc92 (ninS (Ne.symm (Nat.ne_of_lt (Nat.lt_of_lt_of_le A57.lt (Nat.le_of_eq g63.symm)))) nin0))
          have f103 := (((r3_75.ext E77).keep Kc83 (ninS (Nat.ne_of_lt (Nat.lt_of_lt_of_le r0_75.lt (Nat.le_of_eq g77.symm))) nin0)).keep Kc92 (ninS (Ne.symm (Nat.ne_of_lt (Nat.lt_of_lt_of_le A57.lt (Nat.le_of_eq g63.symm)))) nin0))
          have f104 := (((r4_75.ext E77).keep Kc83 (ninS (Nat.ne_of_lt (Nat.lt_of_lt_of_le r0_75.lt (Nat.le_of_eq g77.symm))) nin0)).keep Kc92 (ninS (Ne.symm (Nat.ne_of_lt (Nat.lt_of_lt_of_le A57.lt (Nat.le_of_eq g63.symm)))) nin0))
          have f105 := (f85.keep Kc92 (ninS (Ne.symm (Nat.ne_of_lt (Nat.lt_of_lt_of_le A57.lt (Nat.le_of_eq g63.symm)))) nin0))
          obtain ⟨fs, hr, hrun, hended, hW, hsame⟩ := X92.leave (v := some (.ref b57)) (fun h => by rw [Bd.returns] at h; cases h)
          refine ⟨_, _, ?_, hrun, hended, _, _, rfl, ?_, ⟨_, rfl⟩, hW, hsame.mono (by decide) (by decide)⟩
          · show Steps p.tables e below (T92.setTop (mkF m 126 #[.val (.ref a1), .val (.ref a2), .val (.ref aq), .val (.ref ar), .val (.ref ap)] [(.ref b57)])) _
            jvm_step X92.here [X92.here.top, hx, (hb hby d26_126), X92.method', Bd.returns, Value.isRef, FieldType.isReference]
            first | (intro acts; rw [hr _ acts rfl rfl rfl]) | rw [hr _ _ rfl rfl rfl]
            exact Steps.refl _
          · show Q_rbal Z a1 a2 (.ref aq) (.ref ar) (gp + 1 + 1) nl nr x PL PR h0 n0 _ T92.heap _
            exact ⟨b57, rfl, N92, K93, sz_b57, own_LR (vr := (.ref ar)) ⟨f94, f95, f96, f97, f98, f99⟩ ⟨f100, f101, f102, f103, f104, f105⟩ ⟨r0_92, r1_92, r2_92, r3_92, r4_92, r5_92⟩ (g_Str_a1.ext (own_ke K93)) hkx (Sq.ext (own_ke K93)) hxq (Sp.ext (own_ke K93)) hxp (TLq.ext (own_ke K93)) (TLp.ext (own_ke K93)) (TRp.ext (own_ke K93)) (g_Tree_vr.ext (own_ke K93)) hnp b1p b2p hnq b1q b2q hL hbd.1 hC p1q p2q hPq p1p p2p hPp o1 o2⟩
      · skip
        have cc : ¬ (Int32.ofNat nlq < Int32.ofNat nrq) := fun z => hC ((own_olt (by omega) (by omega)).mp z)
        refine Gl.step (B := (T6.setTop (mkF m 30 #[.val (.ref a1), .val (.ref a2), .val (.ref aq), .val vr, .unset] []))) (fun t k => XS.icmpNo X6.here hx rfl (hb hby d26_27) rfl (flt (cc : ¬ ((Int32.ofNat nlq) < (Int32.ofNat nrq)))).1 k) ?_
        obtain ⟨T106, h106, X106, e106, E106, A106, D106, -, st106⟩ := newO X6 hx hZ hown (t71 hw) (t72 hw) (t73 hw) eh6 (g := (mkF m 30 #[.val (.ref a1), .val (.ref a2), .val (.ref aq), .val vr, .unset] [])) rfl (hb hby d26_30) (by decide) (by decide)
        obtain ⟨b106, g106⟩ : ∃ z, z = h0.size := ⟨_, rfl⟩
        rw [← g106] at A106 D106 st106
        have ge_b106 : n0 ≤ b106 := Nat.le_trans (own_oz O0) (Nat.le_of_eq g106.symm)
        have sz_b106 : h0.size ≤ b106 := Nat.le_trans K0.1 (Nat.le_of_eq g106.symm)
        have O107 : Old Z n0 h106 := O0.ext E106
        have K107 : Keep h0 h106 [] := K0.ext E106
        have F106_key : Fld Z h106 b106 own_ND "key" "Ljava/lang/String;" .null := D106 (Or.inr (t79 hw)) (ty := (.object "java/lang/String")) (by decide)
        have F106_value : Fld Z h106 b106 own_ND "value" "Ljava/lang/Object;" .null := D106 (Or.inr (t81 hw)) (ty := (.object "java/lang/Object")) (by decide)
        have F106_left : Fld Z h106 b106 own_ND "left" own_LN .null := D106 (Or.inr (t83 hw)) (ty := (.object "com/example/isogloss/isogloss/util/PersistentMap$Node")) (by decide)
        have F106_right : Fld Z h106 b106 own_ND "right" own_LN .null := D106 (Or.inr (t85 hw)) (ty := (.object "com/example/isogloss/isogloss/util/PersistentMap$Node")) (by decide)
        have F106_height : Fld Z h106 b106 own_ND "height" "I" (.int (0 : Int32)) := D106 (Or.inr (t94 hw)) (ty := .int) (by decide)
        refine Gl.step (B := (T106.setTop (mkF m 33 #[.val (.ref a1), .val (.ref a2), .val (.ref aq), .val vr, .unset] [(.ref b106)]))) st106 ?_
        refine Gl.step (B := (T106.setTop (mkF m 35 #[.val (.ref a1), .val (.ref a2), .val (.ref aq), .val vr, .unset] [(.ref aq), (.ref b106), (.ref b106)]))) (fun t k => XS.dup X106.here hx rfl (hb hby d26_33) rfl rfl (XS.aloadN X106.here hx rfl (hb hby d26_34) rfl rfl k)) ?_
        have f108 := (Nq.2.1.ext (own_ke K107))
        obtain ⟨T109, X109, e109, st109⟩ := own_getFR X106 hx hZ hown (t95 hw) e106 f108 (g := (mkF m 35 #[.val (.ref a1), .val (.ref a2), .val (.ref aq), .val vr, .unset] [(.ref aq), (.ref b106), (.ref b106)])) rfl rfl (hb hby d26_35)
        refine Gl.step (B := (T109.setTop (mkF m 38 #[.val (.ref a1), .val (.ref a2), .val (.ref aq), .val vr, .unset] [(.ref kaq), (.ref b106), (.ref b106)]))) st109 ?_
        refine Gl.step (B := (T109.setTop (mkF m 39 #[.val (.ref a1), .val (.ref a2), .val (.ref aq), .val vr, .unset] [(.ref aq), (.ref kaq), (.ref b106), (.ref b106)]))) (fun t k => XS.aloadN X109.here hx rfl (hb hby d26_38) rfl rfl k) ?_
        have f110 := (Nq.2.2.1.ext (own_ke K107))
        obtain ⟨T111, X111, e111, st111⟩ := own_getFR X109 hx hZ hown (t120 hw) e109 f110 (g := (mkF m 39 #[.val (.ref a1), .val (.ref a2), .val (.ref aq), .val vr, .unset] [(.ref aq), (.ref kaq), (.ref b106), (.ref b106)])) rfl rfl (hb hby d26_39)
        refine Gl.step (B := (T111.setTop (mkF m 42 #[.val (.ref a1), .val (.ref a2), .val (.ref aq), .val vr, .unset] [(.ref vaq), (.ref kaq), (.ref b106), (.ref b106)]))) st111 ?_
        refine Gl.step (B := (T111.setTop (mkF m 43 #[.val (.ref a1), .val (.ref a2), .val (.ref aq), .val vr, .unset] [(.ref aq), (.ref vaq), (.ref kaq), (.ref b106), (.ref b106)]))) (fun t k => XS.aloadN X111.here hx rfl (hb hby d26_42) rfl rfl k) ?_
        have f112 := (Nq.2.2.2.1.ext (own_ke K107))
        obtain ⟨T113, X113, e113, st113⟩ := own_getFR X111 hx hZ hown (t121 hw) e111 f112 (g := (mkF m 43 #[.val (.ref a1), .val (.ref a2), .val (.ref aq), .val vr, .unset] [(.ref aq), (.ref vaq), (.ref kaq), (.ref b106), (.ref b106)])) rfl rfl (hb hby d26_43)
        refine Gl.step (B := (T113.setTop (mkF m 46 #[.val (.ref a1), .val (.ref a2), .val (.ref aq), .val vr, .unset] [vlq, (.ref vaq), (.ref kaq), (.ref b106), (.ref b106)]))) st113 ?_
        obtain ⟨T114, h114, X114, e114, E114, A114, D114, -, st114⟩ := newO X113 hx hZ hown (t71 hw) (t72 hw) (t73 hw) e113 (g := (mkF m 46 #[.val (.ref a1), .val (.ref a2), .val (.ref aq), .val vr, .unset] [vlq, (.ref vaq), (.ref kaq), (.ref b106), (.ref b106)])) rfl (hb hby d26_46) (by decide) (by decide)
        obtain ⟨b114, g114⟩ : ∃ z, z = h106.size := ⟨_, rfl⟩
        rw [← g114] at A114 D114 st114
        have ge_b114 : n0 ≤ b114 := Nat.le_trans (own_oz O107) (Nat.le_of_eq g114.symm)
        have sz_b114 : h0.size ≤ b114 := Nat.le_trans K107.1 (Nat.le_of_eq g114.symm)
        have O115 : Old Z n0 h114 := O107.ext E114
        have K115 : Keep h0 h114 [] := K107.ext E114
        have F114_key : Fld Z h114 b114 own_ND "key" "Ljava/lang/String;" .null := D114 (Or.inr (t79 hw)) (ty := (.object "java/lang/String")) (by decide)
        have F114_value : Fld Z h114 b114 own_ND "value" "Ljava/lang/Object;" .null := D114 (Or.inr (t81 hw)) (ty := (.object "java/lang/Object")) (by decide)
        have F114_left : Fld Z h114 b114 own_ND "left" own_LN .null := D114 (Or.inr (t83 hw)) (ty := (.object "com/example/isogloss/isogloss/util/PersistentMap$Node")) (by decide)
        have F114_right : Fld Z h114 b114 own_ND "right" own_LN .null := D114 (Or.inr (t85 hw)) (ty := (.object "com/example/isogloss/isogloss/util/PersistentMap$Node")) (by decide)
        have F114_height : Fld Z h114 b114 own_ND "height" "I" (.int (0 : Int32)) := D114 (Or.inr (t94 hw)) (ty := .int) (by decide)
        refine Gl.step (B := (T114.setTop (mkF m 49 #[.val (.ref a1), .val (.ref a2), .val (.ref aq), .val vr, .unset] [(.ref b114), vlq, (.ref vaq), (.ref kaq), (.ref b106), (.ref b106)]))) st114 ?_
        refine Gl.step (B := (T114.setTop (mkF m 53 #[.val (.ref a1), .val (.ref a2), .val (.ref aq), .val vr, .unset] [(.ref aq), (.ref a2), (.ref a1), (.ref b114), (.ref b114), vlq, (.ref vaq), (.ref kaq), (.ref b106), (.ref b106)]))) (fun t k => XS.dup X114.here hx rfl (hb hby d26_49) rfl rfl (XS.aloadN X114.here hx rfl (hb hby d26_50) rfl rfl (XS.aloadN X114.here hx rfl (hb hby d26_51) rfl rfl (XS.aloadN X114.here hx rfl (hb hby d26_52) rfl rfl k)))) ?_
        have f116 := (Nq.2.2.2.2.1.ext (own_ke K115))
        obtain ⟨T117, X117, e117, st117⟩ := own_getFR X114 hx hZ hown (t122 hw) e114 f116 (g := (mkF m 53 #[.val (.ref a1), .val (.ref a2), .val (.ref aq), .val vr, .unset] [(.ref aq), (.ref a2), (.ref a1), (.ref b114), (.ref b114), vlq, (.ref vaq), (.ref kaq), (.ref b106), (.ref b106)])) rfl rfl (hb hby d26_53)
        refine Gl.step (B := (T117.setTop (mkF m 56 #[.val (.ref a1), .val (.ref a2), .val (.ref aq), .val vr, .unset] [vrq, (.ref a2), (.ref a1), (.ref b114), (.ref b114), vlq, (.ref vaq), (.ref kaq), (.ref b106), (.ref b106)]))) st117 ?_
        refine Gl.step (B := (T117.setTop (mkF m 57 #[.val (.ref a1), .val (.ref a2), .val (.ref aq), .val vr, .unset] [vr, vrq, (.ref a2), (.ref a1), (.ref b114), (.ref b114), vlq, (.ref vaq), (.ref kaq), (.ref b106), (.ref b106)]))) (fun t k => XS.aloadN X117.here hx rfl (hb hby d26_56) rfl g_Tree_vr.isRef k) ?_
        have f118 := (TRq.ht.ext (own_ke K115))
        have f119 := (g_Tree_vr.ht.ext (own_ke K115))
        obtain ⟨_, _, ⟨T120, L120, c120, z120⟩, -, X120, ⟨Lc120, hQ120, l120, y120, zz120⟩, st120⟩ := own_specialRef X117 hx hZ (y := y4) rfl hown (t74 hw) (t76 hw) (mvT hZ (t75 hw)) (mvT hZ (t76 hw)) (by decide) (backOf (W := 6) (rnV l Z a0 hw [] b114 a1 a2 vrq vr nrq nr h114 n0 O115 A114 F114_key F114_value F114_left F114_right F114_height ge_b114 f118 f119 (TRq.ht.nf sz_b114) (g_Tree_vr.ht.nf sz_b114) ((by omega))) hZ (t76 hw) (t73 hw) (by decide) (by decide)) (g := (mkF m 57 #[.val (.ref a1), .val (.ref a2), .val (.ref aq), .val vr, .unset] [vr, vrq, (.ref a2), (.ref a1), (.ref b114), (.ref b114), vlq, (.ref vaq), (.ref kaq), (.ref b106), (.ref b106)])) rfl (by rw [hml]; rfl) (a := b114) (argsL := [(.ref a1), (.ref a2), vrq, vr]) (rest := [(.ref b114), vlq, (.ref vaq), (.ref kaq), (.ref b106), (.ref b106)]) (lenOf pd__Ljava_lang_String_Ljava_lang_Object_Lcom_example_isogloss_isogloss_util_PersistentMap_Node_Lcom_example_isogloss_isogloss_util_PersistentMap_Node__V rfl) rfl (by show 2 * 0 + (1 + (vlq.category + (1 + (1 + (1 + (1 + (0))))))) ≤ _; have w_vlq := own_cat TLq.isRef; omega) (hb hby d26_57) (fun _ _ => ⟨rfl, e117, (by decide : 2 + 0 ≤ _), (by decide : 10 + 0 ≤ _)⟩)
        dsimp only [Pt.U, Pt.locs, Pt.cells, Pt.slots] at X120 l120 y120 zz120 st120 hQ120
        subst y120 zz120
        obtain ⟨rfl, N120q, Kc120, r0_120, r1_120, r2_120, r3_120, r4_120, r5_120⟩ := hQ120
        have N120 : Fr n0 L120 := Eq.mpr (congrArg (Fr n0) l120) (Fr.app N6 N120q)
        have O121 : Old Z n0 T120.heap := O115.keep Kc120 (allS ge_b114 all0)
        have K121 : Keep h0 T120.heap [] := K115.trans Kc120 (allS (Or.inr sz_b114) all0)
        refine Gl.tr (B := (T120.setTop (mkF m 60 #[.val (.ref a1), .val (.ref a2), .val (.ref aq), .val vr, .unset] [(.ref b114), vlq, (.ref vaq), (.ref kaq), (.ref b106), (.ref b106)]))) st120 ?_
        have f122 := ((A106.ext E114).keep Kc120)
        have f123 := ((F106_key.ext E114).keep Kc120 (ninS (Nat.ne_of_lt (Nat.lt_of_lt_of_le A106.lt (Nat.le_of_eq g114.symm))) nin0))
        have f124 := ((F106_value.ext E114).keep Kc120 (ninS (Nat.ne_of_lt (Nat.lt_of_lt_of_le A106.lt (Nat.le_of_eq g114.symm))) nin0))
        have f125 := ((F106_left.ext E114).keep Kc120 (ninS (Nat.ne_of_lt (Nat.lt_of_lt_of_le A106.lt (Nat.le_of_eq g114.symm))) nin0))
        have f126 := ((F106_right.ext E114).keep Kc120 (ninS (Nat.ne_of_lt (Nat.lt_of_lt_of_le A106.lt (Nat.le_of_eq g114.symm))) nin0))
        have f127 := ((F106_height.ext E114).keep Kc120 (ninS (Nat.ne_of_lt (Nat.lt_of_lt_of_le A106.lt (Nat.le_of_eq g114.symm))) nin0))
        have f128 := (TLq.ht.ext (own_ke K121))
        obtain ⟨_, _, ⟨T129, L129, c129, z129⟩, -, X129, ⟨Lc129, hQ129, l129, y129, zz129⟩, st129⟩ := own_specialRef X120 hx hZ (y := y4) rfl hown (t74 hw) (t76 hw) (mvT hZ (t75 hw)) (mvT hZ (t76 hw)) (by decide) (backOf (W := 1) (rnV l Z a0 hw [] b106 kaq vaq vlq (.ref b114) nlq (max nrq nr + 1) T120.heap n0 O121 f122 f123 f124 f125 f126 f127 ge_b106 f128 (Or.inr ⟨b114, rfl, r5_120⟩) (TLq.ht.nf sz_b106) (fun q => (Ne.symm (Nat.ne_of_lt (Nat.lt_of_lt_of_le A106.lt (Nat.le_of_eq g114.symm)))) (Value.ref.inj q)) ((by omega))) hZ (t76 hw) (t73 hw) (by decide) (by decide)) (g := (mkF m 60 #[.val (.ref a1), .val (.ref a2), .val (.ref aq), .val vr, .unset] [(.ref b114), vlq, (.ref vaq), (.ref kaq), (.ref b106), (.ref b106)])) rfl (by rw [hml]; rfl) (a := b106) (argsL := [(.ref kaq), (.ref vaq), vlq, (.ref b114)]) (rest := [(.ref b106)]) (lenOf pd__Ljava_lang_String_Ljava_lang_Object_Lcom_example_isogloss_isogloss_util_PersistentMap_Node_Lcom_example_isogloss_isogloss_util_PersistentMap_Node__V rfl) rfl (by show 2 * 0 + _ ≤ _; exact Nat.le_of_eq rfl) (hb hby d26_60) (fun _ _ => ⟨rfl, rfl, (by decide : 2 + 0 ≤ _), (by decide : 10 + 0 ≤ _)⟩)
        dsimp only [Pt.U, Pt.locs, Pt.cells, Pt.slots] at X129 l129 y129 zz129 st129 hQ129
        subst y129 zz129
        obtain ⟨rfl, N129q, Kc129, r0_129, r1_129, r2_129, r3_129, r4_129, r5_129⟩ := hQ129
        have N129 : Fr n0 L129 := Eq.mpr (congrArg (Fr n0) l129) (Fr.app N120 N129q)
        have O130 : Old Z n0 T129.heap := O121.keep Kc129 (allS ge_b106 all0)
        have K130 : Keep h0 T129.heap [] := K121.trans Kc129 (allS (Or.inr sz_b106) all0)
        refine Gl.tr (B := (T129.setTop (mkF m 63 #[.val (.ref a1), .val (.ref a2), .val (.ref aq), .val vr, .unset] [(.ref b106)]))) st129 ?_
        have f131 := (r0_120.keep Kc129)
        have f132 := (r1_120.keep Kc129 (ninS (Ne.symm (Nat.ne_of_lt (Nat.lt_of_lt_of_le A106.lt (Nat.le_of_eq g114.symm)))) nin0))
        have f133 := (r2_120.keep Kc129 (ninS (Ne.symm (Nat.ne_of_lt (Nat.lt_of_lt_of_le A106.lt (Nat.le_of_eq g114.symm)))) nin0))
        have f134 := (r3_120.keep Kc129 (ninS (Ne.symm (Nat.ne_of_lt (Nat.lt_of_lt_of_le A106.lt (Nat.le_of_eq g114.symm)))) nin0))
        have f135 := (r4_120.keep Kc129 (ninS (Ne.symm (Nat.ne_of_lt (Nat.lt_of_lt_of_le A106.lt (Nat.le_of_eq g114.symm)))) nin0))
        have f136 := (r5_120.keep Kc129 (ninS (Ne.symm (Nat.ne_of_lt (Nat.lt_of_lt_of_le A106.lt (Nat.le_of_eq g114.symm)))) nin0))
        obtain ⟨fs, hr, hrun, hended, hW, hsame⟩ := X129.leave (v := some (.ref b106)) (fun h => by rw [Bd.returns] at h; cases h)
        refine ⟨_, _, ?_, hrun, hended, _, _, rfl, ?_, ⟨_, rfl⟩, hW, hsame.mono (by decide) (by decide)⟩
        · show Steps p.tables e below (T129.setTop (mkF m 63 #[.val (.ref a1), .val (.ref a2), .val (.ref aq), .val vr, .unset] [(.ref b106)])) _
          jvm_step X129.here [X129.here.top, hx, (hb hby d26_63), X129.method', Bd.returns, Value.isRef, FieldType.isReference]
          first | (intro acts; rw [hr _ acts rfl rfl rfl]) | rw [hr _ _ rfl rfl rfl]
          exact Steps.refl _
        · show Q_rbal Z a1 a2 (.ref aq) vr (gq + 1) nl nr x PL PR h0 n0 _ T129.heap _
          exact ⟨b106, rfl, N129, K130, sz_b106, own_LL ⟨f131, f132, f133, f134, f135, f136⟩ ⟨r0_129, r1_129, r2_129, r3_129, r4_129, r5_129⟩ (g_Str_a1.ext (own_ke K130)) hkx (Sq.ext (own_ke K130)) hxq (TLq.ext (own_ke K130)) (TRq.ext (own_ke K130)) (g_Tree_vr.ext (own_ke K130)) hnq b1q b2q hL hbd.1 hC p1q p2q hPq o1 o2⟩
    · skip
      have cq : ¬ (Int32.ofNat (nr + 1) < Int32.ofNat nl) := fun z => hL ((own_olt (by omega) (by omega)).mp z)
      refine Gl.step (B := (T2.setTop (mkF m 128 #[.val (.ref a1), .val (.ref a2), .val vl, .val vr, .unset] [vr]))) (fun t k => XS.icmpYes X2.here hx rfl (pc0 := 10) (pc' := 127) rfl (hb hby d26_10) rfl (flt (cq : ¬ ((Int32.ofNat (nr + 1)) < (Int32.ofNat nl)))).2.2.2 (by decide) (by decide) (XS.aloadN X2.here hx rfl (hb hby d26_127) rfl g_Tree_vr.isRef k)) ?_
      obtain ⟨_, _, ⟨T137, L137, c137, z137⟩, -, X137, ⟨Lc137, hQ137, l137, y137, zz137⟩, st137⟩ := Jvm.LawKit.callS X2 hx (y := y3) hown (mvT hZ (t138 hw)) (mvT hZ (t87 hw)) (mvT hZ (t36 hw)) (mvT hZ (t88 hw)) (by decide) (backOf (W := 0) (rhV l Z a0 hw [] vr nr h0 n0 O0 g_Tree_vr.ht) hZ (t88 hw) (t36 hw) (by decide) (by decide)) (g := (mkF m 128 #[.val (.ref a1), .val (.ref a2), .val vl, .val vr, .unset] [vr])) rfl (by rw [hml]; rfl) (argsL := [vr]) (rest := []) (lenOf pd__Lcom_example_isogloss_isogloss_util_PersistentMap_Node__I rfl) rfl (by show 2 * 0 + _ ≤ _; exact Nat.le_of_eq rfl) (hb hby d26_128) (fun _ _ => ⟨rfl, eh2, (by decide : 0 + 0 ≤ _), (by decide : 0 + 0 ≤ _)⟩)
      dsimp only [Pt.U, Pt.locs, Pt.cells, Pt.slots] at X137 l137 y137 zz137 st137 hQ137
      subst y137 zz137
      obtain ⟨rfl, N137q, eh137⟩ := hQ137
      have N137 : Fr n0 L137 := Eq.mpr (congrArg (Fr n0) l137) (Fr.app N2 N137q)
      refine Gl.step (B := (T137.setTop (mkF m 131 #[.val (.ref a1), .val (.ref a2), .val vl, .val vr, .unset] [(.int (Int32.ofNat nr))]))) st137 ?_
      refine Gl.step (B := (T137.setTop (mkF m 132 #[.val (.ref a1), .val (.ref a2), .val vl, .val vr, .unset] [vl, (.int (Int32.ofNat nr))]))) (fun t k => XS.aloadN X137.here hx rfl (hb hby d26_131) rfl g_Tree_vl.isRef k) ?_
      obtain ⟨_, _, ⟨T138, L138, c138, z138⟩, -, X138, ⟨Lc138, hQ138, l138, y138, zz138⟩, st138⟩ := Jvm.LawKit.callS X137 hx (y := y3) hown (mvT hZ (t138 hw)) (mvT hZ (t87 hw)) (mvT hZ (t36 hw)) (mvT hZ (t88 hw)) (by decide) (backOf (W := 1) (rhV l Z a0 hw [] vl nl h0 n0 O0 g_Tree_vl.ht) hZ (t88 hw) (t36 hw) (by decide) (by decide)) (g := (mkF m 132 #[.val (.ref a1), .val (.ref a2), .val vl, .val vr, .unset] [vl, (.int (Int32.ofNat nr))])) rfl (by rw [hml]; rfl) (argsL := [vl]) (rest := [(.int (Int32.ofNat nr))]) (lenOf pd__Lcom_example_isogloss_isogloss_util_PersistentMap_Node__I rfl) rfl (by show 2 * 0 + _ ≤ _; exact Nat.le_of_eq rfl) (hb hby d26_132) (fun _ _ => ⟨rfl, eh137, (by decide : 0 + 0 ≤ _), (by decide : 0 + 0 ≤ _)⟩)
      dsimp only [Pt.U, Pt.locs, Pt.cells, Pt.slots] at X138 l138 y138 zz138 st138 hQ138
      subst y138 zz138
      obtain ⟨rfl, N138q, eh138⟩ := hQ138
      have N138 : Fr n0 L138 := Eq.mpr (congrArg (Fr n0) l138) (Fr.app N137 N138q)
      refine Gl.step (B := (T138.setTop (mkF m 135 #[.val (.ref a1), .val (.ref a2), .val vl, .val vr, .unset] [(.int (Int32.ofNat nl)), (.int (Int32.ofNat nr))]))) st138 ?_
      refine Gl.step (B := (T138.setTop (mkF m 137 #[.val (.ref a1), .val (.ref a2), .val vl, .val vr, .unset] [(.int ((Int32.ofNat nl) + (1 : Int32))), (.int (Int32.ofNat nr))]))) (fun t k => XS.iconst X138.here hx rfl (hb hby d26_135) (XS.iadd X138.here hx rfl (hb hby d26_136) rfl k)) ?_
      rw [own_pre nl]
      by_cases hR : nl + 1 < nr
      · skip
        obtain ⟨gq, aq, kaq, vaq, xq, vlq, vrq, nlq, nrq, PLq, PRq, efq, evq, Nq, Sq, hxq, hnq, b1q, b2q, TLq, TRq, p1q, p2q, hPq⟩ := own_open g_Tree_vr (by omega)
        subst evq
        subst efq
        have cr : Int32.ofNat (nl + 1) < Int32.ofNat nr := (own_olt (by omega) (by omega)).mpr hR
        refine Gl.step (B := (T138.setTop (mkF m 141 #[.val (.ref a1), .val (.ref a2), .val vl, .val (.ref aq), .unset] [(.ref aq)]))) (fun t k => XS.icmpNo X138.here hx rfl (hb hby d26_137) rfl (tlt (cr : (Int32.ofNat (nl + 1)) < (Int32.ofNat nr))).2.2.2 (XS.aloadN X138.here hx rfl (hb hby d26_140) rfl rfl k)) ?_
        obtain ⟨T139, X139, e139, st139⟩ := own_getFR X138 hx hZ hown (t122 hw) eh138 Nq.2.2.2.2.1 (g := (mkF m 141 #[.val (.ref a1), .val (.ref a2), .val vl, .val (.ref aq), .unset] [(.ref aq)])) rfl rfl (hb hby d26_141)
        refine Gl.step (B := (T139.setTop (mkF m 144 #[.val (.ref a1), .val (.ref a2), .val vl, .val (.ref aq), .unset] [vrq]))) st139 ?_
        obtain ⟨_, _, ⟨T140, L140, c140, z140⟩, -, X140, ⟨Lc140, hQ140, l140, y140, zz140⟩, st140⟩ := Jvm.LawKit.callS X139 hx (y := y3) hown (mvT hZ (t138 hw)) (mvT hZ (t87 hw)) (mvT hZ (t36 hw)) (mvT hZ (t88 hw)) (by decide) (backOf (W := 0) (rhV l Z a0 hw [] vrq nrq h0 n0 O0 TRq.ht) hZ (t88 hw) (t36 hw) (by decide) (by decide)) (g := (mkF m 144 #[.val (.ref a1), .val (.ref a2), .val vl, .val (.ref aq), .unset] [vrq])) rfl (by rw [hml]; rfl) (argsL := [vrq]) (rest := []) (lenOf pd__Lcom_example_isogloss_isogloss_util_PersistentMap_Node__I rfl) rfl (by show 2 * 0 + _ ≤ _; exact Nat.le_of_eq rfl) (hb hby d26_144) (fun _ _ => ⟨rfl, e139, (by decide : 0 + 0 ≤ _), (by decide : 0 + 0 ≤ _)⟩)
        dsimp only [Pt.U, Pt.locs, Pt.cells, Pt.slots] at X140 l140 y140 zz140 st140 hQ140
        subst y140 zz140
        obtain ⟨rfl, N140q, eh140⟩ := hQ140
        have N140 : Fr n0 L140 := Eq.mpr (congrArg (Fr n0) l140) (Fr.app N138 N140q)
        refine Gl.step (B := (T140.setTop (mkF m 147 #[.val (.ref a1), .val (.ref a2), .val vl, .val (.ref aq), .unset] [(.int (Int32.ofNat nrq))]))) st140 ?_
        refine Gl.step (B := (T140.setTop (mkF m 148 #[.val (.ref a1), .val (.ref a2), .val vl, .val (.ref aq), .unset] [(.ref aq), (.int (Int32.ofNat nrq))]))) (fun t k => XS.aloadN X140.here hx rfl (hb hby d26_147) rfl rfl k) ?_
        obtain ⟨T141, X141, e141, st141⟩ := own_getFR X140 hx hZ hown (t121 hw) eh140 Nq.2.2.2.1 (g := (mkF m 148 #[.val (.ref a1), .val (.ref a2), .val vl, .val (.ref aq), .unset] [(.ref aq), (.int (Int32.ofNat nrq))])) rfl rfl (hb hby d26_148)
        refine Gl.step (B := (T141.setTop (mkF m 151 #[.val (.ref a1), .val (.ref a2), .val vl, .val (.ref aq), .unset] [vlq, (.int (Int32.ofNat nrq))]))) st141 ?_
        obtain ⟨_, _, ⟨T142, L142, c142, z142⟩, -, X142, ⟨Lc142, hQ142, l142, y142, zz142⟩, st142⟩ := Jvm.LawKit.callS X141 hx (y := y3) hown (mvT hZ (t138 hw)) (mvT hZ (t87 hw)) (mvT hZ (t36 hw)) (mvT hZ (t88 hw)) (by decide) (backOf (W := 1) (rhV l Z a0 hw [] vlq nlq h0 n0 O0 TLq.ht) hZ (t88 hw) (t36 hw) (by decide) (by decide)) (g := (mkF m 151 #[.val (.ref a1), .val (.ref a2), .val vl, .val (.ref aq), .unset] [vlq, (.int (Int32.ofNat nrq))])) rfl (by rw [hml]; rfl) (argsL := [vlq]) (rest := [(.int (Int32.ofNat nrq))]) (lenOf pd__Lcom_example_isogloss_isogloss_util_PersistentMap_Node__I rfl) rfl (by show 2 * 0 + _ ≤ _; exact Nat.le_of_eq rfl) (hb hby d26_151) (fun _ _ => ⟨rfl, e141, (by decide : 0 + 0 ≤ _), (by decide : 0 + 0 ≤ _)⟩)
        dsimp only [Pt.U, Pt.locs, Pt.cells, Pt.slots] at X142 l142 y142 zz142 st142 hQ142
        subst y142 zz142
        obtain ⟨rfl, N142q, eh142⟩ := hQ142
        have N142 : Fr n0 L142 := Eq.mpr (congrArg (Fr n0) l142) (Fr.app N140 N142q)
        refine Gl.step (B := (T142.setTop (mkF m 154 #[.val (.ref a1), .val (.ref a2), .val vl, .val (.ref aq), .unset] [(.int (Int32.ofNat nlq)), (.int (Int32.ofNat nrq))]))) st142 ?_
        by_cases hC : nrq < nlq
        · skip
          have cc : Int32.ofNat nrq < Int32.ofNat nlq := (own_olt (by omega) (by omega)).mpr hC
          obtain ⟨gp, ap, kap, vap, xp, vlp, vrp, nlp, nrp, PLp, PRp, efp, evp, Np, Sp, hxp, hnp, b1p, b2p, TLp, TRp, p1p, p2p, hPp⟩ := own_open TLq (by omega)
          subst evp
          subst efp
          rcases ref_cases g_Tree_vl.isRef with hvl | ⟨al, hvl⟩
          · skip
            subst hvl
            have hnl : nl = 0 := by
              rcases g_Tree_vl.ht with ⟨-, z⟩ | ⟨_, z, -⟩
              · exact z
              · exact nomatch z
            subst hnl
            refine Gl.step (B := (T142.setTop (mkF m 192 #[.val (.ref a1), .val (.ref a2), .val .null, .val (.ref aq), .unset] [(.ref aq)]))) (fun t k => XS.icmpYes X142.here hx rfl (pc0 := 154) (pc' := 191) rfl (hb hby d26_154) rfl (tlt (cc : (Int32.ofNat nrq) < (Int32.ofNat nlq))).1 (by decide) (by decide) (XS.aloadN X142.here hx rfl (hb hby d26_191) rfl rfl k)) ?_
            obtain ⟨T143, X143, e143, st143⟩ := own_getFR X142 hx hZ hown (t121 hw) eh142 Nq.2.2.2.1 (g := (mkF m 192 #[.val (.ref a1), .val (.ref a2), .val .null, .val (.ref aq), .unset] [(.ref aq)])) rfl rfl (hb hby d26_192)
            refine Gl.step (B := (T143.setTop (mkF m 195 #[.val (.ref a1), .val (.ref a2), .val .null, .val (.ref aq), .unset] [(.ref ap)]))) st143 ?_
            refine Gl.step (B := (T143.setTop (mkF m 197 #[.val (.ref a1), .val (.ref a2), .val .null, .val (.ref aq), .val (.ref ap)] []))) (fun t k => XS.astore X143.here hx rfl (hb hby d26_195) rfl rfl (l' := #[.val (.ref a1), .val (.ref a2), .val .null, .val (.ref aq), .val (.ref ap)]) rfl k) ?_
            obtain ⟨T144, h144, X144, e144, E144, A144, D144, -, st144⟩ := newO X143 hx hZ hown (t71 hw) (t72 hw) (t73 hw) e143 (g := (mkF m 197 #[.val (.ref a1), .val (.ref a2), .val .null, .val (.ref aq), .val (.ref ap)] [])) rfl (hb hby d26_197) (by decide) (by decide)
            obtain ⟨b144, g144⟩ : ∃ z, z = h0.size := ⟨_, rfl⟩
            rw [← g144] at A144 D144 st144
            have ge_b144 : n0 ≤ b144 := Nat.le_trans (own_oz O0) (Nat.le_of_eq g144.symm)
            have sz_b144 : h0.size ≤ b144 := Nat.le_trans K0.1 (Nat.le_of_eq g144.symm)
            have O145 : Old Z n0 h144 := O0.ext E144
            have K145 : Keep h0 h144 [] := K0.ext E144
            have F144_key : Fld Z h144 b144 own_ND "key" "Ljava/lang/String;" .null := D144 (Or.inr (t79 hw)) (ty := (.object "java/lang/String")) (by decide)
            have F144_value : Fld Z h144 b144 own_ND "value" "Ljava/lang/Object;" .null := D144 (Or.inr (t81 hw)) (ty := (.object "java/lang/Object")) (by decide)
            have F144_left : Fld Z h144 b144 own_ND "left" own_LN .null := D144 (Or.inr (t83 hw)) (ty := (.object "com/example/isogloss/isogloss/util/PersistentMap$Node")) (by decide)
            have F144_right : Fld Z h144 b144 own_ND "right" own_LN .null := D144 (Or.inr (t85 hw)) (ty := (.object "com/example/isogloss/isogloss/util/PersistentMap$Node")) (by decide)
            have F144_height : Fld Z h144 b144 own_ND "height" "I" (.int (0 : Int32)) := D144 (Or.inr (t94 hw)) (ty := .int) (by decide)
            refine Gl.step (B := (T144.setTop (mkF m 200 #[.val (.ref a1), .val (.ref a2), .val .null, .val (.ref aq), .val (.ref ap)] [(.ref b144)]))) st144 ?_
            refine Gl.step (B := (T144.setTop (mkF m 203 #[.val (.ref a1), .val (.ref a2), .val .null, .val (.ref aq), .val (.ref ap)] [(.ref ap), (.ref b144), (.ref b144)]))) (fun t k => XS.dup X144.here hx rfl (hb hby d26_200) rfl rfl (XS.aload X144.here hx rfl (hb hby d26_201) rfl rfl k)) ?_
            have f146 := (Np.2.1.ext (own_ke K145))
            obtain ⟨T147, X147, e147, st147⟩ := own_getFR X144 hx hZ hown (t95 hw) e144 f146 (g := (mkF m 203 #[.val (.ref a1), .val (.ref a2), .val .null, .val (.ref aq), .val (.ref ap)] [(.ref ap), (.ref b144), (.ref b144)])) rfl rfl (hb hby d26_203)
            refine Gl.step (B := (T147.setTop (mkF m 206 #[.val (.ref a1), .val (.ref a2), .val .null, .val (.ref aq), .val (.ref ap)] [(.ref kap), (.ref b144), (.ref b144)]))) st147 ?_
            refine Gl.step (B := (T147.setTop (mkF m 208 #[.val (.ref a1), .val (.ref a2), .val .null, .val (.ref aq), .val (.ref ap)] [(.ref ap), (.ref kap), (.ref b144), (.ref b144)]))) (fun t k => XS.aload X147.here hx rfl (hb hby d26_206) rfl rfl k) ?_
            have f148 := (Np.2.2.1.ext (own_ke K145))
            obtain ⟨T149, X149, e149, st149⟩ := own_getFR X147 hx hZ hown (t120 hw) e147 f148 (g := (mkF m 208 #[.val (.ref a1), .val (.ref a2), .val .null, .val (.ref aq), .val (.ref ap)] [(.ref ap), (.ref kap), (.ref b144), (.ref b144)])) rfl rfl (hb hby d26_208)
            refine Gl.step (B := (T149.setTop (mkF m 211 #[.val (.ref a1), .val (.ref a2), .val .null, .val (.ref aq), .val (.ref ap)] [(.ref vap), (.ref kap), (.ref b144), (.ref b144)]))) st149 ?_
            obtain ⟨T150, h150, X150, e150, E150, A150, D150, -, st150⟩ := newO X149 hx hZ hown (t71 hw) (t72 hw) (t73 hw) e149 (g := (mkF m 211 #[.val (.ref a1), .val (.ref a2), .val .null, .val (.ref aq), .val (.ref ap)] [(.ref vap), (.ref kap), (.ref b144), (.ref b144)])) rfl (hb hby d26_211) (by decide) (by decide)
            obtain ⟨b150, g150⟩ : ∃ z, z = h144.size := ⟨_, rfl⟩
            rw [← g150] at A150 D150 st150
            have ge_b150 : n0 ≤ b150 := Nat.le_trans (own_oz O145) (Nat.le_of_eq g150.symm)
            have sz_b150 : h0.size ≤ b150 := Nat.le_trans K145.1 (Nat.le_of_eq g150.symm)
            have O151 : Old Z n0 h150 := O145.ext E150
            have K151 : Keep h0 h150 [] := K145.ext E150
            have F150_key : Fld Z h150 b150 own_ND "key" "Ljava/lang/String;" .null := D150 (Or.inr (t79 hw)) (ty := (.object "java/lang/String")) (by decide)
            have F150_value : Fld Z h150 b150 own_ND "value" "Ljava/lang/Object;" .null := D150 (Or.inr (t81 hw)) (ty := (.object "java/lang/Object")) (by decide)
            have F150_left : Fld Z h150 b150 own_ND "left" own_LN .null := D150 (Or.inr (t83 hw)) (ty := (.object "com/example/isogloss/isogloss/util/PersistentMap$Node")) (by decide)
            have F150_right : Fld Z h150 b150 own_ND "right" own_LN .null := D150 (Or.inr (t85 hw)) (ty := (.object "com/example/isogloss/isogloss/util/PersistentMap$Node")) (by decide)
            have F150_height : Fld Z h150 b150 own_ND "height" "I" (.int (0 : Int32)) := D150 (Or.inr (t94 hw)) (ty := .int) (by decide)
            refine Gl.step (B := (T150.setTop (mkF m 214 #[.val (.ref a1), .val (.ref a2), .val .null, .val (.ref aq), .val (.ref ap)] [(.ref b150), (.ref vap), (.ref kap), (.ref b144), (.ref b144)]))) st150 ?_
            refine Gl.step (B := (T150.setTop (mkF m 220 #[.val (.ref a1), .val (.ref a2), .val .null, .val (.ref aq), .val (.ref ap)] [(.ref ap), .null, (.ref a2), (.ref a1), (.ref b150), (.ref b150), (.ref vap), (.ref kap), (.ref b144), (.ref b144)]))) (fun t k => XS.dup X150.here hx rfl (hb hby d26_214) rfl rfl (XS.aloadN X150.here hx rfl (hb hby d26_215) rfl rfl (XS.aloadN X150.here hx rfl (hb hby d26_216) rfl rfl (XS.aloadN X150.here hx rfl (hb hby d26_217) rfl rfl (XS.aload X150.here hx rfl (hb hby d26_218) rfl rfl k))))) ?_
            have f152 := (Np.2.2.2.1.ext (own_ke K151))
            obtain ⟨T153, X153, e153, st153⟩ := own_getFR X150 hx hZ hown (t121 hw) e150 f152 (g := (mkF m 220 #[.val (.ref a1), .val (.ref a2), .val .null, .val (.ref aq), .val (.ref ap)] [(.ref ap), .null, (.ref a2), (.ref a1), (.ref b150), (.ref b150), (.ref vap), (.ref kap), (.ref b144), (.ref b144)])) rfl rfl (hb hby d26_220)
            refine Gl.step (B := (T153.setTop (mkF m 223 #[.val (.ref a1), .val (.ref a2), .val .null, .val (.ref aq), .val (.ref ap)] [vlp, .null, (.ref a2), (.ref a1), (.ref b150), (.ref b150), (.ref vap), (.ref kap), (.ref b144), (.ref b144)]))) st153 ?_
            have f154 := (TLp.ht.ext (own_ke K151))
            obtain ⟨_, _, ⟨T155, L155, c155, z155⟩, -, X155, ⟨Lc155, hQ155, l155, y155, zz155⟩, st155⟩ := own_specialRef X153 hx hZ (y := y4) rfl hown (t74 hw) (t76 hw) (mvT hZ (t75 hw)) (mvT hZ (t76 hw)) (by decide) (backOf (W := 5) (rnV l Z a0 hw [] b150 a1 a2 .null vlp 0 nlp h150 n0 O151 A150 F150_key F150_value F150_left F150_right F150_height ge_b150 (Or.inl ⟨rfl, rfl⟩) f154 (fun q => nomatch q) (TLp.ht.nf sz_b150) ((by omega))) hZ (t76 hw) (t73 hw) (by decide) (by decide)) (g := (mkF m 223 #[.val (.ref a1), .val (.ref a2), .val .null, .val (.ref aq), .val (.ref ap)] [vlp, .null, (.ref a2), (.ref a1), (.ref b150), (.ref b150), (.ref vap), (.ref kap), (.ref b144), (.ref b144)])) rfl (by rw [hml]; rfl) (a := b150) (argsL := [(.ref a1), (.ref a2), .null, vlp]) (rest := [(.ref b150), (.ref vap), (.ref kap), (.ref b144), (.ref b144)]) (lenOf pd__Ljava_lang_String_Ljava_lang_Object_Lcom_example_isogloss_isogloss_util_PersistentMap_Node_Lcom_example_isogloss_isogloss_util_PersistentMap_Node__V rfl) rfl (by show 2 * 0 + _ ≤ _; exact Nat.le_of_eq rfl) (hb hby d26_223) (fun _ _ => ⟨rfl, e153, (by decide : 2 + 0 ≤ _), (by decide : 10 + 0 ≤ _)⟩)
            dsimp only [Pt.U, Pt.locs, Pt.cells, Pt.slots] at X155 l155 y155 zz155 st155 hQ155
            subst y155 zz155
            obtain ⟨rfl, N155q, Kc155, r0_155, r1_155, r2_155, r3_155, r4_155, r5_155⟩ := hQ155
            have N155 : Fr n0 L155 := Eq.mpr (congrArg (Fr n0) l155) (Fr.app N142 N155q)
            have O156 : Old Z n0 T155.heap := O151.keep Kc155 (allS ge_b150 all0)
            have K156 : Keep h0 T155.heap [] := K151.trans Kc155 (allS (Or.inr sz_b150) all0)
            refine Gl.tr (B := (T155.setTop (mkF m 226 #[.val (.ref a1), .val (.ref a2), .val .null, .val (.ref aq), .val (.ref ap)] [(.ref b150), (.ref vap), (.ref kap), (.ref b144), (.ref b144)]))) st155 ?_
            obtain ⟨T157, h157, X157, e157, E157, A157, D157, -, st157⟩ := newO X155 hx hZ hown (t71 hw) (t72 hw) (t73 hw) rfl (g := (mkF m 226 #[.val (.ref a1), .val (.ref a2), .val .null, .val (.ref aq), .val (.ref ap)] [(.ref b150), (.ref vap), (.ref kap), (.ref b144), (.ref b144)])) rfl (hb hby d26_226) (by decide) (by decide)
            obtain ⟨b157, g157⟩ : ∃ z, z = T155.heap.size := ⟨_, rfl⟩
            rw [← g157] at A157 D157 st157
            have ge_b157 : n0 ≤ b157 := Nat.le_trans (own_oz O156) (Nat.le_of_eq g157.symm)
            have sz_b157 : h0.size ≤ b157 := Nat.le_trans K156.1 (Nat.le_of_eq g157.symm)
            have O158 : Old Z n0 h157 := O156.ext E157
            have K158 : Keep h0 h157 [] := K156.ext E157
            have F157_key : Fld Z h157 b157 own_ND "key" "Ljava/lang/String;" .null := D157 (Or.inr (t79 hw)) (ty := (.object "java/lang/String")) (by decide)
            have F157_value : Fld Z h157 b157 own_ND "value" "Ljava/lang/Object;" .null := D157 (Or.inr (t81 hw)) (ty := (.object "java/lang/Object")) (by decide)
            have F157_left : Fld Z h157 b157 own_ND "left" own_LN .null := D157 (Or.inr (t83 hw)) (ty := (.object "com/example/isogloss/isogloss/util/PersistentMap$Node")) (by decide)
            have F157_right : Fld Z h157 b157 own_ND "right" own_LN .null := D157 (Or.inr (t85 hw)) (ty := (.object "com/example/isogloss/isogloss/util/PersistentMap$Node")) (by decide)
            have F157_height : Fld Z h157 b157 own_ND "height" "I" (.int (0 : Int32)) := D157 (Or.inr (t94 hw)) (ty := .int) (by decide)
            refine Gl.step (B := (T157.setTop (mkF m 229 #[.val (.ref a1), .val (.ref a2), .val .null, .val (.ref aq), .val (.ref ap)] [(.ref b157), (.ref b150), (.ref vap), (.ref kap), (.ref b144), (.ref b144)]))) st157 ?_
            refine Gl.step (B := (T157.setTop (mkF m 231 #[.val (.ref a1), .val (.ref a2), .val .null, .val (.ref aq), .val (.ref ap)] [(.ref aq), (.ref b157), (.ref b157), (.ref b150), (.ref vap), (.ref kap), (.ref b144), (.ref b144)]))) (fun t k => XS.dup X157.here hx rfl (hb hby d26_229) rfl rfl (XS.aloadN X157.here hx rfl (hb hby d26_230) rfl rfl k)) ?_
            have f159 := (Nq.2.1.ext (own_ke K158))
            obtain ⟨T160, X160, e160, st160⟩ := own_getFR X157 hx hZ hown (t95 hw) e157 f159 (g := (mkF m 231 #[.val (.ref a1), .val (.ref a2), .val .null, .val (.ref aq), .val (.ref ap)] [(.ref aq), (.ref b157), (.ref b157), (.ref b150), (.ref vap), (.ref kap), (.ref b144), (.ref b144)])) rfl rfl (hb hby d26_231)
            refine Gl.step (B := (T160.setTop (mkF m 234 #[.val (.ref a1), .val (.ref a2), .val .null, .val (.ref aq), .val (.ref ap)] [(.ref kaq), (.ref b157), (.ref b157), (.ref b150), (.ref vap), (.ref kap), (.ref b144), (.ref b144)]))) st160 ?_
            refine Gl.step (B := (T160.setTop (mkF m 235 #[.val (.ref a1), .val (.ref a2), .val .null, .val (.ref aq), .val (.ref ap)] [(.ref aq), (.ref kaq), (.ref b157), (.ref b157), (.ref b150), (.ref vap), (.ref kap), (.ref b144), (.ref b144)]))) (fun t k => XS.aloadN X160.here hx rfl (hb hby d26_234) rfl rfl k) ?_
            have f161 := (Nq.2.2.1.ext (own_ke K158))
            obtain ⟨T162, X162, e162, st162⟩ := own_getFR X160 hx hZ hown (t120 hw) e160 f161 (g := (mkF m 235 #[.val (.ref a1), .val (.ref a2), .val .null, .val (.ref aq), .val (.ref ap)] [(.ref aq), (.ref kaq), (.ref b157), (.ref b157), (.ref b150), (.ref vap), (.ref kap), (.ref b144), (.ref b144)])) rfl rfl (hb hby d26_235)
            refine Gl.step (B := (T162.setTop (mkF m 238 #[.val (.ref a1), .val (.ref a2), .val .null, .val (.ref aq), .val (.ref ap)] [(.ref vaq), (.ref kaq), (.ref b157), (.ref b157), (.ref b150), (.ref vap), (.ref kap), (.ref b144), (.ref b144)]))) st162 ?_
            refine Gl.step (B := (T162.setTop (mkF m 240 #[.val (.ref a1), .val (.ref a2), .val .null, .val (.ref aq), .val (.ref ap)] [(.ref ap), (.ref vaq), (.ref kaq), (.ref b157), (.ref b157), (.ref b150), (.ref vap), (.ref kap), (.ref b144), (.ref b144)]))) (fun t k => XS.aload X162.here hx rfl (hb hby d26_238) rfl rfl k) ?_
            have f163 := (Np.2.2.2.2.1.ext (own_ke K158))
            obtain ⟨T164, X164, e164, st164⟩ := own_getFR X162 hx hZ hown (t122 hw) e162 f163 (g := (mkF m 240 #[.val (.ref a1), .val (.ref a2), .val .null, .val (.ref aq), .val (.ref ap)] [(.ref ap), (.ref vaq), (.ref kaq), (.ref b157), (.ref b157), (.ref b150), (.ref vap), (.ref kap), (.ref b144), (.ref b144)])) rfl rfl (hb hby d26_240)
            refine Gl.step (B := (T164.setTop (mkF m 243 #[.val (.ref a1), .val (.ref a2), .val .null, .val (.ref aq), .val (.ref ap)] [vrp, (.ref vaq), (.ref kaq), (.ref b157), (.ref b157), (.ref b150), (.ref vap), (.ref kap), (.ref b144), (.ref b144)]))) st164 ?_
            refine Gl.step (B := (T164.setTop (mkF m 244 #[.val (.ref a1), .val (.ref a2), .val .null, .val (.ref aq), .val (.ref ap)] [(.ref aq), vrp, (.ref vaq), (.ref kaq), (.ref b157), (.ref b157), (.ref b150), (.ref vap), (.ref kap), (.ref b144), (.ref b144)]))) (fun t k => XS.aloadN X164.here hx rfl (hb hby d26_243) rfl rfl k) ?_
            have f165 := (Nq.2.2.2.2.1.ext (own_ke K158))
            obtain ⟨T166, X166, e166, st166⟩ := own_getFR X164 hx hZ hown (t122 hw) e164 f165 (g := (mkF m 244 #[.val (.ref a1), .val (.ref a2), .val .null, .val (.ref aq), .val (.ref ap)] [(.ref aq), vrp, (.ref vaq), (.ref kaq), (.ref b157), (.ref b157), (.ref b150), (.ref vap), (.ref kap), (.ref b144), (.ref b144)])) rfl rfl (hb hby d26_244)
            refine Gl.step (B := (T166.setTop (mkF m 247 #[.val (.ref a1), .val (.ref a2), .val .null, .val (.ref aq), .val (.ref ap)] [vrq, vrp, (.ref vaq), (.ref kaq), (.ref b157), (.ref b157), (.ref b150), (.ref vap), (.ref kap), (.ref b144), (.ref b144)]))) st166 ?_
            have f167 := (TRp.ht.ext (own_ke K158))
            have f168 := (TRq.ht.ext (own_ke K158))
            obtain ⟨_, _, ⟨T169, L169, c169, z169⟩, -, X169, ⟨Lc169, hQ169, l169, y169, zz169⟩, st169⟩ := own_specialRef X166 hx hZ (y := y4) rfl hown (t74 hw) (t76 hw) (mvT hZ (t75 hw)) (mvT hZ (t76 hw)) (by decide) (backOf (W := 6) (rnV l Z a0 hw [] b157 kaq vaq vrp vrq nrp nrq h157 n0 O158 A157 F157_key F157_value F157_left F157_right F157_height ge_b157 f167 f168 (TRp.ht.nf sz_b157) (TRq.ht.nf sz_b157) ((by omega))) hZ (t76 hw) (t73 hw) (by decide) (by decide)) (g := (mkF m 247 #[.val (.ref a1), .val (.ref a2), .val .null, .val (.ref aq), .val (.ref ap)] [vrq, vrp, (.ref vaq), (.ref kaq), (.ref b157), (.ref b157), (.ref b150), (.ref vap), (.ref kap), (.ref b144), (.ref b144)])) rfl (by rw [hml]; rfl) (a := b157) (argsL := [(.ref kaq), (.ref vaq), vrp, vrq]) (rest := [(.ref b157), (.ref b150), (.ref vap), (.ref kap), (.ref b144), (.ref b144)]) (lenOf pd__Ljava_lang_String_Ljava_lang_Object_Lcom_example_isogloss_isogloss_util_PersistentMap_Node_Lcom_example_isogloss_isogloss_util_PersistentMap_Node__V rfl) rfl (by show 2 * 0 + _ ≤ _; exact Nat.le_of_eq rfl) (hb hby d26_247) (fun _ _ => ⟨rfl, e166, (by decide : 3 + 0 ≤ _), (by decide : 15 + 0 ≤ _)⟩)
            dsimp only [Pt.U, Pt.locs, Pt.cells, Pt.slots] at X169 l169 y169 zz169 st169 hQ169
            subst y169 zz169
            obtain ⟨rfl, N169q, Kc169, r0_169, r1_169, r2_169, r3_169, r4_169, r5_169⟩ := hQ169
            have N169 : Fr n0 L169 := Eq.mpr (congrArg (Fr n0) l169) (Fr.app N155 N169q)
            have O170 : Old Z n0 T169.heap := O158.keep Kc169 (allS ge_b157 all0)
            have K170 : Keep h0 T169.heap [] := K158.trans Kc169 (allS (Or.inr sz_b157) all0)
            refine Gl.tr (B := (T169.setTop (mkF m 250 #[.val (.ref a1), .val (.ref a2), .val .null, .val (.ref aq), .val (.ref ap)] [(.ref b157), (.ref b150), (.ref vap), (.ref kap), (.ref b144), (.ref b144)]))) st169 ?_
            have f171 := ((r5_155.ext E157).keep Kc169 (ninS (Nat.ne_of_lt (Nat.lt_of_lt_of_le r0_155.lt (Nat.le_of_eq g157.symm))) nin0))
            have f172 := ((((A144.ext E150).keep Kc155).ext E157).keep Kc169)
            have f173 := ((((F144_key.ext E150).keep Kc155 (ninS (Nat.ne_of_lt (Nat.lt_of_lt_of_le A144.lt (Nat.le_of_eq g150.symm))) nin0)).ext E157).keep Kc169 (ninS (Nat.ne_of_lt (Nat.lt_of_lt_of_le ((A144.ext E150).keep Kc155).lt (Nat.le_of_eq g157.symm))) nin0))
            have f174 := ((((F144_value.ext E150).keep Kc155 (ninS (Nat.ne_of_lt (Nat.lt_of_lt_of_le A144.lt (Nat.le_of_eq g150.symm))) nin0)).ext E157).keep Kc169 (ninS (Nat.ne_of_lt (Nat.lt_of_lt_of_le ((A144.ext E150).keep Kc155).lt (Nat.le_of_eq g157.symm))) nin0))
            have f175 := ((((F144_left.ext E150).keep Kc155 (ninS (Nat.ne_of_lt (Nat.lt_of_lt_of_le A144.lt (Nat.le_of_eq g150.symm))) nin0)).ext E157).keep Kc169 (ninS (Nat.ne_of_lt (Nat.lt_of_lt_of_le ((A144.ext E150).keep Kc155).lt (Nat.le_of_eq g157.symm))) nin0))
            have f176 := ((((F144_right.ext E150).keep Kc155 (ninS (Nat.ne_of_lt (Nat.lt_of_lt_of_le A144.lt (Nat.le_of_eq g150.symm))) nin0)).ext E157).keep Kc169 (ninS (Nat.ne_of_lt (Nat.lt_of_lt_of_le ((A144.ext E150).keep Kc155).lt (Nat.le_of_eq g157.symm))) nin0))
            have f177 := ((((F144_height.ext E150).keep Kc155 (ninS (Nat.ne_of_lt (Nat.lt_of_lt_of_le A144.lt (Nat.le_of_eq g150.symm))) nin0)).ext E157).keep Kc169 (ninS (Nat.ne_of_lt (Nat.lt_of_lt_of_le ((A144.ext E150).keep Kc155).lt (Nat.le_of_eq g157.symm))) nin0))
            obtain ⟨_, _, ⟨T178, L178, c178, z178⟩, -, X178, ⟨Lc178, hQ178, l178, y178, zz178⟩, st178⟩ := own_specialRef X169 hx hZ (y := y4) rfl hown (t74 hw) (t76 hw) (mvT hZ (t75 hw)) (mvT hZ (t76 hw)) (by decide) (backOf (W := 1) (rnV l Z a0 hw [] b144 kap vap (.ref b150) (.ref b157) (max 0 nlp + 1) (max nrp nrq + 1) T169.heap n0 O170 f172 f173 f174 f175 f176 f177 ge_b144 (Or.inr ⟨b150, rfl, f171⟩) (Or.inr ⟨b157, rfl, r5_169⟩) (fun q => (Ne.symm (Nat.ne_of_lt (Nat.lt_of_lt_of_le A144.lt (Nat.le_of_eq g150.symm)))) (Value.ref.inj q)) (fun q => (Ne.symm (Nat.ne_of_lt (Nat.lt_of_lt_of_le ((A144.ext E150).keep Kc155).lt (Nat.le_of_eq g157.symm)))) (Value.ref.inj q)) ((by omega))) hZ (t76 hw) (t73 hw) (by decide) (by decide)) (g := (mkF m 250 #[.val (.ref a1), .val (.ref a2), .val .null, .val (.ref aq), .val (.ref ap)] [(.ref b157), (.ref b150), (.ref vap), (.ref kap), (.ref b144), (.ref b144)])) rfl (by rw [hml]; rfl) (a := b144) (argsL := [(.ref kap), (.ref vap), (.ref b150), (.ref b157)]) (rest := [(.ref b144)]) (lenOf pd__Ljava_lang_String_Ljava_lang_Object_Lcom_example_isogloss_isogloss_util_PersistentMap_Node_Lcom_example_isogloss_isogloss_util_PersistentMap_Node__V rfl) rfl (by show 2 * 0 + _ ≤ _; exact Nat.le_of_eq rfl) (hb hby d26_250) (fun _ _ => ⟨rfl, rfl, (by decide : 3 + 0 ≤ _), (by decide : 15 + 0 ≤ _)⟩)
            dsimp only [Pt.U, Pt.locs, Pt.cells, Pt.slots] at X178 l178 y178 zz178 st178 hQ178
            subst y178 zz178
            obtain ⟨rfl, N178q, Kc178, r0_178, r1_178, r2_178, r3_178, r4_178, r5_178⟩ := hQ178
            have N178 : Fr n0 L178 := Eq.mpr (congrArg (Fr n0) l178) (Fr.app N169 N178q)
            have O179 : Old Z n0 T178.heap := O170.keep Kc178 (allS ge_b144 all0)
            have K179 : Keep h0 T178.heap [] := K170.trans Kc178 (allS (Or.inr sz_b144) all0)
            refine Gl.tr (B := (T178.setTop (mkF m 253 #[.val (.ref a1), .val (.ref a2), .val .null, .val (.ref aq), .val (.ref ap)] [(.ref b144)]))) st178 ?_
            have f180 := (((r0_155.ext E157).keep Kc169).keep Kc178)
            have f181 := (((r1_155.ext E157).keep Kc169 (ninS (Nat.ne_of_lt (Nat.lt_of_lt_of_le r0_155.lt (Nat.le_of_eq g157.symm))) nin0)).keep Kc178 (ninS (Ne.symm (Nat.ne_of_lt (Nat.lt_of_lt_of_le A144.lt (Nat.le_of_eq g150.symm)))) nin0))
            have f182 := (((r2_155.ext E157).keep Kc169 (ninS (Nat.ne_of_lt (Nat.lt_of_lt_of_le r0_155.lt (Nat.le_of_eq g157.symm))) nin0)).keep Kc178 (ninS (Ne.symm (Nat.ne_of_lt (Nat.lt_of_lt_of_le A144.lt (Nat.le_of_eq g150.symm)))) nin0))
            have f183 := (((r3_155.ext E157).keep Kc169 (ninS (Nat.ne_of_lt (Nat.lt_of_lt_of_le r0_155.lt (Nat.le_of_eq g157.symm))) nin0)).keep Kc178 (ninS (Ne.symm (Nat.ne_of_lt (Nat.lt_of_lt_of_le A144.lt (Nat.le_of_eq g150.symm)))) nin0))
            have f184 := (((r4_155.ext E157).keep Kc169 (ninS (Nat.ne_of_lt (Nat.lt_of_lt_of_le r0_155.lt (Nat.le_of_eq g157.symm))) nin0)).keep Kc178 (ninS (Ne.symm (Nat.ne_of_lt (Nat.lt_of_lt_of_le A144.lt (Nat.le_of_eq g150.symm)))) nin0))
            have f185 := (f171.keep Kc178 (ninS (Ne.symm (Nat.ne_of_lt (Nat.lt_of_lt_of_le A144.lt (Nat.le_of_eq g150.symm)))) nin0))
            have f186 := (r0_169.keep Kc178)
            have f187 := (r1_169.keep Kc178 (ninS (Ne.symm (Nat.ne_of_lt (Nat.lt_of_lt_of_le ((A144.ext E150).keep Kc155).lt (Nat.le_of_eq g157.symm)))) nin0))
            have f188 := (r2_169.keep Kc178 (ninS (Ne.symm (Nat.ne_of_lt (Nat.lt_of_lt_of_le ((A144.ext E150).keep Kc155).lt (Nat.le_of_eq g157.symm)))) nin0))
            have f189 := (r3_169.keep Kc178 (ninS (Ne.symm (Nat.ne_of_lt (Nat.lt_of_lt_of_le ((A144.ext E150).keep Kc155).lt (Nat.le_of_eq g157.symm)))) nin0))
            have f190 := (r4_169.keep Kc178 (ninS (Ne.symm (Nat.ne_of_lt (Nat.lt_of_lt_of_le ((A144.ext E150).keep Kc155).lt (Nat.le_of_eq g157.symm)))) nin0))
            have f191 := (r5_169.keep Kc178 (ninS (Ne.symm (Nat.ne_of_lt (Nat.lt_of_lt_of_le ((A144.ext E150).keep Kc155).lt (Nat.le_of_eq g157.symm)))) nin0))
            obtain ⟨fs, hr, hrun, hended, hW, hsame⟩ := X178.leave (v := some (.ref b144)) (fun h => by rw [Bd.returns] at h; cases h)
            refine ⟨_, _, ?_, hrun, hended, _, _, rfl, ?_, ⟨_, rfl⟩, hW, hsame.mono (by decide) (by decide)⟩
            · show Steps p.tables e below (T178.setTop (mkF m 253 #[.val (.ref a1), .val (.ref a2), .val .null, .val (.ref aq), .val (.ref ap)] [(.ref b144)])) _
              jvm_step X178.here [X178.here.top, hx, (hb hby d26_253), X178.method', Bd.returns, Value.isRef, FieldType.isReference]
              first | (intro acts; rw [hr _ acts rfl rfl rfl]) | rw [hr _ _ rfl rfl rfl]
              exact Steps.refl _
            · show Q_rbal Z a1 a2 .null (.ref aq) (gp + 1 + 1) 0 nr x PL PR h0 n0 _ T178.heap _
              exact ⟨b144, rfl, N178, K179, sz_b144, own_RL (vl := .null) ⟨f180, f181, f182, f183, f184, f185⟩ ⟨f186, f187, f188, f189, f190, f191⟩ ⟨r0_178, r1_178, r2_178, r3_178, r4_178, r5_178⟩ (g_Str_a1.ext (own_ke K179)) hkx (Sq.ext (own_ke K179)) hxq (Sp.ext (own_ke K179)) hxp (g_Tree_vl.ext (own_ke K179)) (TLp.ext (own_ke K179)) (TRp.ext (own_ke K179)) (TRq.ext (own_ke K179)) hnp b1p b2p hnq b1q b2q hR hbd.2 hC p1q p2q hPq p1p p2p hPp o1 o2⟩
          · skip
            subst hvl
            have Fal : Fld Z h0 al "com/example/isogloss/isogloss/util/PersistentMap$Node" "height" "I" (.int (Int32.ofNat nl)) := by
              rcases g_Tree_vl.ht with ⟨z, -⟩ | ⟨_, z, F⟩
              · exact nomatch z
              · cases z; exact F
            refine Gl.step (B := (T142.setTop (mkF m 192 #[.val (.ref a1), .val (.ref a2), .val (.ref al), .val (.ref aq), .unset] [(.ref aq)]))) (fun t k => XS.icmpYes X142.here hx rfl (pc0 := 154) (pc' := 191) rfl (hb hby d26_154) rfl (tlt (cc : (Int32.ofNat nrq) < (Int32.ofNat nlq))).1 (by decide) (by decide) (XS.aloadN X142.here hx rfl (hb hby d26_191) rfl rfl k)) ?_
            obtain ⟨T192, X192, e192, st192⟩ := own_getFR X142 hx hZ hown (t121 hw) eh142 Nq.2.2.2.1 (g := (mkF m 192 #[.val (.ref a1), .val (.ref a2), .val (.ref al), .val (.ref aq), .unset] [(.ref aq)])) rfl rfl (hb hby d26_192)
            refine Gl.step (B := (T192.setTop (mkF m 195 #[.val (.ref a1), .val (.ref a2), .val (.ref al), .val (.ref aq), .unset] [(.ref ap)]))) st192 ?_
            refine Gl.step (B := (T192.setTop (mkF m 197 #[.val (.ref a1), .val (.ref a2), .val (.ref al), .val (.ref aq), .val (.ref ap)] []))) (fun t k => XS.astore X192.here hx rfl (hb hby d26_195) rfl rfl (l' := #[.val (.ref a1), .val (.ref a2), .val (.ref al), .val (.ref aq), .val (.ref ap)]) rfl k) ?_
            obtain ⟨T193, h193, X193, e193, E193, A193, D193, -, st193⟩ := newO X192 hx hZ hown (t71 hw) (t72 hw) (t73 hw) e192 (g := (mkF m 197 #[.val (.ref a1), .val (.ref a2), .val (.ref al), .val (.ref aq), .val (.ref ap)] [])) rfl (hb hby d26_197) (by decide) (by decide)
            obtain ⟨b193, g193⟩ : ∃ z, z = h0.size := ⟨_, rfl⟩
            rw [← g193] at A193 D193 st193
            have ge_b193 : n0 ≤ b193 := Nat.le_trans (own_oz O0) (Nat.le_of_eq g193.symm)
            have sz_b193 : h0.size ≤ b193 := Nat.le_trans K0.1 (Nat.le_of_eq g193.symm)
            have O194 : Old Z n0 h193 := O0.ext E193
            have K194 : Keep h0 h193 [] := K0.ext E193
            have F193_key : Fld Z h193 b193 own_ND "key" "Ljava/lang/String;" .null := D193 (Or.inr (t79 hw)) (ty := (.object "java/lang/String")) (by decide)
            have F193_value : Fld Z h193 b193 own_ND "value" "Ljava/lang/Object;" .null := D193 (Or.inr (t81 hw)) (ty := (.object "java/lang/Object")) (by decide)
            have F193_left : Fld Z h193 b193 own_ND "left" own_LN .null := D193 (Or.inr (t83 hw)) (ty := (.object "com/example/isogloss/isogloss/util/PersistentMap$Node")) (by decide)
            have F193_right : Fld Z h193 b193 own_ND "right" own_LN .null := D193 (Or.inr (t85 hw)) (ty := (.object "com/example/isogloss/isogloss/util/PersistentMap$Node")) (by decide)
            have F193_height : Fld Z h193 b193 own_ND "height" "I" (.int (0 : Int32)) := D193 (Or.inr (t94 hw)) (ty := .int) (by decide)
            refine Gl.step (B := (T193.setTop (mkF m 200 #[.val (.ref a1), .val (.ref a2), .val (.ref al), .val (.ref aq), .val (.ref ap)] [(.ref b193)]))) st193 ?_
            refine Gl.step (B := (T193.setTop (mkF m 203 #[.val (.ref a1), .val (.ref a2), .val (.ref al), .val (.ref aq), .val (.ref ap)] [(.ref ap), (.ref b193), (.ref b193)]))) (fun t k => XS.dup X193.here hx rfl (hb hby d26_200) rfl rfl (XS.aload X193.here hx rfl (hb hby d26_201) rfl rfl k)) ?_
            have f195 := (Np.2.1.ext (own_ke K194))
            obtain ⟨T196, X196, e196, st196⟩ := own_getFR X193 hx hZ hown (t95 hw) e193 f195 (g := (mkF m 203 #[.val (.ref a1), .val (.ref a2), .val (.ref al), .val (.ref aq), .val (.ref ap)] [(.ref ap), (.ref b193), (.ref b193)])) rfl rfl (hb hby d26_203)
            refine Gl.step (B := (T196.setTop (mkF m 206 #[.val (.ref a1), .val (.ref a2), .val (.ref al), .val (.ref aq), .val (.ref ap)] [(.ref kap), (.ref b193), (.ref b193)]))) st196 ?_
            refine Gl.step (B := (T196.setTop (mkF m 208 #[.val (.ref a1), .val (.ref a2), .val (.ref al), .val (.ref aq), .val (.ref ap)] [(.ref ap), (.ref kap), (.ref b193), (.ref b193)]))) (fun t k => XS.aload X196.here hx rfl (hb hby d26_206) rfl rfl k) ?_
            have f197 := (Np.2.2.1.ext (own_ke K194))
            obtain ⟨T198, X198, e198, st198⟩ := own_getFR X196 hx hZ hown (t120 hw) e196 f197 (g := (mkF m 208 #[.val (.ref a1), .val (.ref a2), .val (.ref al), .val (.ref aq), .val (.ref ap)] [(.ref ap), (.ref kap), (.ref b193), (.ref b193)])) rfl rfl (hb hby d26_208)
            refine Gl.step (B := (T198.setTop (mkF m 211 #[.val (.ref a1), .val (.ref a2), .val (.ref al), .val (.ref aq), .val (.ref ap)] [(.ref vap), (.ref kap), (.ref b193), (.ref b193)]))) st198 ?_
            obtain ⟨T199, h199, X199, e199, E199, A199, D199, -, st199⟩ := newO X198 hx hZ hown (t71 hw) (t72 hw) (t73 hw) e198 (g := (mkF m 211 #[.val (.ref a1), .val (.ref a2), .val (.ref al), .val (.ref aq), .val (.ref ap)] [(.ref vap), (.ref kap), (.ref b193), (.ref b193)])) rfl (hb hby d26_211) (by decide) (by decide)
            obtain ⟨b199, g199⟩ : ∃ z, z = h193.size := ⟨_, rfl⟩
            rw [← g199] at A199 D199 st199
            have ge_b199 : n0 ≤ b199 := Nat.le_trans (own_oz O194) (Nat.le_of_eq g199.symm)
            have sz_b199 : h0.size ≤ b199 := Nat.le_trans K194.1 (Nat.le_of_eq g199.symm)
            have O200 : Old Z n0 h199 := O194.ext E199
            have K200 : Keep h0 h199 [] := K194.ext E199
            have F199_key : Fld Z h199 b199 own_ND "key" "Ljava/lang/String;" .null := D199 (Or.inr (t79 hw)) (ty := (.object "java/lang/String")) (by decide)
            have F199_value : Fld Z h199 b199 own_ND "value" "Ljava/lang/Object;" .null := D199 (Or.inr (t81 hw)) (ty := (.object "java/lang/Object")) (by decide)
            have F199_left : Fld Z h199 b199 own_ND "left" own_LN .null := D199 (Or.inr (t83 hw)) (ty := (.object "com/example/isogloss/isogloss/util/PersistentMap$Node")) (by decide)
            have F199_right : Fld Z h199 b199 own_ND "right" own_LN .null := D199 (Or.inr (t85 hw)) (ty := (.object "com/example/isogloss/isogloss/util/PersistentMap$Node")) (by decide)
            have F199_height : Fld Z h199 b199 own_ND "height" "I" (.int (0 : Int32)) := D199 (Or.inr (t94 hw)) (ty := .int) (by decide)
            refine Gl.step (B := (T199.setTop (mkF m 214 #[.val (.ref a1), .val (.ref a2), .val (.ref al), .val (.ref aq), .val (.ref ap)] [(.ref b199), (.ref vap), (.ref kap), (.ref b193), (.ref b193)]))) st199 ?_
            refine Gl.step (B := (T199.setTop (mkF m 220 #[.val (.ref a1), .val (.ref a2), .val (.ref al), .val (.ref aq), .val (.ref ap)] [(.ref ap), (.ref al), (.ref a2), (.ref a1), (.ref b199), (.ref b199), (.ref vap), (.ref kap), (.ref b193), (.ref b193)]))) (fun t k => XS.dup X199.here hx rfl (hb hby d26_214) rfl rfl (XS.aloadN X199.here hx rfl (hb hby d26_215) rfl rfl (XS.aloadN X199.here hx rfl (hb hby d26_216) rfl rfl (XS.aloadN X199.here hx rfl (hb hby d26_217) rfl rfl (XS.aload X199.here hx rfl (hb hby d26_218) rfl rfl k))))) ?_
            have f201 := (Np.2.2.2.1.ext (own_ke K200))
            obtain ⟨T202, X202, e202, st202⟩ := own_getFR X199 hx hZ hown (t121 hw) e199 f201 (g := (mkF m 220 #[.val (.ref a1), .val (.ref a2), .val (.ref al), .val (.ref aq), .val (.ref ap)] [(.ref ap), (.ref al), (.ref a2), (.ref a1), (.ref b199), (.ref b199), (.ref vap), (.ref kap), (.ref b193), (.ref b193)])) rfl rfl (hb hby d26_220)
            refine Gl.step (B := (T202.setTop (mkF m 223 #[.val (.ref a1), .val (.ref a2), .val (.ref al), .val (.ref aq), .val (.ref ap)] [vlp, (.ref al), (.ref a2), (.ref a1), (.ref b199), (.ref b199), (.ref vap), (.ref kap), (.ref b193), (.ref b193)]))) st202 ?_
            have f203 := (Fal.ext (own_ke K200))
            have f204 := (TLp.ht.ext (own_ke K200))
            obtain ⟨_, _, ⟨T205, L205, c205, z205⟩, -, X205, ⟨Lc205, hQ205, l205, y205, zz205⟩, st205⟩ := own_specialRef X202 hx hZ (y := y4) rfl hown (t74 hw) (t76 hw) (mvT hZ (t75 hw)) (mvT hZ (t76 hw)) (by decide) (backOf (W := 5) (rnV l Z a0 hw [] b199 a1 a2 (.ref al) vlp nl nlp h199 n0 O200 A199 F199_key F199_value F199_left F199_right F199_height ge_b199 (Or.inr ⟨al, rfl, f203⟩) f204 (fun q => (Nat.ne_of_lt (Nat.lt_of_lt_of_le (Fal.ext E193).lt (Nat.le_of_eq g199.symm))) (Value.ref.inj q)) (TLp.ht.nf sz_b199) ((by omega))) hZ (t76 hw) (t73 hw) (by decide) (by decide)) (g := (mkF m 223 #[.val (.ref a1), .val (.ref a2), .val (.ref al), .val (.ref aq), .val (.ref ap)] [vlp, (.ref al), (.ref a2), (.ref a1), (.ref b199), (.ref b199), (.ref vap), (.ref kap), (.ref b193), (.ref b193)])) rfl (by rw [hml]; rfl) (a := b199) (argsL := [(.ref a1), (.ref a2), (.ref al), vlp]) (rest := [(.ref b199), (.ref vap), (.ref kap), (.ref b193), (.ref b193)]) (lenOf pd__Ljava_lang_String_Ljava_lang_Object_Lcom_example_isogloss_isogloss_util_PersistentMap_Node_Lcom_example_isogloss_isogloss_util_PersistentMap_Node__V rfl) rfl (by show 2 * 0 + _ ≤ _; exact Nat.le_of_eq rfl) (hb hby d26_223) (fun _ _ => ⟨rfl, e202, (by decide : 2 + 0 ≤ _), (by decide : 10 + 0 ≤ _)⟩)
            dsimp only [Pt.U, Pt.locs, Pt.cells, Pt.slots] at X205 l205 y205 zz205 st205 hQ205
            subst y205 zz205
            obtain ⟨rfl, N205q, Kc205, r0_205, r1_205, r2_205, r3_205, r4_205, r5_205⟩ := hQ205
            have N205 : Fr n0 L205 := Eq.mpr (congrArg (Fr n0) l205) (Fr.app N142 N205q)
            have O206 : Old Z n0 T205.heap := O200.keep Kc205 (allS ge_b199 all0)
            have K206 : Keep h0 T205.heap [] := K200.trans Kc205 (allS (Or.inr sz_b199) all0)
            refine Gl.tr (B := (T205.setTop (mkF m 226 #[.val (.ref a1), .val (.ref a2), .val (.ref al), .val (.ref aq), .val (.ref ap)] [(.ref b199), (.ref vap), (.ref kap), (.ref b193), (.ref b193)]))) st205 ?_
            obtain ⟨T207, h207, X207, e207, E207, A207, D207, -, st207⟩ := newO X205 hx hZ hown (t71 hw) (t72 hw) (t73 hw) rfl (g := (mkF m 226 #[.val (.ref a1), .val (.ref a2), .val (.ref al), .val (.ref aq), .val (.ref ap)] [(.ref b199), (.ref vap), (.ref kap), (.ref b193), (.ref b193)])) rfl (hb hby d26_226) (by decide) (by decide)
            obtain ⟨b207, g207⟩ : ∃ z, z = T205.heap.size := ⟨_, rfl⟩
            rw [← g207] at A207 D207 st207
            have ge_b207 : n0 ≤ b207 := Nat.le_trans (own_oz O206) (Nat.le_of_eq g207.symm)
            have sz_b207 : h0.size ≤ b207 := Nat.le_trans K206.1 (Nat.le_of_eq g207.symm)
            have O208 : Old Z n0 h207 := O206.ext E207
            have K208 : Keep h0 h207 [] := K206.ext E207
            have F207_key : Fld Z h207 b207 own_ND "key" "Ljava/lang/String;" .null := D207 (Or.inr (t79 hw)) (ty := (.object "java/lang/String")) (by decide)
            have F207_value : Fld Z h207 b207 own_ND "value" "Ljava/lang/Object;" .null := D207 (Or.inr (t81 hw)) (ty := (.object "java/lang/Object")) (by decide)
            have F207_left : Fld Z h207 b207 own_ND "left" own_LN .null := D207 (Or.inr (t83 hw)) (ty := (.object "com/example/isogloss/isogloss/util/PersistentMap$Node")) (by decide)
            have F207_right : Fld Z h207 b207 own_ND "right" own_LN .null := D207 (Or.inr (t85 hw)) (ty := (.object "com/example/isogloss/isogloss/util/PersistentMap$Node")) (by decide)
            have F207_height : Fld Z h207 b207 own_ND "height" "I" (.int (0 : Int32)) := D207 (Or.inr (t94 hw)) (ty := .int) (by decide)
            refine Gl.step (B := (T207.setTop (mkF m 229 #[.val (.ref a1), .val (.ref a2), .val (.ref al), .val (.ref aq), .val (.ref ap)] [(.ref b207), (.ref b199), (.ref vap), (.ref kap), (.ref b193), (.ref b193)]))) st207 ?_
            refine Gl.step (B := (T207.setTop (mkF m 231 #[.val (.ref a1), .val (.ref a2), .val (.ref al), .val (.ref aq), .val (.ref ap)] [(.ref aq), (.ref b207), (.ref b207), (.ref b199), (.ref vap), (.ref kap), (.ref b193), (.ref b193)]))) (fun t k => XS.dup X207.here hx rfl (hb hby d26_229) rfl rfl (XS.aloadN X207.here hx rfl (hb hby d26_230) rfl rfl k)) ?_
            have f209 := (Nq.2.1.ext (own_ke K208))
            obtain ⟨T210, X210, e210, st210⟩ := own_getFR X207 hx hZ hown (t95 hw) e207 f209 (g := (mkF m 231 #[.val (.ref a1), .val (.ref a2), .val (.ref al), .val (.ref aq), .val (.ref ap)] [(.ref aq), (.ref b207), (.ref b207), (.ref b199), (.ref vap), (.ref kap), (.ref b193), (.ref b193)])) rfl rfl (hb hby d26_231)
            refine Gl.step (B := (T210.setTop (mkF m 234 #[.val (.ref a1), .val (.ref a2), .val (.ref al), .val (.ref aq), .val (.ref ap)] [(.ref kaq), (.ref b207), (.ref b207), (.ref b199), (.ref vap), (.ref kap), (.ref b193), (.ref b193)]))) st210 ?_
            refine Gl.step (B := (T210.setTop (mkF m 235 #[.val (.ref a1), .val (.ref a2), .val (.ref al), .val (.ref aq), .val (.ref ap)] [(.ref aq), (.ref kaq), (.ref b207), (.ref b207), (.ref b199), (.ref vap), (.ref kap), (.ref b193), (.ref b193)]))) (fun t k => XS.aloadN X210.here hx rfl (hb hby d26_234) rfl rfl k) ?_
            have f211 := (Nq.2.2.1.ext (own_ke K208))
            obtain ⟨T212, X212, e212, st212⟩ := own_getFR X210 hx hZ hown (t120 hw) e210 f211 (g := (mkF m 235 #[.val (.ref a1), .val (.ref a2), .val (.ref al), .val (.ref aq), .val (.ref ap)] [(.ref aq), (.ref kaq), (.ref b207), (.ref b207), (.ref b199), (.ref vap), (.ref kap), (.ref b193), (.ref b193)])) rfl rfl (hb hby d26_235)
            refine Gl.step (B := (T212.setTop (mkF m 238 #[.val (.ref a1), .val (.ref a2), .val (.ref al), .val (.ref aq), .val (.ref ap)] [(.ref vaq), (.ref kaq), (.ref b207), (.ref b207), (.ref b199), (.ref vap), (.ref kap), (.ref b193), (.ref b193)]))) st212 ?_
            refine Gl.step (B := (T212.setTop (mkF m 240 #[.val (.ref a1), .val (.ref a2), .val (.ref al), .val (.ref aq), .val (.ref ap)] [(.ref ap), (.ref vaq), (.ref kaq), (.ref b207), (.ref b207), (.ref b199), (.ref vap), (.ref kap), (.ref b193), (.ref b193)]))) (fun t k => XS.aload X212.here hx rfl (hb hby d26_238) rfl rfl k) ?_
            have f213 := (Np.2.2.2.2.1.ext (own_ke K208))
            obtain ⟨T214, X214, e214, st214⟩ := own_getFR X212 hx hZ hown (t122 hw) e212 f213 (g := (mkF m 240 #[.val (.ref a1), .val (.ref a2), .val (.ref al), .val (.ref aq), .val (.ref ap)] [(.ref ap), (.ref vaq), (.ref kaq), (.ref b207), (.ref b207), (.ref b199), (.ref vap), (.ref kap), (.ref b193), (.ref b193)])) rfl rfl (hb hby d26_240)
            refine Gl.step (B := (T214.setTop (mkF m 243 #[.val (.ref a1), .val (.ref a2), .val (.ref al), .val (.ref aq), .val (.ref ap)] [vrp, (.ref vaq), (.ref kaq), (.ref b207), (.ref b207), (.ref b199), (.ref vap), (.ref kap), (.ref b193), (.ref b193)]))) st214 ?_
            refine Gl.step (B := (T214.setTop (mkF m 244 #[.val (.ref a1), .val (.ref a2), .val (.ref al), .val (.ref aq), .val (.ref ap)] [(.ref aq), vrp, (.ref vaq), (.ref kaq), (.ref b207), (.ref b207), (.ref b199), (.ref vap), (.ref kap), (.ref b193), (.ref b193)]))) (fun t k => XS.aloadN X214.here hx rfl (hb hby d26_243) rfl rfl k) ?_
            have f215 := (Nq.2.2.2.2.1.ext (own_ke K208))
            obtain ⟨T216, X216, e216, st216⟩ := own_getFR X214 hx hZ hown (t122 hw) e214 f215 (g := (mkF m 244 #[.val (.ref a1), .val (.ref a2), .val (.ref al), .val (.ref aq), .val (.ref ap)] [(.ref aq), vrp, (.ref vaq), (.ref kaq), (.ref b207), (.ref b207), (.ref b199), (.ref vap), (.ref kap), (.ref b193), (.ref b193)])) rfl rfl (hb hby d26_244)
            refine Gl.step (B := (T216.setTop (mkF m 247 #[.val (.ref a1), .val (.ref a2), .val (.ref al), .val (.ref aq), .val (.ref ap)] [vrq, vrp, (.ref vaq), (.ref kaq), (.ref b207), (.ref b207), (.ref b199), (.ref vap), (.ref kap), (.ref b193), (.ref b193)]))) st216 ?_
            have f217 := (TRp.ht.ext (own_ke K208))
            have f218 := (TRq.ht.ext (own_ke K208))
            obtain ⟨_, _, ⟨T219, L219, c219, z219⟩, -, X219, ⟨Lc219, hQ219, l219, y219, zz219⟩, st219⟩ := own_specialRef X216 hx hZ (y := y4) rfl hown (t74 hw) (t76 hw) (mvT hZ (t75 hw)) (mvT hZ (t76 hw)) (by decide) (backOf (W := 6) (rnV l Z a0 hw [] b207 kaq vaq vrp vrq nrp nrq h207 n0 O208 A207 F207_key F207_value F207_left F207_right F207_height ge_b207 f217 f218 (TRp.ht.nf sz_b207) (TRq.ht.nf sz_b207) ((by omega))) hZ (t76 hw) (t73 hw) (by decide) (by decide)) (g := (mkF m 247 #[.val (.ref a1), .val (.ref a2), .val (.ref al), .val (.ref aq), .val (.ref ap)] [vrq, vrp, (.ref vaq), (.ref kaq), (.ref b207), (.ref b207), (.ref b199), (.ref vap), (.ref kap), (.ref b193), (.ref b193)])) rfl (by rw [hml]; rfl) (a := b207) (argsL := [(.ref kaq), (.ref vaq), vrp, vrq]) (rest := [(.ref b207), (.ref b199), (.ref vap), (.ref kap), (.ref b193), (.ref b193)]) (lenOf pd__Ljava_lang_String_Ljava_lang_Object_Lcom_example_isogloss_isogloss_util_PersistentMap_Node_Lcom_example_isogloss_isogloss_util_PersistentMap_Node__V rfl) rfl (by show 2 * 0 + _ ≤ _; exact Nat.le_of_eq rfl) (hb hby d26_247) (fun _ _ => ⟨rfl, e216, (by decide : 3 + 0 ≤ _), (by decide : 15 + 0 ≤ _)⟩)
            dsimp only [Pt.U, Pt.locs, Pt.cells, Pt.slots] at X219 l219 y219 zz219 st219 hQ219
            subst y219 zz219
            obtain ⟨rfl, N219q, Kc219, r0_219, r1_219, r2_219, r3_219, r4_219, r5_219⟩ := hQ219
            have N219 : Fr n0 L219 := Eq.mpr (congrArg (Fr n0) l219) (Fr.app N205 N219q)
            have O220 : Old Z n0 T219.heap := O208.keep Kc219 (allS ge_b207 all0)
            have K220 : Keep h0 T219.heap [] := K208.trans Kc219 (allS (Or.inr sz_b207) all0)
            refine Gl.tr (B := (T219.setTop (mkF m 250 #[.val (.ref a1), .val (.ref a2), .val (.ref al), .val (.ref aq), .val (.ref ap)] [(.ref b207), (.ref b199), (.ref vap), (.ref kap), (.ref b193), (.ref b193)]))) st219 ?_
            have f221 := ((r5_205.ext E207).keep Kc219 (ninS (Nat.ne_of_lt (Nat.lt_of_lt_of_le r0_205.lt (Nat.le_of_eq g207.symm))) nin0))
            have f222 := ((((A193.ext E199).keep Kc205).ext E207).keep Kc219)
            have f223 := ((((F193_key.ext E199).keep Kc205 (ninS (Nat.ne_of_lt (Nat.lt_of_lt_of_le A193.lt (Nat.le_of_eq g199.symm))) nin0)).ext E207).keep Kc219 (ninS (Nat.ne_of_lt (Nat.lt_of_lt_of_le ((A193.ext E199).keep Kc205).lt (Nat.le_of_eq g207.symm))) nin0))
            have f224 := ((((F193_value.ext E199).keep Kc205 (ninS (Nat.ne_of_lt (Nat.lt_of_lt_of_le A193.lt (Nat.le_of_eq g199.symm))) nin0)).ext E207).keep Kc219 (ninS (Nat.ne_of_lt (Nat.lt_of_lt_of_le ((A193.ext E199).keep Kc205).lt (Nat.le_of_eq g207.symm))) nin0))
            have f225 := ((((F193_left.ext E199).keep Kc205 (ninS (Nat.ne_of_lt (Nat.lt_of_lt_of_le A193.lt (Nat.le_of_eq g199.symm))) nin0)).ext E207).keep Kc219 (ninS (Nat.ne_of_lt (Nat.lt_of_lt_of_le ((A193.ext E199).keep Kc205).lt (Nat.le_of_eq g207.symm))) nin0))
            have f226 := ((((F193_right.ext E199).keep Kc205 (ninS (Nat.ne_of_lt (Nat.lt_of_lt_of_le A193.lt (Nat.le_of_eq g199.symm))) nin0)).ext E207).keep Kc219 (ninS (Nat.ne_of_lt (Nat.lt_of_lt_of_le ((A193.ext E199).keep Kc205).lt (Nat.le_of_eq g207.symm))) nin0))
            have f227 := ((((F193_height.ext E199).keep Kc205 (ninS (Nat.ne_of_lt (Nat.lt_of_lt_of_le A193.lt (Nat.le_of_eq g199.symm))) nin0)).ext E207).keep Kc219 (ninS (Nat.ne_of_lt (Nat.lt_of_lt_of_le ((A193.ext E199).keep Kc205).lt (Nat.le_of_eq g207.symm))) nin0))
            obtain ⟨_, _, ⟨T228, L228, c228, z228⟩, -, X228, ⟨Lc228, hQ228, l228, y228, zz228⟩, st228⟩ := own_specialRef X219 hx hZ (y := y4) rfl hown (t74 hw) (t76 hw) (mvT hZ (t75 hw)) (mvT hZ (t76 hw)) (by decide) (backOf (W := 1) (rnV l Z a0 hw [] b193 kap vap (.ref b199) (.ref b207) (max nl nlp + 1) (max nrp nrq + 1) T219.heap n0 O220 f222 f223 f224 f225 f226 f227 ge_b193 (Or.inr ⟨b199, rfl, f221⟩) (Or.inr ⟨b207, rfl, r5_219⟩) (fun q => (Ne.symm (Nat.ne_of_lt (Nat.lt_of_lt_of_le A193.lt (Nat.le_of_eq g199.symm)))) (Value.ref.inj q)) (fun q => (Ne.symm (Nat.ne_of_lt (Nat.lt_of_lt_of_le ((A193.ext E199).keep Kc205).lt (Nat.le_of_eq g207.symm)))) (Value.ref.inj q)) ((by omega))) hZ (t76 hw) (t73 hw) (by decide) (by decide)) (g := (mkF m 250 #[.val (.ref a1), .val (.ref a2), .val (.ref al), .val (.ref aq), .val (.ref ap)] [(.ref b207), (.ref b199), (.ref vap), (.ref kap), (.ref b193), (.ref b193)])) rfl (by rw [hml]; rfl) (a := b193) (argsL := [(.ref kap), (.ref vap), (.ref b199), (.ref b207)]) (rest := [(.ref b193)]) (lenOf pd__Ljava_lang_String_Ljava_lang_Object_Lcom_example_isogloss_isogloss_util_PersistentMap_Node_Lcom_example_isogloss_isogloss_util_PersistentMap_Node__V rfl) rfl (by show 2 * 0 + _ ≤ _; exact Nat.le_of_eq rfl) (hb hby d26_250) (fun _ _ => ⟨rfl, rfl, (by decide : 3 + 0 ≤ _), (by decide : 15 + 0 ≤ _)⟩)
            dsimp only [Pt.U, Pt.locs, Pt.cells, Pt.slots] at X228 l228 y228 zz228 st228 hQ228
            subst y228 zz228
            obtain ⟨rfl, N228q, Kc228, r0_228, r1_228, r2_228, r3_228, r4_228, r5_228⟩ := hQ228
            have N228 : Fr n0 L228 := Eq.mpr (congrArg (Fr n0) l228) (Fr.app N219 N228q)
            have O229 : Old Z n0 T228.heap := O220.keep Kc228 (allS ge_b193 all0)
            have K229 : Keep h0 T228.heap [] := K220.trans Kc228 (allS (Or.inr sz_b193) all0)
            refine Gl.tr (B := (T228.setTop (mkF m 253 #[.val (.ref a1), .val (.ref a2), .val (.ref al), .val (.ref aq), .val (.ref ap)] [(.ref b193)]))) st228 ?_
            have f230 := (((r0_205.ext E207).keep Kc219).keep Kc228)
            have f231 := (((r1_205.ext E207).keep Kc219 (ninS (Nat.ne_of_lt (Nat.lt_of_lt_of_le r0_205.lt (Nat.le_of_eq g207.symm))) nin0)).keep Kc228 (ninS (Ne.symm (Nat.ne_of_lt (Nat.lt_of_lt_of_le A193.lt (Nat.le_of_eq g199.symm)))) nin0))
            have f232 := (((r2_205.ext E207).keep Kc219 (ninS (Nat.ne_of_lt (Nat.lt_of_lt_of_le r0_205.lt (Nat.le_of_eq g207.symm))) nin0)).keep Kc228 (ninS (Ne.symm (Nat.ne_of_lt (Nat.lt_of_lt_of_le A193.lt (Nat.le_of_eq g199.symm)))) nin0))
            have f233 := (((r3_205.ext E207).keep Kc219 (ninS (Nat.ne_of_lt (Nat.lt_of_lt_of_le r0_205.lt (Nat.le_of_eq g207.symm))) nin0)).keep Kc228 (ninS (Ne.symm (Nat.ne_of_lt (Nat.lt_of_lt_of_le A193.lt (Nat.le_of_eq g199.symm)))) nin0))
            have f234 := (((r4_205.ext E207).keep Kc219 (ninS (Nat.ne_of_lt (Nat.lt_of_lt_of_le r0_205.lt (Nat.le_of_eq g207.symm))) nin0)).keep Kc228 (ninS (Ne.symm (Nat.ne_of_lt (Nat.lt_of_lt_of_le A193.lt (Nat.le_of_eq g199.symm)))) nin0))
            have f235 := (f221.keep Kc228 (ninS (Ne.symm (Nat.ne_of_lt (Nat.lt_of_lt_of_le A193.lt (Nat.le_of_eq g199.symm)))) nin0))
            have f236 := (r0_219.keep Kc228)
            have f237 := (r1_219.keep Kc228 (ninS (Ne.symm (Nat.ne_of_lt (Nat.lt_of_lt_of_le ((A193.ext E199).keep Kc205).lt (Nat.le_of_eq g207.symm)))) nin0))
            have f238 := (r2_219.keep Kc228 (ninS (Ne.symm (Nat.ne_of_lt (Nat.lt_of_lt_of_le ((A193.ext E199).keep Kc205).lt (Nat.le_of_eq g207.symm)))) nin0))
            have f239 := (r3_219.keep Kc228 (ninS (Ne.symm (Nat.ne_of_lt (Nat.lt_of_lt_of_le ((A193.ext E199).keep Kc205).lt (Nat.le_of_eq g207.symm)))) nin0))
            have f240 := (r4_219.keep Kc228 (ninS (Ne.symm (Nat.ne_of_lt (Nat.lt_of_lt_of_le ((A193.ext E199).keep Kc205).lt (Nat.le_of_eq g207.symm)))) nin0))
            have f241 := (r5_219.keep Kc228 (ninS (Ne.symm (Nat.ne_of_lt (Nat.lt_of_lt_of_le ((A193.ext E199).keep Kc205).lt (Nat.le_of_eq g207.symm)))) nin0))
            obtain ⟨fs, hr, hrun, hended, hW, hsame⟩ := X228.leave (v := some (.ref b193)) (fun h => by rw [Bd.returns] at h; cases h)
            refine ⟨_, _, ?_, hrun, hended, _, _, rfl, ?_, ⟨_, rfl⟩, hW, hsame.mono (by decide) (by decide)⟩
            · show Steps p.tables e below (T228.setTop (mkF m 253 #[.val (.ref a1), .val (.ref a2), .val (.ref al), .val (.ref aq), .val (.ref ap)] [(.ref b193)])) _
              jvm_step X228.here [X228.here.top, hx, (hb hby d26_253), X228.method', Bd.returns, Value.isRef, FieldType.isReference]
              first | (intro acts; rw [hr _ acts rfl rfl rfl]) | rw [hr _ _ rfl rfl rfl]
              exact Steps.refl _
            · show Q_rbal Z a1 a2 (.ref al) (.ref aq) (gp + 1 + 1) nl nr x PL PR h0 n0 _ T228.heap _
              exact ⟨b193, rfl, N228, K229, sz_b193, own_RL (vl := (.ref al)) ⟨f230, f231, f232, f233, f234, f235⟩ ⟨f236, f237, f238, f239, f240, f241⟩ ⟨r0_228, r1_228, r2_228, r3_228, r4_228, r5_228⟩ (g_Str_a1.ext (own_ke K229)) hkx (Sq.ext (own_ke K229)) hxq (Sp.ext (own_ke K229)) hxp (g_Tree_vl.ext (own_ke K229)) (TLp.ext (own_ke K229)) (TRp.ext (own_ke K229)) (TRq.ext (own_ke K229)) hnp b1p b2p hnq b1q b2q hR hbd.2 hC p1q p2q hPq p1p p2p hPp o1 o2⟩
        · skip
          have cc : ¬ (Int32.ofNat nrq < Int32.ofNat nlq) := fun z => hC ((own_olt (by omega) (by omega)).mp z)
          refine Gl.step (B := (T142.setTop (mkF m 157 #[.val (.ref a1), .val (.ref a2), .val vl, .val (.ref aq), .unset] []))) (fun t k => XS.icmpNo X142.here hx rfl (hb hby d26_154) rfl (flt (cc : ¬ ((Int32.ofNat nrq) < (Int32.ofNat nlq)))).1 k) ?_
          obtain ⟨T242, h242, X242, e242, E242, A242, D242, -, st242⟩ := newO X142 hx hZ hown (t71 hw) (t72 hw) (t73 hw) eh142 (g := (mkF m 157 #[.val (.ref a1), .val (.ref a2), .val vl, .val (.ref aq), .unset] [])) rfl (hb hby d26_157) (by decide) (by decide)
          obtain ⟨b242, g242⟩ : ∃ z, z = h0.size := ⟨_, rfl⟩
          rw [← g242] at A242 D242 st242
          have ge_b242 : n0 ≤ b242 := Nat.le_trans (own_oz O0) (Nat.le_of_eq g242.symm)
          have sz_b242 : h0.size ≤ b242 := Nat.le_trans K0.1 (Nat.le_of_eq g242.symm)
          have O243 : Old Z n0 h242 := O0.ext E242
          have K243 : Keep h0 h242 [] := K0.ext E242
          have F242_key : Fld Z h242 b242 own_ND "key" "Ljava/lang/String;" .null := D242 (Or.inr (t79 hw)) (ty := (.object "java/lang/String")) (by decide)
          have F242_value : Fld Z h242 b242 own_ND "value" "Ljava/lang/Object;" .null := D242 (Or.inr (t81 hw)) (ty := (.object "java/lang/Object")) (by decide)
          have F242_left : Fld Z h242 b242 own_ND "left" own_LN .null := D242 (Or.inr (t83 hw)) (ty := (.object "com/example/isogloss/isogloss/util/PersistentMap$Node")) (by decide)
          have F242_right : Fld Z h242 b242 own_ND "right" own_LN .null := D242 (Or.inr (t85 hw)) (ty := (.object "com/example/isogloss/isogloss/util/PersistentMap$Node")) (by decide)
          have F242_height : Fld Z h242 b242 own_ND "height" "I" (.int (0 : Int32)) := D242 (Or.inr (t94 hw)) (ty := .int) (by decide)
          refine Gl.step (B := (T242.setTop (mkF m 160 #[.val (.ref a1), .val (.ref a2), .val vl, .val (.ref aq), .unset] [(.ref b242)]))) st242 ?_
          refine Gl.step (B := (T242.setTop (mkF m 162 #[.val (.ref a1), .val (.ref a2), .val vl, .val (.ref aq), .unset] [(.ref aq), (.ref b242), (.ref b242)]))) (fun t k => XS.dup X242.here hx rfl (hb hby d26_160) rfl rfl (XS.aloadN X242.here hx rfl (hb hby d26_161) rfl rfl k)) ?_
          have f244 := (Nq.2.1.ext (own_ke K243))
          obtain ⟨T245, X245, e245, st245⟩ := own_getFR X242 hx hZ hown (t95 hw) e242 f244 (g := (mkF m 162 #[.val (.ref a1), .val (.ref a2), .val vl, .val (.ref aq), .unset] [(.ref aq), (.ref b242), (.ref b242)])) rfl rfl (hb hby d26_162)
          refine Gl.step (B := (T245.setTop (mkF m 165 #[.val (.ref a1), .val (.ref a2), .val vl, .val (.ref aq), .unset] [(.ref kaq), (.ref b242), (.ref b242)]))) st245 ?_
          refine Gl.step (B := (T245.setTop (mkF m 166 #[.val (.ref a1), .val (.ref a2), .val vl, .val (.ref aq), .unset] [(.ref aq), (.ref kaq), (.ref b242), (.ref b242)]))) (fun t k => XS.aloadN X245.here hx rfl (hb hby d26_165) rfl rfl k) ?_
          have f246 := (Nq.2.2.1.ext (own_ke K243))
          obtain ⟨T247, X247, e247, st247⟩ := own_getFR X245 hx hZ hown (t120 hw) e245 f246 (g := (mkF m 166 #[.val (.ref a1), .val (.ref a2), .val vl, .val (.ref aq), .unset] [(.ref aq), (.ref kaq), (.ref b242), (.ref b242)])) rfl rfl (hb hby d26_166)
          refine Gl.step (B := (T247.setTop (mkF m 169 #[.val (.ref a1), .val (.ref a2), .val vl, .val (.ref aq), .unset] [(.ref vaq), (.ref kaq), (.ref b242), (.ref b242)]))) st247 ?_
          obtain ⟨T248, h248, X248, e248, E248, A248, D248, -, st248⟩ := newO X247 hx hZ hown (t71 hw) (t72 hw) (t73 hw) e247 (g := (mkF m 169 #[.val (.ref a1), .val (.ref a2), .val vl, .val (.ref aq), .unset] [(.ref vaq), (.ref kaq), (.ref b242), (.ref b242)])) rfl (hb hby d26_169) (by decide) (by decide)
          obtain ⟨b248, g248⟩ : ∃ z, z = h242.size := ⟨_, rfl⟩
          rw [← g248] at A248 D248 st248
          have ge_b248 : n0 ≤ b248 := Nat.le_trans (own_oz O243) (Nat.le_of_eq g248.symm)
          have sz_b248 : h0.size ≤ b248 := Nat.le_trans K243.1 (Nat.le_of_eq g248.symm)
          have O249 : Old Z n0 h248 := O243.ext E248
          have K249 : Keep h0 h248 [] := K243.ext E248
          have F248_key : Fld Z h248 b248 own_ND "key" "Ljava/lang/String;" .null := D248 (Or.inr (t79 hw)) (ty := (.object "java/lang/String")) (by decide)
          have F248_value : Fld Z h248 b248 own_ND "value" "Ljava/lang/Object;" .null := D248 (Or.inr (t81 hw)) (ty := (.object "java/lang/Object")) (by decide)
          have F248_left : Fld Z h248 b248 own_ND "left" own_LN .null := D248 (Or.inr (t83 hw)) (ty := (.object "com/example/isogloss/isogloss/util/PersistentMap$Node")) (by decide)
          have F248_right : Fld Z h248 b248 own_ND "right" own_LN .null := D248 (Or.inr (t85 hw)) (ty := (.object "com/example/isogloss/isogloss/util/PersistentMap$Node")) (by decide)
          have F248_height : Fld Z h248 b248 own_ND "height" "I" (.int (0 : Int32)) := D248 (Or.inr (t94 hw)) (ty := .int) (by decide)
          refine Gl.step (B := (T248.setTop (mkF m 172 #[.val (.ref a1), .val (.ref a2), .val vl, .val (.ref aq), .unset] [(.ref b248), (.ref vaq), (.ref kaq), (.ref b242), (.ref b242)]))) st248 ?_
          refine Gl.step (B := (T248.setTop (mkF m 177 #[.val (.ref a1), .val (.ref a2), .val vl, .val (.ref aq), .unset] [(.ref aq), vl, (.ref a2), (.ref a1), (.ref b248), (.ref b248), (.ref vaq), (.ref kaq), (.ref b242), (.ref b242)]))) (fun t k => XS.dup X248.here hx rfl (hb hby d26_172) rfl rfl (XS.aloadN X248.here hx rfl (hb hby d26_173) rfl rfl (XS.aloadN X248.here hx rfl (hb hby d26_174) rfl rfl (XS.aloadN X248.here hx rfl (hb hby d26_175) rfl g_Tree_vl.isRef (XS.aloadN X248.here hx rfl (hb hby d26_176) rfl rfl k))))) ?_
          have f250 := (Nq.2.2.2.1.ext (own_ke K249))
          obtain ⟨T251, X251, e251, st251⟩ := own_getFR X248 hx hZ hown (t121 hw) e248 f250 (g := (mkF m 177 #[.val (.ref a1), .val (.ref a2), .val vl, .val (.ref aq), .unset] [(.ref aq), vl, (.ref a2), (.ref a1), (.ref b248), (.ref b248), (.ref vaq), (.ref kaq), (.ref b242), (.ref b242)])) rfl rfl (hb hby d26_177)
          refine Gl.step (B := (T251.setTop (mkF m 180 #[.val (.ref a1), .val (.ref a2), .val vl, .val (.ref aq), .unset] [vlq, vl, (.ref a2), (.ref a1), (.ref b248), (.ref b248), (.ref vaq), (.ref kaq), (.ref b242), (.ref b242)]))) st251 ?_
          have f252 := (g_Tree_vl.ht.ext (own_ke K249))
          have f253 := (TLq.ht.ext (own_ke K249))
          obtain ⟨_, _, ⟨T254, L254, c254, z254⟩, -, X254, ⟨Lc254, hQ254, l254, y254, zz254⟩, st254⟩ := own_specialRef X251 hx hZ (y := y4) rfl hown (t74 hw) (t76 hw) (mvT hZ (t75 hw)) (mvT hZ (t76 hw)) (by decide) (backOf (W := 5) (rnV l Z a0 hw [] b248 a1 a2 vl vlq nl nlq h248 n0 O249 A248 F248_key F248_value F248_left F248_right F248_height ge_b248 f252 f253 (g_Tree_vl.ht.nf sz_b248) (TLq.ht.nf sz_b248) ((by omega))) hZ (t76 hw) (t73 hw) (by decide) (by decide)) (g := (mkF m 180 #[.val (.ref a1), .val (.ref a2), .val vl, .val (.ref aq), .unset] [vlq, vl, (.ref a2), (.ref a1), (.ref b248), (.ref b248), (.ref vaq), (.ref kaq), (.ref b242), (.ref b242)])) rfl (by rw [hml]; rfl) (a := b248) (argsL := [(.ref a1), (.ref a2), vl, vlq]) (rest := [(.ref b248), (.ref vaq), (.ref kaq), (.ref b242), (.ref b242)]) (lenOf pd__Ljava_lang_String_Ljava_lang_Object_Lcom_example_isogloss_isogloss_util_PersistentMap_Node_Lcom_example_isogloss_isogloss_util_PersistentMap_Node__V rfl) rfl (by show 2 * 0 + _ ≤ _; exact Nat.le_of_eq rfl) (hb hby d26_180) (fun _ _ => ⟨rfl, e251, (by decide : 2 + 0 ≤ _), (by decide : 10 + 0 ≤ _)⟩)
          dsimp only [Pt.U, Pt.locs, Pt.cells, Pt.slots] at X254 l254 y254 zz254 st254 hQ254
          subst y254 zz254
          obtain ⟨rfl, N254q, Kc254, r0_254, r1_254, r2_254, r3_254, r4_254, r5_254⟩ := hQ254
          have N254 : Fr n0 L254 := Eq.mpr (congrArg (Fr n0) l254) (Fr.app N142 N254q)
          have O255 : Old Z n0 T254.heap := O249.keep Kc254 (allS ge_b248 all0)
          have K255 : Keep h0 T254.heap [] := K249.trans Kc254 (allS (Or.inr sz_b248) all0)
          refine Gl.tr (B := (T254.setTop (mkF m 183 #[.val (.ref a1), .val (.ref a2), .val vl, .val (.ref aq), .unset] [(.ref b248), (.ref vaq), (.ref kaq), (.ref b242), (.ref b242)]))) st254 ?_
          refine Gl.step (B := (T254.setTop (mkF m 184 #[.val (.ref a1), .val (.ref a2), .val vl, .val (.ref aq), .unset] [(.ref aq), (.ref b248), (.ref vaq), (.ref kaq), (.ref b242), (.ref b242)]))) (fun t k => XS.aloadN X254.here hx rfl (hb hby d26_183) rfl rfl k) ?_
          have f256 := (Nq.2.2.2.2.1.ext (own_ke K255))
          obtain ⟨T257, X257, e257, st257⟩ := own_getFR X254 hx hZ hown (t122 hw) rfl f256 (g := (mkF m 184 #[.val (.ref a1), .val (.ref a2), .val vl, .val (.ref aq), .unset] [(.ref aq), (.ref b248), (.ref vaq), (.ref kaq), (.ref b242), (.ref b242)])) rfl rfl (hb hby d26_184)
          refine Gl.step (B := (T257.setTop (mkF m 187 #[.val (.ref a1), .val (.ref a2), .val vl, .val (.ref aq), .unset] [vrq, (.ref b248), (.ref vaq), (.ref kaq), (.ref b242), (.ref b242)]))) st257 ?_
          have f258 := ((A242.ext E248).keep Kc254)
          have f259 := ((F242_key.ext E248).keep Kc254 (ninS (Nat.ne_of_lt (Nat.lt_of_lt_of_le A242.lt (Nat.le_of_eq g248.symm))) nin0))
          have f260 := ((F242_value.ext E248).keep Kc254 (ninS (Nat.ne_of_lt (Nat.lt_of_lt_of_le A242.lt (Nat.le_of_eq g248.symm))) nin0))
          have f261 := ((F242_left.ext E248).keep Kc254 (ninS (Nat.ne_of_lt (Nat.lt_of_lt_of_le A242.lt (Nat.le_of_eq g248.symm))) nin0))
          have f262 := ((F242_right.ext E248).keep Kc254 (ninS (Nat.ne_of_lt (Nat.lt_of_lt_of_le A242.lt (Nat.le_of_eq g248.symm))) nin0))
          have f263 := ((F242_height.ext E248).keep Kc254 (ninS (Nat.ne_of_lt (Nat.lt_of_lt_of_le A242.lt (Nat.le_of_eq g248.symm))) nin0))
          have f264 := (TRq.ht.ext (own_ke K255))
          obtain ⟨_, _, ⟨T265, L265, c265, z265⟩, -, X265, ⟨Lc265, hQ265, l265, y265, zz265⟩, st265⟩ := own_specialRef X257 hx hZ (y := y4) rfl hown (t74 hw) (t76 hw) (mvT hZ (t75 hw)) (mvT hZ (t76 hw)) (by decide) (backOf (W := 1) (rnV l Z a0 hw [] b242 kaq vaq (.ref b248) vrq (max nl nlq + 1) nrq T254.heap n0 O255 f258 f259 f260 f261 f262 f263 ge_b242 (Or.inr ⟨b248, rfl, r5_254⟩) f264 (fun q => (Ne.symm (Nat.ne_of_lt (Nat.lt_of_lt_of_le A242.lt (Nat.le_of_eq g248.symm)))) (Value.ref.inj q)) (TRq.ht.nf sz_b242) ((by omega))) hZ (t76 hw) (t73 hw) (by decide) (by decide)) (g := (mkF m 187 #[.val (.ref a1), .val (.ref a2), .val vl, .val (.ref aq), .unset] [vrq, (.ref b248), (.ref vaq), (.ref kaq), (.ref b242), (.ref b242)])) rfl (by rw [hml]; rfl) (a := b242) (argsL := [(.ref kaq), (.ref vaq), (.ref b248), vrq]) (rest := [(.ref b242)]) (lenOf pd__Ljava_lang_String_Ljava_lang_Object_Lcom_example_isogloss_isogloss_util_PersistentMap_Node_Lcom_example_isogloss_isogloss_util_PersistentMap_Node__V rfl) rfl (by show 2 * 0 + _ ≤ _; exact Nat.le_of_eq rfl) (hb hby d26_187) (fun _ _ => ⟨rfl, e257, (by decide : 2 + 0 ≤ _), (by decide : 10 + 0 ≤ _)⟩)
          dsimp only [Pt.U, Pt.locs, Pt.cells, Pt.slots] at X265 l265 y265 zz265 st265 hQ265
          subst y265 zz265
          obtain ⟨rfl, N265q, Kc265, r0_265, r1_265, r2_265, r3_265, r4_265, r5_265⟩ := hQ265
          have N265 : Fr n0 L265 := Eq.mpr (congrArg (Fr n0) l265) (Fr.app N254 N265q)
          have O266 : Old Z n0 T265.heap := O255.keep Kc265 (allS ge_b242 all0)
          have K266 : Keep h0 T265.heap [] := K255.trans Kc265 (allS (Or.inr sz_b242) all0)
          refine Gl.tr (B := (T265.setTop (mkF m 190 #[.val (.ref a1), .val (.ref a2), .val vl, .val (.ref aq), .unset] [(.ref b242)]))) st265 ?_
          have f267 := (r0_254.keep Kc265)
          have f268 := (r1_254.keep Kc265 (ninS (Ne.symm (Nat.ne_of_lt (Nat.lt_of_lt_of_le A242.lt (Nat.le_of_eq g248.symm)))) nin0))
          have f269 := (r2_254.keep Kc265 (ninS (Ne.symm (Nat.ne_of_lt (Nat.lt_of_lt_of_le A242.lt (Nat.le_of_eq g248.symm)))) nin0))
          have f270 := (r3_254.keep Kc265 (ninS (Ne.symm (Nat.ne_of_lt (Nat.lt_of_lt_of_le A242.lt (Nat.le_of_eq g248.symm)))) nin0))
          have f271 := (r4_254.keep Kc265 (ninS (Ne.symm (Nat.ne_of_lt (Nat.lt_of_lt_of_le A242.lt (Nat.le_of_eq g248.symm)))) nin0))
          have f272 := (r5_254.keep Kc265 (ninS (Ne.symm (Nat.ne_of_lt (Nat.lt_of_lt_of_le A242.lt (Nat.le_of_eq g248.symm)))) nin0))
          obtain ⟨fs, hr, hrun, hended, hW, hsame⟩ := X265.leave (v := some (.ref b242)) (fun h => by rw [Bd.returns] at h; cases h)
          refine ⟨_, _, ?_, hrun, hended, _, _, rfl, ?_, ⟨_, rfl⟩, hW, hsame.mono (by decide) (by decide)⟩
          · show Steps p.tables e below (T265.setTop (mkF m 190 #[.val (.ref a1), .val (.ref a2), .val vl, .val (.ref aq), .unset] [(.ref b242)])) _
            jvm_step X265.here [X265.here.top, hx, (hb hby d26_190), X265.method', Bd.returns, Value.isRef, FieldType.isReference]
            first | (intro acts; rw [hr _ acts rfl rfl rfl]) | rw [hr _ _ rfl rfl rfl]
            exact Steps.refl _
          · show Q_rbal Z a1 a2 vl (.ref aq) (gq + 1) nl nr x PL PR h0 n0 _ T265.heap _
            exact ⟨b242, rfl, N265, K266, sz_b242, own_RR ⟨f267, f268, f269, f270, f271, f272⟩ ⟨r0_265, r1_265, r2_265, r3_265, r4_265, r5_265⟩ (g_Str_a1.ext (own_ke K266)) hkx (Sq.ext (own_ke K266)) hxq (g_Tree_vl.ext (own_ke K266)) (TLq.ext (own_ke K266)) (TRq.ext (own_ke K266)) hnq b1q b2q hR hbd.2 hC p1q p2q hPq o1 o2⟩
      · skip
        have cr : ¬ (Int32.ofNat (nl + 1) < Int32.ofNat nr) := fun z => hR ((own_olt (by omega) (by omega)).mp z)
        refine Gl.step (B := (T138.setTop (mkF m 254 #[.val (.ref a1), .val (.ref a2), .val vl, .val vr, .unset] []))) (fun t k => XS.icmpYes X138.here hx rfl (pc0 := 137) (pc' := 254) rfl (hb hby d26_137) rfl (flt (cr : ¬ ((Int32.ofNat (nl + 1)) < (Int32.ofNat nr)))).2.2.2 (by decide) (by decide) k) ?_
        obtain ⟨T273, h273, X273, e273, E273, A273, D273, -, st273⟩ := newO X138 hx hZ hown (t71 hw) (t72 hw) (t73 hw) eh138 (g := (mkF m 254 #[.val (.ref a1), .val (.ref a2), .val vl, .val vr, .unset] [])) rfl (hb hby d26_254) (by decide) (by decide)
        obtain ⟨b273, g273⟩ : ∃ z, z = h0.size := ⟨_, rfl⟩
        rw [← g273] at A273 D273 st273
        have ge_b273 : n0 ≤ b273 := Nat.le_trans (own_oz O0) (Nat.le_of_eq g273.symm)
        have sz_b273 : h0.size ≤ b273 := Nat.le_trans K0.1 (Nat.le_of_eq g273.symm)
        have O274 : Old Z n0 h273 := O0.ext E273
        have K274 : Keep h0 h273 [] := K0.ext E273
        have F273_key : Fld Z h273 b273 own_ND "key" "Ljava/lang/String;" .null := D273 (Or.inr (t79 hw)) (ty := (.object "java/lang/String")) (by decide)
        have F273_value : Fld Z h273 b273 own_ND "value" "Ljava/lang/Object;" .null := D273 (Or.inr (t81 hw)) (ty := (.object "java/lang/Object")) (by decide)
        have F273_left : Fld Z h273 b273 own_ND "left" own_LN .null := D273 (Or.inr (t83 hw)) (ty := (.object "com/example/isogloss/isogloss/util/PersistentMap$Node")) (by decide)
        have F273_right : Fld Z h273 b273 own_ND "right" own_LN .null := D273 (Or.inr (t85 hw)) (ty := (.object "com/example/isogloss/isogloss/util/PersistentMap$Node")) (by decide)
        have F273_height : Fld Z h273 b273 own_ND "height" "I" (.int (0 : Int32)) := D273 (Or.inr (t94 hw)) (ty := .int) (by decide)
        refine Gl.step (B := (T273.setTop (mkF m 257 #[.val (.ref a1), .val (.ref a2), .val vl, .val vr, .unset] [(.ref b273)]))) st273 ?_
        refine Gl.step (B := (T273.setTop (mkF m 262 #[.val (.ref a1), .val (.ref a2), .val vl, .val vr, .unset] [vr, vl, (.ref a2), (.ref a1), (.ref b273), (.ref b273)]))) (fun t k => XS.dup X273.here hx rfl (hb hby d26_257) rfl rfl (XS.aloadN X273.here hx rfl (hb hby d26_258) rfl rfl (XS.aloadN X273.here hx rfl (hb hby d26_259) rfl rfl (XS.aloadN X273.here hx rfl (hb hby d26_260) rfl g_Tree_vl.isRef (XS.aloadN X273.here hx rfl (hb hby d26_261) rfl g_Tree_vr.isRef k))))) ?_
        have f275 := (g_Tree_vl.ht.ext (own_ke K274))
        have f276 := (g_Tree_vr.ht.ext (own_ke K274))
        obtain ⟨_, _, ⟨T277, L277, c277, z277⟩, -, X277, ⟨Lc277, hQ277, l277, y277, zz277⟩, st277⟩ := own_specialRef X273 hx hZ (y := y4) rfl hown (t74 hw) (t76 hw) (mvT hZ (t75 hw)) (mvT hZ (t76 hw)) (by decide) (backOf (W := 1) (rnV l Z a0 hw [] b273 a1 a2 vl vr nl nr h273 n0 O274 A273 F273_key F273_value F273_left F273_right F273_height ge_b273 f275 f276 (g_Tree_vl.ht.nf sz_b273) (g_Tree_vr.ht.nf sz_b273) ((by omega))) hZ (t76 hw) (t73 hw) (by decide) (by decide)) (g := (mkF m 262 #[.val (.ref a1), .val (.ref a2), .val vl, .val vr, .unset] [vr, vl, (.ref a2), (.ref a1), (.ref b273), (.ref b273)])) rfl (by rw [hml]; rfl) (a := b273) (argsL := [(.ref a1), (.ref a2), vl, vr]) (rest := [(.ref b273)]) (lenOf pd__Ljava_lang_String_Ljava_lang_Object_Lcom_example_isogloss_isogloss_util_PersistentMap_Node_Lcom_example_isogloss_isogloss_util_PersistentMap_Node__V rfl) rfl (by show 2 * 0 + _ ≤ _; exact Nat.le_of_eq rfl) (hb hby d26_262) (fun _ _ => ⟨rfl, e273, (by decide : 1 + 0 ≤ _), (by decide : 5 + 0 ≤ _)⟩)
        dsimp only [Pt.U, Pt.locs, Pt.cells, Pt.slots] at X277 l277 y277 zz277 st277 hQ277
        subst y277 zz277
        obtain ⟨rfl, N277q, Kc277, r0_277, r1_277, r2_277, r3_277, r4_277, r5_277⟩ := hQ277
        have N277 : Fr n0 L277 := Eq.mpr (congrArg (Fr n0) l277) (Fr.app N138 N277q)
        have O278 : Old Z n0 T277.heap := O274.keep Kc277 (allS ge_b273 all0)
        have K278 : Keep h0 T277.heap [] := K274.trans Kc277 (allS (Or.inr sz_b273) all0)
        refine Gl.tr (B := (T277.setTop (mkF m 265 #[.val (.ref a1), .val (.ref a2), .val vl, .val vr, .unset] [(.ref b273)]))) st277 ?_
        obtain ⟨fs, hr, hrun, hended, hW, hsame⟩ := X277.leave (v := some (.ref b273)) (fun h => by rw [Bd.returns] at h; cases h)
        refine ⟨_, _, ?_, hrun, hended, _, _, rfl, ?_, ⟨_, rfl⟩, hW, hsame.mono (by decide) (by decide)⟩
        · show Steps p.tables e below (T277.setTop (mkF m 265 #[.val (.ref a1), .val (.ref a2), .val vl, .val vr, .unset] [(.ref b273)])) _
          jvm_step X277.here [X277.here.top, hx, (hb hby d26_265), X277.method', Bd.returns, Value.isRef, FieldType.isReference]
          first | (intro acts; rw [hr _ acts rfl rfl rfl]) | rw [hr _ _ rfl rfl rfl]
          exact Steps.refl _
        · show Q_rbal Z a1 a2 vl vr f nl nr x PL PR h0 n0 _ T277.heap _
          exact ⟨b273, rfl, N277, K278, sz_b273, own_bal0 ⟨r0_277, r1_277, r2_277, r3_277, r4_277, r5_277⟩ (g_Str_a1.ext (own_ke K278)) hkx (g_Tree_vl.ext (own_ke K278)) (g_Tree_vr.ext (own_ke K278)) hL hR o1 o2⟩
  obtain ⟨s₂, o, g1, g2, g3, g4⟩ := go
  exact ⟨s₂, o, castTop (ef_rbal m a1 a2 vl vr g_Tree_vl.isRef g_Tree_vr.isRef) g1, g2, g3, g4⟩
theorem ef_rput0 (m : MethodId) (x0 : Value) (x1 : Addr) (x2 : Addr) (hx0 : x0.isRef = true) : entryFrame m #[x0, (.ref x1), (.ref x2)] 4 = mkF m 0 #[.val x0, .val (.ref x1), .val (.ref x2), .unset] [] := by rcases ref_cases hx0 with rfl | ⟨_, rfl⟩ <;> first | (simp [entryFrame, mkF, argsToLocals, Value.category]; done) | rfl
abbrev y16 : MethodName := ⟨"com/example/isogloss/isogloss/util/PersistentMap", "put", "(Lcom/example/isogloss/isogloss/util/PersistentMap$Node;Ljava/lang/String;Ljava/lang/Object;)Lcom/example/isogloss/isogloss/util/PersistentMap$Node;"⟩
theorem d13_0 : decode prog_164_method_11_code 0 = .ok (.aload_n 0, 1) := by decide +kernel
theorem d13_1 : decode prog_164_method_11_code 1 = .ok (.ifnonnull 15, 3) := by decide +kernel
theorem d13_4 : decode prog_164_method_11_code 4 = .ok (.new 25, 3) := by decide +kernel
theorem d13_7 : decode prog_164_method_11_code 7 = .ok (.dup, 1) := by decide +kernel
theorem d13_8 : decode prog_164_method_11_code 8 = .ok (.aload_n 1, 1) := by decide +kernel
theorem d13_9 : decode prog_164_method_11_code 9 = .ok (.aload_n 2, 1) := by decide +kernel
theorem d13_10 : decode prog_164_method_11_code 10 = .ok (.aconst_null, 1) := by decide +kernel
theorem d13_11 : decode prog_164_method_11_code 11 = .ok (.aconst_null, 1) := by decide +kernel
theorem d13_12 : decode prog_164_method_11_code 12 = .ok (.invokespecial 119, 3) := by decide +kernel
theorem d13_15 : decode prog_164_method_11_code 15 = .ok (.areturn, 1) := by decide +kernel
def Q_rput0 (Z : State) (u : Value) (a1 : Addr) (a2 : Addr) (n : Nat) (x : Int32) (P : Int32 → Prop) (zc : Int32) (h0 : Heap) (n0 : Nat) (v : Option Value) (h : Heap) (L : List Loc) : Prop := ∃ b : Addr, v = some (.ref b) ∧ Fr n0 L ∧ Keep h0 h [] ∧ (h0.size ≤ b) ∧ (PutP Z h 0 n b x P)
set_option maxRecDepth 65536 in
set_option maxHeartbeats 40000000 in
theorem rput0 (l : Launch) (Z : State) (a0 : Array Value) (hw : ∀ d ∈ tables_1, d.before a0 Z = true) (ws : List Jvm.Cond) (u : Value) (a1 : Addr) (a2 : Addr) (n : Nat) (x : Int32) (P : Int32 → Prop) (zc : Int32) (h0 : Heap) (n0 : Nat) (O0 : Old Z n0 h0) (pm0 : Sta Z Z.heap "java/lang/String" "COMPACT_STRINGS" "Z" (.int zc)) (hz : ¬ (zc = (0 : Int32))) (g_Str_a1 : Str Z h0 a1 x) (hkx : Ky x) (g_Tree_u : Tree Z h0 0 n u P) :
    MetFree l y16 (head1 (Jvm.Cond.code y16 prog_164_method_11_code 4 (some (.object "com/example/isogloss/isogloss/util/PersistentMap$Node")) :: ws) ({ frames := 2, cells := 1, slots := 5, locals := 32 } : Room)) (fun a U => a = #[u, (.ref a1), (.ref a2)] ∧ Z.Warmed39 U.vm ∧ U.heap = h0) (fun _ _ _ _ _ => True) (fun _ U o U' => ∃ v L, o = .returned v ∧ Q_rput0 Z u a1 a2 n x P zc h0 n0 v U'.heap L ∧ FrameEnd U o U' L ({ frames := 2, cells := 1, slots := 5, locals := 32 } : Room).cells ({ frames := 2, cells := 1, slots := 5, locals := 32 } : Room).slots) := by
  refine MetFree.of_bodySF (plainFor_of_name pn_com_example_isogloss_isogloss_util_PersistentMap) hisR ?_
  intro p e s m args below meth c s₁ Bd hml0 hP hK
  obtain ⟨rfl, hZ, hh⟩ := hP
  have hx := Bd.exec
  have hby := Bd.bytes
  have hml : c.maxLocals = 4 := hml0
  have hown : s.vm.findClass own_PM = some m.cls := findClass_of_methodNamed Bd.named
  have hnm := (name_of_methodNamed Bd.named Bd.method).1
  have X0 : Stand p l e ({ frames := 2, cells := 1, slots := 5, locals := 32 } : Room) s m #[u, (.ref a1), (.ref a2)] below meth c s₁ [] 0 0 := Stand.of_body Bd
  have e0 : s₁.heap = h0 := by rw [← hh, Bd.state]; rfl
  have N0 := Fr.nil n0
  have K0 : Keep h0 h0 [] := Keep.refl h0 _
  have go : Gl p.tables e below (fun o U' => ∃ v L, o = .returned v ∧ Q_rput0 Z u a1 a2 n x P zc h0 n0 v U'.heap L ∧ FrameEnd s o U' L ({ frames := 2, cells := 1, slots := 5, locals := 32 } : Room).cells ({ frames := 2, cells := 1, slots := 5, locals := 32 } : Room).slots) (s₁.setTop (mkF m 0 #[.val u, .val (.ref a1), .val (.ref a2), .unset] [])) := by
    obtain ⟨hn0, hu0, hP0⟩ := (g_Tree_u : n = 0 ∧ u = .null ∧ ∀ k, ¬ P k)
    subst hu0
    subst hn0
    refine Gl.step (B := (s₁.setTop (mkF m 4 #[.val .null, .val (.ref a1), .val (.ref a2), .unset] []))) (fun t k => XS.aloadN X0.here hx rfl (hb hby d13_0) rfl rfl (XS.ifnonnullNo X0.here hx rfl (hb hby d13_1) rfl k)) ?_
    obtain ⟨T1, h1, X1, e1, E1, A1, D1, -, st1⟩ := newO X0 hx hZ hown (t71 hw) (t72 hw) (t73 hw) e0 (g := (mkF m 4 #[.val .null, .val (.ref a1), .val (.ref a2), .unset] [])) rfl (hb hby d13_4) (by decide) (by decide)
    obtain ⟨b1, g1⟩ : ∃ z, z = h0.size := ⟨_, rfl⟩
    rw [← g1] at A1 D1 st1
    have ge_b1 : n0 ≤ b1 := Nat.le_trans (own_oz O0) (Nat.le_of_eq g1.symm)
    have sz_b1 : h0.size ≤ b1 := Nat.le_trans K0.1 (Nat.le_of_eq g1.symm)
    have O2 : Old Z n0 h1 := O0.ext E1
    have K2 : Keep h0 h1 [] := K0.ext E1
    have F1_key : Fld Z h1 b1 own_ND "key" "Ljava/lang/String;" .null := D1 (Or.inr (t79 hw)) (ty := (.object "java/lang/String")) (by decide)
    have F1_value : Fld Z h1 b1 own_ND "value" "Ljava/lang/Object;" .null := D1 (Or.inr (t81 hw)) (ty := (.object "java/lang/Object")) (by decide)
    have F1_left : Fld Z h1 b1 own_ND "left" own_LN .null := D1 (Or.inr (t83 hw)) (ty := (.object "com/example/isogloss/isogloss/util/PersistentMap$Node")) (by decide)
    have F1_right : Fld Z h1 b1 own_ND "right" own_LN .null := D1 (Or.inr (t85 hw)) (ty := (.object "com/example/isogloss/isogloss/util/PersistentMap$Node")) (by decide)
    have F1_height : Fld Z h1 b1 own_ND "height" "I" (.int (0 : Int32)) := D1 (Or.inr (t94 hw)) (ty := .int) (by decide)
    refine Gl.step (B := (T1.setTop (mkF m 7 #[.val .null, .val (.ref a1), .val (.ref a2), .unset] [(.ref b1)]))) st1 ?_
    refine Gl.step (B := (T1.setTop (mkF m 12 #[.val .null, .val (.ref a1), .val (.ref a2), .unset] [.null, .null, (.ref a2), (.ref a1), (.ref b1), (.ref b1)]))) (fun t k => XS.dup X1.here hx rfl (hb hby d13_7) rfl rfl (XS.aloadN X1.here hx rfl (hb hby d13_8) rfl rfl (XS.aloadN X1.here hx rfl (hb hby d13_9) rfl rfl (XS.aconstNull X1.here hx rfl (hb hby d13_10) (XS.aconstNull X1.here hx rfl (hb hby d13_11) k))))) ?_
    obtain ⟨_, _, ⟨T3, L3, c3, z3⟩, -, X3, ⟨Lc3, hQ3, l3, y3, zz3⟩, st3⟩ := own_specialRef X1 hx hZ (y := y4) rfl hown (t74 hw) (t76 hw) (mvT hZ (t75 hw)) (mvT hZ (t76 hw)) (by decide) (backOf (W := 1) (rnV l Z a0 hw [] b1 a1 a2 .null .null 0 0 h1 n0 O2 A1 F1_key F1_value F1_left F1_right F1_height ge_b1 (Or.inl ⟨rfl, rfl⟩) (Or.inl ⟨rfl, rfl⟩) (fun q => nomatch q) (fun q => nomatch q) ((by decide))) hZ (t76 hw) (t73 hw) (by decide) (by decide)) (g := (mkF m 12 #[.val .null, .val (.ref a1), .val (.ref a2), .unset] [.null, .null, (.ref a2), (.ref a1), (.ref b1), (.ref b1)])) rfl (by rw [hml]; rfl) (a := b1) (argsL := [(.ref a1), (.ref a2), .null, .null]) (rest := [(.ref b1)]) (lenOf pd__Ljava_lang_String_Ljava_lang_Object_Lcom_example_isogloss_isogloss_util_PersistentMap_Node_Lcom_example_isogloss_isogloss_util_PersistentMap_Node__V rfl) rfl (by show 2 * 0 + _ ≤ _; exact Nat.le_of_eq rfl) (hb hby d13_12) (fun _ _ => ⟨rfl, e1, (by decide : 1 + 0 ≤ _), (by decide : 5 + 0 ≤ _)⟩)
    dsimp only [Pt.U, Pt.locs, Pt.cells, Pt.slots] at X3 l3 y3 zz3 st3 hQ3
    subst y3 zz3
    obtain ⟨rfl, N3q, Kc3, r0_3, r1_3, r2_3, r3_3, r4_3, r5_3⟩ := hQ3
    have N3 : Fr n0 L3 := Eq.mpr (congrArg (Fr n0) l3) (Fr.app N0 N3q)
    have O4 : Old Z n0 T3.heap := O2.keep Kc3 (allS ge_b1 all0)
    have K4 : Keep h0 T3.heap [] := K2.trans Kc3 (allS (Or.inr sz_b1) all0)
    refine Gl.tr (B := (T3.setTop (mkF m 15 #[.val .null, .val (.ref a1), .val (.ref a2), .unset] [(.ref b1)]))) st3 ?_
    obtain ⟨fs, hr, hrun, hended, hW, hsame⟩ := X3.leave (v := some (.ref b1)) (fun h => by rw [Bd.returns] at h; cases h)
    refine ⟨_, _, ?_, hrun, hended, _, _, rfl, ?_, ⟨_, rfl⟩, hW, hsame.mono (by decide) (by decide)⟩
    · show Steps p.tables e below (T3.setTop (mkF m 15 #[.val .null, .val (.ref a1), .val (.ref a2), .unset] [(.ref b1)])) _
      jvm_step X3.here [X3.here.top, hx, (hb hby d13_15), X3.method', Bd.returns, Value.isRef, FieldType.isReference]
      first | (intro acts; rw [hr _ acts rfl rfl rfl]) | rw [hr _ _ rfl rfl rfl]
      exact Steps.refl _
    · show Q_rput0 Z .null a1 a2 0 x P zc h0 n0 _ T3.heap _
      exact ⟨b1, rfl, N3, K4, sz_b1, own_putN ⟨r0_3, r1_3, r2_3, r3_3, r4_3, r5_3⟩ (g_Str_a1.ext (own_ke K4)) hkx hP0⟩
  obtain ⟨s₂, o, g1, g2, g3, g4⟩ := go
  exact ⟨s₂, o, castTop (ef_rput0 m u a1 a2 g_Tree_u.isRef) g1, g2, g3, g4⟩
theorem ef_rput1 (m : MethodId) (x0 : Value) (x1 : Addr) (x2 : Addr) (hx0 : x0.isRef = true) : entryFrame m #[x0, (.ref x1), (.ref x2)] 4 = mkF m 0 #[.val x0, .val (.ref x1), .val (.ref x2), .unset] [] := by rcases ref_cases hx0 with rfl | ⟨_, rfl⟩ <;> first | (simp [entryFrame, mkF, argsToLocals, Value.category]; done) | rfl
theorem d13_16 : decode prog_164_method_11_code 16 = .ok (.aload_n 1, 1) := by decide +kernel
theorem d13_17 : decode prog_164_method_11_code 17 = .ok (.aload_n 0, 1) := by decide +kernel
theorem d13_18 : decode prog_164_method_11_code 18 = .ok (.getfield 24, 3) := by decide +kernel
theorem d13_21 : decode prog_164_method_11_code 21 = .ok (.invokevirtual 30, 3) := by decide +kernel
theorem pd__Ljava_lang_String__I : parseMethodDescriptor "(Ljava/lang/String;)I" = some ⟨[(.object "java/lang/String")], some .int⟩ := by decide +kernel
theorem d13_24 : decode prog_164_method_11_code 24 = .ok (.istore_n 3, 1) := by decide +kernel
theorem d13_25 : decode prog_164_method_11_code 25 = .ok (.iload_n 3, 1) := by decide +kernel
theorem d13_26 : decode prog_164_method_11_code 26 = .ok (.ifCond .ge 28, 3) := by decide +kernel
theorem d13_29 : decode prog_164_method_11_code 29 = .ok (.aload_n 0, 1) := by decide +kernel
theorem d13_30 : decode prog_164_method_11_code 30 = .ok (.getfield 24, 3) := by decide +kernel
theorem d13_33 : decode prog_164_method_11_code 33 = .ok (.aload_n 0, 1) := by decide +kernel
theorem d13_34 : decode prog_164_method_11_code 34 = .ok (.getfield 36, 3) := by decide +kernel
theorem d13_37 : decode prog_164_method_11_code 37 = .ok (.aload_n 0, 1) := by decide +kernel
theorem d13_38 : decode prog_164_method_11_code 38 = .ok (.getfield 40, 3) := by decide +kernel
theorem d13_41 : decode prog_164_method_11_code 41 = .ok (.aload_n 1, 1) := by decide +kernel
theorem d13_42 : decode prog_164_method_11_code 42 = .ok (.aload_n 2, 1) := by decide +kernel
theorem d13_43 : decode prog_164_method_11_code 43 = .ok (.invokestatic 50, 3) := by decide +kernel
theorem pd__Lcom_example_isogloss_isogloss_util_PersistentMap_Node_Ljava_lang_String_Ljava_lang_Object__Lcom_example_isogloss_isogloss_util_PersistentMap_Node_ : parseMethodDescriptor "(Lcom/example/isogloss/isogloss/util/PersistentMap$Node;Ljava/lang/String;Ljava/lang/Object;)Lcom/example/isogloss/isogloss/util/PersistentMap$Node;" = some ⟨[(.object "com/example/isogloss/isogloss/util/PersistentMap$Node"), (.object "java/lang/String"), (.object "java/lang/Object")], some (.object "com/example/isogloss/isogloss/util/PersistentMap$Node")⟩ := by decide +kernel
theorem d13_46 : decode prog_164_method_11_code 46 = .ok (.aload_n 0, 1) := by decide +kernel
theorem d13_47 : decode prog_164_method_11_code 47 = .ok (.getfield 43, 3) := by decide +kernel
theorem d13_50 : decode prog_164_method_11_code 50 = .ok (.invokestatic 122, 3) := by decide +kernel
theorem pd__Ljava_lang_String_Ljava_lang_Object_Lcom_example_isogloss_isogloss_util_PersistentMap_Node_Lcom_example_isogloss_isogloss_util_PersistentMap_Node__Lcom_example_isogloss_isogloss_util_PersistentMap_Node_ : parseMethodDescriptor "(Ljava/lang/String;Ljava/lang/Object;Lcom/example/isogloss/isogloss/util/PersistentMap$Node;Lcom/example/isogloss/isogloss/util/PersistentMap$Node;)Lcom/example/isogloss/isogloss/util/PersistentMap$Node;" = some ⟨[(.object "java/lang/String"), (.object "java/lang/Object"), (.object "com/example/isogloss/isogloss/util/PersistentMap$Node"), (.object "com/example/isogloss/isogloss/util/PersistentMap$Node")], some (.object "com/example/isogloss/isogloss/util/PersistentMap$Node")⟩ := by decide +kernel
theorem d13_53 : decode prog_164_method_11_code 53 = .ok (.areturn, 1) := by decide +kernel
theorem d13_54 : decode prog_164_method_11_code 54 = .ok (.iload_n 3, 1) := by decide +kernel
theorem d13_55 : decode prog_164_method_11_code 55 = .ok (.ifCond .le 28, 3) := by decide +kernel
theorem d13_58 : decode prog_164_method_11_code 58 = .ok (.aload_n 0, 1) := by decide +kernel
theorem d13_59 : decode prog_164_method_11_code 59 = .ok (.getfield 24, 3) := by decide +kernel
theorem d13_62 : decode prog_164_method_11_code 62 = .ok (.aload_n 0, 1) := by decide +kernel
theorem d13_63 : decode prog_164_method_11_code 63 = .ok (.getfield 36, 3) := by decide +kernel
theorem d13_66 : decode prog_164_method_11_code 66 = .ok (.aload_n 0, 1) := by decide +kernel
theorem d13_67 : decode prog_164_method_11_code 67 = .ok (.getfield 40, 3) := by decide +kernel
theorem d13_70 : decode prog_164_method_11_code 70 = .ok (.aload_n 0, 1) := by decide +kernel
theorem d13_71 : decode prog_164_method_11_code 71 = .ok (.getfield 43, 3) := by decide +kernel
theorem d13_74 : decode prog_164_method_11_code 74 = .ok (.aload_n 1, 1) := by decide +kernel
theorem d13_75 : decode prog_164_method_11_code 75 = .ok (.aload_n 2, 1) := by decide +kernel
theorem d13_76 : decode prog_164_method_11_code 76 = .ok (.invokestatic 50, 3) := by decide +kernel
theorem d13_79 : decode prog_164_method_11_code 79 = .ok (.invokestatic 122, 3) := by decide +kernel
theorem d13_82 : decode prog_164_method_11_code 82 = .ok (.areturn, 1) := by decide +kernel
theorem d13_83 : decode prog_164_method_11_code 83 = .ok (.new 25, 3) := by decide +kernel
theorem d13_86 : decode prog_164_method_11_code 86 = .ok (.dup, 1) := by decide +kernel
theorem d13_87 : decode prog_164_method_11_code 87 = .ok (.aload_n 1, 1) := by decide +kernel
theorem d13_88 : decode prog_164_method_11_code 88 = .ok (.aload_n 2, 1) := by decide +kernel
theorem d13_89 : decode prog_164_method_11_code 89 = .ok (.aload_n 0, 1) := by decide +kernel
theorem d13_90 : decode prog_164_method_11_code 90 = .ok (.getfield 40, 3) := by decide +kernel
theorem d13_93 : decode prog_164_method_11_code 93 = .ok (.aload_n 0, 1) := by decide +kernel
theorem d13_94 : decode prog_164_method_11_code 94 = .ok (.getfield 43, 3) := by decide +kernel
theorem d13_97 : decode prog_164_method_11_code 97 = .ok (.invokespecial 119, 3) := by decide +kernel
theorem d13_100 : decode prog_164_method_11_code 100 = .ok (.areturn, 1) := by decide +kernel
def Q_rput1 (Z : State) (u : Value) (a1 : Addr) (a2 : Addr) (n : Nat) (x : Int32) (P : Int32 → Prop) (zc : Int32) (h0 : Heap) (n0 : Nat) (v : Option Value) (h : Heap) (L : List Loc) : Prop := ∃ b : Addr, v = some (.ref b) ∧ Fr n0 L ∧ Keep h0 h [] ∧ (h0.size ≤ b) ∧ (PutP Z h 1 n b x P)
set_option maxRecDepth 65536 in
set_option maxHeartbeats 40000000 in
theorem rput1 (l : Launch) (Z : State) (a0 : Array Value) (hw : ∀ d ∈ tables_1, d.before a0 Z = true) (ws : List Jvm.Cond) (u : Value) (a1 : Addr) (a2 : Addr) (n : Nat) (x : Int32) (P : Int32 → Prop) (zc : Int32) (h0 : Heap) (n0 : Nat) (O0 : Old Z n0 h0) (pm0 : Sta Z Z.heap "java/lang/String" "COMPACT_STRINGS" "Z" (.int zc)) (hz : ¬ (zc = (0 : Int32))) (g_Str_a1 : Str Z h0 a1 x) (hkx : Ky x) (g_Tree_u : Tree Z h0 1 n u P) :
    MetFree l y16 (head1 (Jvm.Cond.code y16 prog_164_method_11_code 4 (some (.object "com/example/isogloss/isogloss/util/PersistentMap$Node")) :: ws) ({ frames := 4, cells := 4, slots := 20, locals := 63 } : Room)) (fun a U => a = #[u, (.ref a1), (.ref a2)] ∧ Z.Warmed39 U.vm ∧ U.heap = h0) (fun _ _ _ _ _ => True) (fun _ U o U' => ∃ v L, o = .returned v ∧ Q_rput1 Z u a1 a2 n x P zc h0 n0 v U'.heap L ∧ FrameEnd U o U' L ({ frames := 4, cells := 4, slots := 20, locals := 63 } : Room).cells ({ frames := 4, cells := 4, slots := 20, locals := 63 } : Room).slots) := by
  refine MetFree.of_bodySF (plainFor_of_name pn_com_example_isogloss_isogloss_util_PersistentMap) hisR ?_
  intro p e s m args below meth c s₁ Bd hml0 hP hK
  obtain ⟨rfl, hZ, hh⟩ := hP
  have hx := Bd.exec
  have hby := Bd.bytes
  have hml : c.maxLocals = 4 := hml0
  have hown : s.vm.findClass own_PM = some m.cls := findClass_of_methodNamed Bd.named
  have hnm := (name_of_methodNamed Bd.named Bd.method).1
  have X0 : Stand p l e ({ frames := 4, cells := 4, slots := 20, locals := 63 } : Room) s m #[u, (.ref a1), (.ref a2)] below meth c s₁ [] 0 0 := Stand.of_body Bd
  have e0 : s₁.heap = h0 := by rw [← hh, Bd.state]; rfl
  have N0 := Fr.nil n0
  have K0 : Keep h0 h0 [] := Keep.refl h0 _
  have go : Gl p.tables e below (fun o U' => ∃ v L, o = .returned v ∧ Q_rput1 Z u a1 a2 n x P zc h0 n0 v U'.heap L ∧ FrameEnd s o U' L ({ frames := 4, cells := 4, slots := 20, locals := 63 } : Room).cells ({ frames := 4, cells := 4, slots := 20, locals := 63 } : Room).slots) (s₁.setTop (mkF m 0 #[.val u, .val (.ref a1), .val (.ref a2), .unset] [])) := by
    by_cases hn0 : n = 0
    · skip
      obtain ⟨hu0, hP0⟩ := own_zero g_Tree_u hn0
      subst hu0
      subst hn0
      refine Gl.step (B := (s₁.setTop (mkF m 4 #[.val .null, .val (.ref a1), .val (.ref a2), .unset] []))) (fun t k => XS.aloadN X0.here hx rfl (hb hby d13_0) rfl rfl (XS.ifnonnullNo X0.here hx rfl (hb hby d13_1) rfl k)) ?_
      obtain ⟨T1, h1, X1, e1, E1, A1, D1, -, st1⟩ := newO X0 hx hZ hown (t71 hw) (t72 hw) (t73 hw) e0 (g := (mkF m 4 #[.val .null, .val (.ref a1), .val (.ref a2), .unset] [])) rfl (hb hby d13_4) (by decide) (by decide)
      obtain ⟨b1, g1⟩ : ∃ z, z = h0.size := ⟨_, rfl⟩
      rw [← g1] at A1 D1 st1
      have ge_b1 : n0 ≤ b1 := Nat.le_trans (own_oz O0) (Nat.le_of_eq g1.symm)
      have sz_b1 : h0.size ≤ b1 := Nat.le_trans K0.1 (Nat.le_of_eq g1.symm)
      have O2 : Old Z n0 h1 := O0.ext E1
      have K2 : Keep h0 h1 [] := K0.ext E1
      have F1_key : Fld Z h1 b1 own_ND "key" "Ljava/lang/String;" .null := D1 (Or.inr (t79 hw)) (ty := (.object "java/lang/String")) (by decide)
      have F1_value : Fld Z h1 b1 own_ND "value" "Ljava/lang/Object;" .null := D1 (Or.inr (t81 hw)) (ty := (.object "java/lang/Object")) (by decide)
      have F1_left : Fld Z h1 b1 own_ND "left" own_LN .null := D1 (Or.inr (t83 hw)) (ty := (.object "com/example/isogloss/isogloss/util/PersistentMap$Node")) (by decide)
      have F1_right : Fld Z h1 b1 own_ND "right" own_LN .null := D1 (Or.inr (t85 hw)) (ty := (.object "com/example/isogloss/isogloss/util/PersistentMap$Node")) (by decide)
      have F1_height : Fld Z h1 b1 own_ND "height" "I" (.int (0 : Int32)) := D1 (Or.inr (t94 hw)) (ty := .int) (by decide)
      refine Gl.step (B := (T1.setTop (mkF m 7 #[.val .null, .val (.ref a1), .val (.ref a2), .unset] [(.ref b1)]))) st1 ?_
      refine Gl.step (B := (T1.setTop (mkF m 12 #[.val .null, .val (.ref a1), .val (.ref a2), .unset] [.null, .null, (.ref a2), (.ref a1), (.ref b1), (.ref b1)]))) (fun t k => XS.dup X1.here hx rfl (hb hby d13_7) rfl rfl (XS.aloadN X1.here hx rfl (hb hby d13_8) rfl rfl (XS.aloadN X1.here hx rfl (hb hby d13_9) rfl rfl (XS.aconstNull X1.here hx rfl (hb hby d13_10) (XS.aconstNull X1.here hx rfl (hb hby d13_11) k))))) ?_
      obtain ⟨_, _, ⟨T3, L3, c3, z3⟩, -, X3, ⟨Lc3, hQ3, l3, y3, zz3⟩, st3⟩ := own_specialRef X1 hx hZ (y := y4) rfl hown (t74 hw) (t76 hw) (mvT hZ (t75 hw)) (mvT hZ (t76 hw)) (by decide) (backOf (W := 1) (rnV l Z a0 hw [] b1 a1 a2 .null .null 0 0 h1 n0 O2 A1 F1_key F1_value F1_left F1_right F1_height ge_b1 (Or.inl ⟨rfl, rfl⟩) (Or.inl ⟨rfl, rfl⟩) (fun q => nomatch q) (fun q => nomatch q) ((by decide))) hZ (t76 hw) (t73 hw) (by decide) (by decide)) (g := (mkF m 12 #[.val .null, .val (.ref a1), .val (.ref a2), .unset] [.null, .null, (.ref a2), (.ref a1), (.ref b1), (.ref b1)])) rfl (by rw [hml]; rfl) (a := b1) (argsL := [(.ref a1), (.ref a2), .null, .null]) (rest := [(.ref b1)]) (lenOf pd__Ljava_lang_String_Ljava_lang_Object_Lcom_example_isogloss_isogloss_util_PersistentMap_Node_Lcom_example_isogloss_isogloss_util_PersistentMap_Node__V rfl) rfl (by show 2 * 0 + _ ≤ _; exact Nat.le_of_eq rfl) (hb hby d13_12) (fun _ _ => ⟨rfl, e1, (by decide : 1 + 0 ≤ _), (by decide : 5 + 0 ≤ _)⟩)
      dsimp only [Pt.U, Pt.locs, Pt.cells, Pt.slots] at X3 l3 y3 zz3 st3 hQ3
      subst y3 zz3
      obtain ⟨rfl, N3q, Kc3, r0_3, r1_3, r2_3, r3_3, r4_3, r5_3⟩ := hQ3
      have N3 : Fr n0 L3 := Eq.mpr (congrArg (Fr n0) l3) (Fr.app N0 N3q)
      have O4 : Old Z n0 T3.heap := O2.keep Kc3 (allS ge_b1 all0)
      have K4 : Keep h0 T3.heap [] := K2.trans Kc3 (allS (Or.inr sz_b1) all0)
      refine Gl.tr (B := (T3.setTop (mkF m 15 #[.val .null, .val (.ref a1), .val (.ref a2), .unset] [(.ref b1)]))) st3 ?_
      obtain ⟨fs, hr, hrun, hended, hW, hsame⟩ := X3.leave (v := some (.ref b1)) (fun h => by rw [Bd.returns] at h; cases h)
      refine ⟨_, _, ?_, hrun, hended, _, _, rfl, ?_, ⟨_, rfl⟩, hW, hsame.mono (by decide) (by decide)⟩
      · show Steps p.tables e below (T3.setTop (mkF m 15 #[.val .null, .val (.ref a1), .val (.ref a2), .unset] [(.ref b1)])) _
        jvm_step X3.here [X3.here.top, hx, (hb hby d13_15), X3.method', Bd.returns, Value.isRef, FieldType.isReference]
        first | (intro acts; rw [hr _ acts rfl rfl rfl]) | rw [hr _ _ rfl rfl rfl]
        exact Steps.refl _
      · show Q_rput1 Z .null a1 a2 0 x P zc h0 n0 _ T3.heap _
        exact ⟨b1, rfl, N3, K4, sz_b1, own_putN ⟨r0_3, r1_3, r2_3, r3_3, r4_3, r5_3⟩ (g_Str_a1.ext (own_ke K4)) hkx hP0⟩
    · skip
      obtain ⟨gq, aq, kaq, vaq, xq, vlq, vrq, nlq, nrq, PLq, PRq, efq, evq, Nq, Sq, hxq, hnq, b1q, b2q, TLq, TRq, p1q, p2q, hPq⟩ := own_open g_Tree_u (Nat.pos_of_ne_zero hn0)
      subst evq
      obtain rfl : gq = 0 := by omega
      have qlq := TLq.le
      have qrq := TRq.le
      refine Gl.step (B := (s₁.setTop (mkF m 18 #[.val (.ref aq), .val (.ref a1), .val (.ref a2), .unset] [(.ref aq), (.ref a1)]))) (fun t k => XS.aloadN X0.here hx rfl (hb hby d13_0) rfl rfl (XS.ifnonnullYes X0.here hx rfl (pc0 := 1) (pc' := 16) rfl (hb hby d13_1) rfl (by decide) (by decide) (XS.aloadN X0.here hx rfl (hb hby d13_16) rfl rfl (XS.aloadN X0.here hx rfl (hb hby d13_17) rfl rfl k)))) ?_
      obtain ⟨T5, X5, e5, st5⟩ := own_getFR X0 hx hZ hown (t95 hw) e0 Nq.2.1 (g := (mkF m 18 #[.val (.ref aq), .val (.ref a1), .val (.ref a2), .unset] [(.ref aq), (.ref a1)])) rfl rfl (hb hby d13_18)
      refine Gl.step (B := (T5.setTop (mkF m 21 #[.val (.ref aq), .val (.ref a1), .val (.ref a2), .unset] [(.ref kaq), (.ref a1)]))) st5 ?_
      obtain ⟨cq6, kq6, q6a, q6b, q6c⟩ := isOf hZ e5 g_Str_a1.1
      obtain ⟨_, _, ⟨T6, L6, c6, z6⟩, -, X6, ⟨Lc6, hQ6, l6, y6, zz6⟩, st6⟩ := X5.virtualBack hx (y := y11) (z := y11) hown (mvT hZ (t96 hw)) (mvT hZ (t97 hw)) (notFace_of_selects (args := #[]) (mvT hZ (t99 hw))) (mvT hZ (t99 hw)) (mvT hZ (t98 hw)) (by decide) (backOf (W := 0) (rcmp l Z a0 hw [] a1 kaq x xq zc h0 n0 O0 pm0 (hz) g_Str_a1 Sq (hkx) (hxq)) hZ (t100 hw) (t7 hw) (by decide) (by decide)) q6a q6c (g := (mkF m 21 #[.val (.ref aq), .val (.ref a1), .val (.ref a2), .unset] [(.ref kaq), (.ref a1)])) rfl (by rw [hml]; rfl) (Steps.refl _) (argsL := [(.ref kaq)]) (rest := []) (lenOf pd__Ljava_lang_String__I rfl) rfl (by show 2 * 0 + _ ≤ _; exact Nat.le_of_eq rfl) (hb hby d13_21) (fun _ _ => ⟨rfl, e5, (by decide : 0 + 0 ≤ _), (by decide : 0 + 0 ≤ _)⟩)
      dsimp only [Pt.U, Pt.locs, Pt.cells, Pt.slots] at X6 l6 y6 zz6 st6 hQ6
      subst y6 zz6
      obtain ⟨rfl, N6q, eh6⟩ := hQ6
      have N6 : Fr n0 L6 := Eq.mpr (congrArg (Fr n0) l6) (Fr.app N0 N6q)
      refine Gl.tr (B := (T6.setTop (mkF m 24 #[.val (.ref aq), .val (.ref a1), .val (.ref a2), .unset] [(.int (x - xq))]))) st6 ?_
      refine Gl.step (B := (T6.setTop (mkF m 26 #[.val (.ref aq), .val (.ref a1), .val (.ref a2), .val (.int (x - xq))] [(.int (x - xq))]))) (fun t k => XS.istoreN X6.here hx rfl (hb hby d13_24) rfl (l' := #[.val (.ref aq), .val (.ref a1), .val (.ref a2), .val (.int (x - xq))]) rfl (XS.iloadN X6.here hx rfl (hb hby d13_25) rfl k)) ?_
      by_cases h1 : x < xq
      · skip
        refine Gl.step (B := (T6.setTop (mkF m 30 #[.val (.ref aq), .val (.ref a1), .val (.ref a2), .val (.int (x - xq))] [(.ref aq)]))) (fun t k => XS.ifNo X6.here hx rfl (hb hby d13_26) rfl ((if0 _ _).trans (tlt (own_clt hkx hxq h1 : (x - xq) < (0 : Int32))).2.1) (XS.aloadN X6.here hx rfl (hb hby d13_29) rfl rfl k)) ?_
        obtain ⟨T7, X7, e7, st7⟩ := own_getFR X6 hx hZ hown (t95 hw) eh6 Nq.2.1 (g := (mkF m 30 #[.val (.ref aq), .val (.ref a1), .val (.ref a2), .val (.int (x - xq))] [(.ref aq)])) rfl rfl (hb hby d13_30)
        refine Gl.step (B := (T7.setTop (mkF m 33 #[.val (.ref aq), .val (.ref a1), .val (.ref a2), .val (.int (x - xq))] [(.ref kaq)]))) st7 ?_
        refine Gl.step (B := (T7.setTop (mkF m 34 #[.val (.ref aq), .val (.ref a1), .val (.ref a2), .val (.int (x - xq))] [(.ref aq), (.ref kaq)]))) (fun t k => XS.aloadN X7.here hx rfl (hb hby d13_33) rfl rfl k) ?_
        obtain ⟨T8, X8, e8, st8⟩ := own_getFR X7 hx hZ hown (t120 hw) e7 Nq.2.2.1 (g := (mkF m 34 #[.val (.ref aq), .val (.ref a1), .val (.ref a2), .val (.int (x - xq))] [(.ref aq), (.ref kaq)])) rfl rfl (hb hby d13_34)
        refine Gl.step (B := (T8.setTop (mkF m 37 #[.val (.ref aq), .val (.ref a1), .val (.ref a2), .val (.int (x - xq))] [(.ref vaq), (.ref kaq)]))) st8 ?_
        refine Gl.step (B := (T8.setTop (mkF m 38 #[.val (.ref aq), .val (.ref a1), .val (.ref a2), .val (.int (x - xq))] [(.ref aq), (.ref vaq), (.ref kaq)]))) (fun t k => XS.aloadN X8.here hx rfl (hb hby d13_37) rfl rfl k) ?_
        obtain ⟨T9, X9, e9, st9⟩ := own_getFR X8 hx hZ hown (t121 hw) e8 Nq.2.2.2.1 (g := (mkF m 38 #[.val (.ref aq), .val (.ref a1), .val (.ref a2), .val (.int (x - xq))] [(.ref aq), (.ref vaq), (.ref kaq)])) rfl rfl (hb hby d13_38)
        refine Gl.step (B := (T9.setTop (mkF m 41 #[.val (.ref aq), .val (.ref a1), .val (.ref a2), .val (.int (x - xq))] [vlq, (.ref vaq), (.ref kaq)]))) st9 ?_
        refine Gl.step (B := (T9.setTop (mkF m 43 #[.val (.ref aq), .val (.ref a1), .val (.ref a2), .val (.int (x - xq))] [(.ref a2), (.ref a1), vlq, (.ref vaq), (.ref kaq)]))) (fun t k => XS.aloadN X9.here hx rfl (hb hby d13_41) rfl rfl (XS.aloadN X9.here hx rfl (hb hby d13_42) rfl rfl k)) ?_
        obtain ⟨_, _, ⟨T10, L10, c10, z10⟩, -, X10, ⟨Lc10, hQ10, l10, y10, zz10⟩, st10⟩ := Jvm.LawKit.callS X9 hx (y := y16) hown (mvT hZ (t68 hw)) (mvT hZ (t69 hw)) (mvT hZ (t36 hw)) (mvT hZ (t70 hw)) (by decide) (backOf (W := 2) (rput0 l Z a0 hw [] vlq a1 a2 nlq x PLq zc h0 n0 O0 pm0 (hz) g_Str_a1 (hkx) TLq) hZ (t70 hw) (t36 hw) (by decide) (by decide)) (g := (mkF m 43 #[.val (.ref aq), .val (.ref a1), .val (.ref a2), .val (.int (x - xq))] [(.ref a2), (.ref a1), vlq, (.ref vaq), (.ref kaq)])) rfl (by rw [hml]; rfl) (argsL := [vlq, (.ref a1), (.ref a2)]) (rest := [(.ref vaq), (.ref kaq)]) (lenOf pd__Lcom_example_isogloss_isogloss_util_PersistentMap_Node_Ljava_lang_String_Ljava_lang_Object__Lcom_example_isogloss_isogloss_util_PersistentMap_Node_ rfl) rfl (by show 2 * 0 + _ ≤ _; exact Nat.le_of_eq rfl) (hb hby d13_43) (fun _ _ => ⟨rfl, e9, (by decide : 0 + 1 ≤ _), (by decide : 0 + 5 ≤ _)⟩)
        dsimp only [Pt.U, Pt.locs, Pt.cells, Pt.slots] at X10 l10 y10 zz10 st10 hQ10
        subst y10 zz10
        obtain ⟨b_10, rfl, N10q, Kc10, r0_10, hT_10⟩ := hQ10
        have N10 : Fr n0 L10 := Eq.mpr (congrArg (Fr n0) l10) (Fr.app N6 N10q)
        have ge_b_10 : n0 ≤ b_10 := Nat.le_trans (own_oz O0) r0_10
        have sz_b_10 : h0.size ≤ b_10 := Nat.le_trans K0.1 r0_10
        have O11 : Old Z n0 T10.heap := O0.keep Kc10 all0
        have K11 : Keep h0 T10.heap [] := K0.trans Kc10 all0
        refine Gl.step (B := (T10.setTop (mkF m 46 #[.val (.ref aq), .val (.ref a1), .val (.ref a2), .val (.int (x - xq))] [(.ref b_10), (.ref vaq), (.ref kaq)]))) st10 ?_
        refine Gl.step (B := (T10.setTop (mkF m 47 #[.val (.ref aq), .val (.ref a1), .val (.ref a2), .val (.int (x - xq))] [(.ref aq), (.ref b_10), (.ref vaq), (.ref kaq)]))) (fun t k => XS.aloadN X10.here hx rfl (hb hby d13_46) rfl rfl k) ?_
        have f12 := (Nq.2.2.2.2.1.ext (own_ke K11))
        obtain ⟨T13, X13, e13, st13⟩ := own_getFR X10 hx hZ hown (t122 hw) rfl f12 (g := (mkF m 47 #[.val (.ref aq), .val (.ref a1), .val (.ref a2), .val (.int (x - xq))] [(.ref aq), (.ref b_10), (.ref vaq), (.ref kaq)])) rfl rfl (hb hby d13_47)
        refine Gl.step (B := (T13.setTop (mkF m 50 #[.val (.ref aq), .val (.ref a1), .val (.ref a2), .val (.int (x - xq))] [vrq, (.ref b_10), (.ref vaq), (.ref kaq)]))) st13 ?_
        obtain ⟨n1, T1, u1, u2⟩ := hT_10
        have f14 := (Sq.ext (own_ke K11))
        have f15 := (TRq.up.ext (own_ke K11))
        obtain ⟨_, _, ⟨T16, L16, c16, z16⟩, -, X16, ⟨Lc16, hQ16, l16, y16, zz16⟩, st16⟩ := Jvm.LawKit.callS X13 hx (y := y15) hown (mvT hZ (t135 hw)) (mvT hZ (t136 hw)) (mvT hZ (t36 hw)) (mvT hZ (t137 hw)) (by decide) (backOf (W := 0) (rbal l Z a0 hw [] kaq vaq (.ref b_10) vrq 1 n1 nrq xq (fun k => k = x ∨ PLq k) PRq T10.heap n0 O11 f14 (hxq) (T1) f15 (by omega) (by decide) (own_oL h1 p1q) (p2q)) hZ (t137 hw) (t36 hw) (by decide) (by decide)) (g := (mkF m 50 #[.val (.ref aq), .val (.ref a1), .val (.ref a2), .val (.int (x - xq))] [vrq, (.ref b_10), (.ref vaq), (.ref kaq)])) rfl (by rw [hml]; rfl) (argsL := [(.ref kaq), (.ref vaq), (.ref b_10), vrq]) (rest := []) (lenOf pd__Ljava_lang_String_Ljava_lang_Object_Lcom_example_isogloss_isogloss_util_PersistentMap_Node_Lcom_example_isogloss_isogloss_util_PersistentMap_Node__Lcom_example_isogloss_isogloss_util_PersistentMap_Node_ rfl) rfl (by show 2 * 0 + _ ≤ _; exact Nat.le_of_eq rfl) (hb hby d13_50) (fun _ _ => ⟨rfl, e13, (by decide : 1 + 3 ≤ _), (by decide : 5 + 15 ≤ _)⟩)
        dsimp only [Pt.U, Pt.locs, Pt.cells, Pt.slots] at X16 l16 y16 zz16 st16 hQ16
        subst y16 zz16
        obtain ⟨b_16, rfl, N16q, Kc16, r0_16, hT_16⟩ := hQ16
        have N16 : Fr n0 L16 := Eq.mpr (congrArg (Fr n0) l16) (Fr.app N10 N16q)
        have ge_b_16 : n0 ≤ b_16 := Nat.le_trans (own_oz O11) r0_16
        have sz_b_16 : h0.size ≤ b_16 := Nat.le_trans K11.1 r0_16
        have O17 : Old Z n0 T16.heap := O11.keep Kc16 all0
        have K17 : Keep h0 T16.heap [] := K11.trans Kc16 all0
        refine Gl.step (B := (T16.setTop (mkF m 53 #[.val (.ref aq), .val (.ref a1), .val (.ref a2), .val (.int (x - xq))] [(.ref b_16)]))) st16 ?_
        obtain ⟨fs, hr, hrun, hended, hW, hsame⟩ := X16.leave (v := some (.ref b_16)) (fun h => by rw [Bd.returns] at h; cases h)
        refine ⟨_, _, ?_, hrun, hended, _, _, rfl, ?_, ⟨_, rfl⟩, hW, hsame.mono (by decide) (by decide)⟩
        · show Steps p.tables e below (T16.setTop (mkF m 53 #[.val (.ref aq), .val (.ref a1), .val (.ref a2), .val (.int (x - xq))] [(.ref b_16)])) _
          jvm_step X16.here [X16.here.top, hx, (hb hby d13_53), X16.method', Bd.returns, Value.isRef, FieldType.isReference]
          first | (intro acts; rw [hr _ acts rfl rfl rfl]) | rw [hr _ _ rfl rfl rfl]
          exact Steps.refl _
        · show Q_rput1 Z (.ref aq) a1 a2 n x P zc h0 n0 _ T16.heap _
          exact ⟨b_16, rfl, N16, K17, sz_b_16, own_putL hT_16 hnq b1q b2q u1 u2 hPq⟩
      · skip
        by_cases h2 : xq < x
        · skip
          refine Gl.step (B := (T6.setTop (mkF m 59 #[.val (.ref aq), .val (.ref a1), .val (.ref a2), .val (.int (x - xq))] [(.ref aq)]))) (fun t k => XS.ifYes X6.here hx rfl (pc0 := 26) (pc' := 54) rfl (hb hby d13_26) rfl ((if0 _ _).trans (flt (own_cnl hkx hxq h1 : ¬ ((x - xq) < (0 : Int32)))).2.1) (by decide) (by decide) (XS.iloadN X6.here hx rfl (hb hby d13_54) rfl (XS.ifNo X6.here hx rfl (hb hby d13_55) rfl ((if0 _ _).trans (tlt (own_cgt hkx hxq h2 : (0 : Int32) < (x - xq))).2.2.2) (XS.aloadN X6.here hx rfl (hb hby d13_58) rfl rfl k)))) ?_
          obtain ⟨T18, X18, e18, st18⟩ := own_getFR X6 hx hZ hown (t95 hw) eh6 Nq.2.1 (g := (mkF m 59 #[.val (.ref aq), .val (.ref a1), .val (.ref a2), .val (.int (x - xq))] [(.ref aq)])) rfl rfl (hb hby d13_59)
          refine Gl.step (B := (T18.setTop (mkF m 62 #[.val (.ref aq), .val (.ref a1), .val (.ref a2), .val (.int (x - xq))] [(.ref kaq)]))) st18 ?_
          refine Gl.step (B := (T18.setTop (mkF m 63 #[.val (.ref aq), .val (.ref a1), .val (.ref a2), .val (.int (x - xq))] [(.ref aq), (.ref kaq)]))) (fun t k => XS.aloadN X18.here hx rfl (hb hby d13_62) rfl rfl k) ?_
          obtain ⟨T19, X19, e19, st19⟩ := own_getFR X18 hx hZ hown (t120 hw) e18 Nq.2.2.1 (g := (mkF m 63 #[.val (.ref aq), .val (.ref a1), .val (.ref a2), .val (.int (x - xq))] [(.ref aq), (.ref kaq)])) rfl rfl (hb hby d13_63)
          refine Gl.step (B := (T19.setTop (mkF m 66 #[.val (.ref aq), .val (.ref a1), .val (.ref a2), .val (.int (x - xq))] [(.ref vaq), (.ref kaq)]))) st19 ?_
          refine Gl.step (B := (T19.setTop (mkF m 67 #[.val (.ref aq), .val (.ref a1), .val (.ref a2), .val (.int (x - xq))] [(.ref aq), (.ref vaq), (.ref kaq)]))) (fun t k => XS.aloadN X19.here hx rfl (hb hby d13_66) rfl rfl k) ?_
          obtain ⟨T20, X20, e20, st20⟩ := own_getFR X19 hx hZ hown (t121 hw) e19 Nq.2.2.2.1 (g := (mkF m 67 #[.val (.ref aq), .val (.ref a1), .val (.ref a2), .val (.int (x - xq))] [(.ref aq), (.ref vaq), (.ref kaq)])) rfl rfl (hb hby d13_67)
          refine Gl.step (B := (T20.setTop (mkF m 70 #[.val (.ref aq), .val (.ref a1), .val (.ref a2), .val (.int (x - xq))] [vlq, (.ref vaq), (.ref kaq)]))) st20 ?_
          refine Gl.step (B := (T20.setTop (mkF m 71 #[.val (.ref aq), .val (.ref a1), .val (.ref a2), .val (.int (x - xq))] [(.ref aq), vlq, (.ref vaq), (.ref kaq)]))) (fun t k => XS.aloadN X20.here hx rfl (hb hby d13_70) rfl rfl k) ?_
          obtain ⟨T21, X21, e21, st21⟩ := own_getFR X20 hx hZ hown (t122 hw) e20 Nq.2.2.2.2.1 (g := (mkF m 71 #[.val (.ref aq), .val (.ref a1), .val (.ref a2), .val (.int (x - xq))] [(.ref aq), vlq, (.ref vaq), (.ref kaq)])) rfl rfl (hb hby d13_71)
          refine Gl.step (B := (T21.setTop (mkF m 74 #[.val (.ref aq), .val (.ref a1), .val (.ref a2), .val (.int (x - xq))] [vrq, vlq, (.ref vaq), (.ref kaq)]))) st21 ?_
          refine Gl.step (B := (T21.setTop (mkF m 76 #[.val (.ref aq), .val (.ref a1), .val (.ref a2), .val (.int (x - xq))] [(.ref a2), (.ref a1), vrq, vlq, (.ref vaq), (.ref kaq)]))) (fun t k => XS.aloadN X21.here hx rfl (hb hby d13_74) rfl rfl (XS.aloadN X21.here hx rfl (hb hby d13_75) rfl rfl k)) ?_
          obtain ⟨_, _, ⟨T22, L22, c22, z22⟩, -, X22, ⟨Lc22, hQ22, l22, y22, zz22⟩, st22⟩ := Jvm.LawKit.callS X21 hx (y := y16) hown (mvT hZ (t68 hw)) (mvT hZ (t69 hw)) (mvT hZ (t36 hw)) (mvT hZ (t70 hw)) (by decide) (backOf (W := 3) (rput0 l Z a0 hw [] vrq a1 a2 nrq x PRq zc h0 n0 O0 pm0 (hz) g_Str_a1 (hkx) TRq) hZ (t70 hw) (t36 hw) (by decide) (by decide)) (g := (mkF m 76 #[.val (.ref aq), .val (.ref a1), .val (.ref a2), .val (.int (x - xq))] [(.ref a2), (.ref a1), vrq, vlq, (.ref vaq), (.ref kaq)])) rfl (by rw [hml]; rfl) (argsL := [vrq, (.ref a1), (.ref a2)]) (rest := [vlq, (.ref vaq), (.ref kaq)]) (lenOf pd__Lcom_example_isogloss_isogloss_util_PersistentMap_Node_Ljava_lang_String_Ljava_lang_Object__Lcom_example_isogloss_isogloss_util_PersistentMap_Node_ rfl) rfl (by show 2 * 0 + (vlq.category + (1 + (1 + (0)))) ≤ _; have w_vlq := own_cat TLq.isRef; omega) (hb hby d13_76) (fun _ _ => ⟨rfl, e21, (by decide : 0 + 1 ≤ _), (by decide : 0 + 5 ≤ _)⟩)
          dsimp only [Pt.U, Pt.locs, Pt.cells, Pt.slots] at X22 l22 y22 zz22 st22 hQ22
          subst y22 zz22
          obtain ⟨b_22, rfl, N22q, Kc22, r0_22, hT_22⟩ := hQ22
          have N22 : Fr n0 L22 := Eq.mpr (congrArg (Fr n0) l22) (Fr.app N6 N22q)
          have ge_b_22 : n0 ≤ b_22 := Nat.le_trans (own_oz O0) r0_22
          have sz_b_22 : h0.size ≤ b_22 := Nat.le_trans K0.1 r0_22
          have O23 : Old Z n0 T22.heap := O0.keep Kc22 all0
          have K23 : Keep h0 T22.heap [] := K0.trans Kc22 all0
          refine Gl.step (B := (T22.setTop (mkF m 79 #[.val (.ref aq), .val (.ref a1), .val (.ref a2), .val (.int (x - xq))] [(.ref b_22), vlq, (.ref vaq), (.ref kaq)]))) st22 ?_
          obtain ⟨n1, T1, u1, u2⟩ := hT_22
          have f24 := (Sq.ext (own_ke K23))
          have f25 := (TLq.up.ext (own_ke K23))
          obtain ⟨_, _, ⟨T26, L26, c26, z26⟩, -, X26, ⟨Lc26, hQ26, l26, y26, zz26⟩, st26⟩ := Jvm.LawKit.callS X22 hx (y := y15) hown (mvT hZ (t135 hw)) (mvT hZ (t136 hw)) (mvT hZ (t36 hw)) (mvT hZ (t137 hw)) (by decide) (backOf (W := 0) (rbal l Z a0 hw [] kaq vaq vlq (.ref b_22) 1 nlq n1 xq PLq (fun k => k = x ∨ PRq k) T22.heap n0 O23 f24 (hxq) f25 (T1) (by omega) (by decide) (p1q) (own_oR h2 p2q)) hZ (t137 hw) (t36 hw) (by decide) (by decide)) (g := (mkF m 79 #[.val (.ref aq), .val (.ref a1), .val (.ref a2), .val (.int (x - xq))] [(.ref b_22), vlq, (.ref vaq), (.ref kaq)])) rfl (by rw [hml]; rfl) (argsL := [(.ref kaq), (.ref vaq), vlq, (.ref b_22)]) (rest := []) (lenOf pd__Ljava_lang_String_Ljava_lang_Object_Lcom_example_isogloss_isogloss_util_PersistentMap_Node_Lcom_example_isogloss_isogloss_util_PersistentMap_Node__Lcom_example_isogloss_isogloss_util_PersistentMap_Node_ rfl) rfl (by show 2 * 0 + _ ≤ _; exact Nat.le_of_eq rfl) (hb hby d13_79) (fun _ _ => ⟨rfl, rfl, (by decide : 1 + 3 ≤ _), (by decide : 5 + 15 ≤ _)⟩)
          dsimp only [Pt.U, Pt.locs, Pt.cells, Pt.slots] at X26 l26 y26 zz26 st26 hQ26
          subst y26 zz26
          obtain ⟨b_26, rfl, N26q, Kc26, r0_26, hT_26⟩ := hQ26
          have N26 : Fr n0 L26 := Eq.mpr (congrArg (Fr n0) l26) (Fr.app N22 N26q)
          have ge_b_26 : n0 ≤ b_26 := Nat.le_trans (own_oz O23) r0_26
          have sz_b_26 : h0.size ≤ b_26 := Nat.le_trans K23.1 r0_26
          have O27 : Old Z n0 T26.heap := O23.keep Kc26 all0
          have K27 : Keep h0 T26.heap [] := K23.trans Kc26 all0
          refine Gl.step (B := (T26.setTop (mkF m 82 #[.val (.ref aq), .val (.ref a1), .val (.ref a2), .val (.int (x - xq))] [(.ref b_26)]))) st26 ?_
          obtain ⟨fs, hr, hrun, hended, hW, hsame⟩ := X26.leave (v := some (.ref b_26)) (fun h => by rw [Bd.returns] at h; cases h)
          refine ⟨_, _, ?_, hrun, hended, _, _, rfl, ?_, ⟨_, rfl⟩, hW, hsame.mono (by decide) (by decide)⟩
          · show Steps p.tables e below (T26.setTop (mkF m 82 #[.val (.ref aq), .val (.ref a1), .val (.ref a2), .val (.int (x - xq))] [(.ref b_26)])) _
            jvm_step X26.here [X26.here.top, hx, (hb hby d13_82), X26.method', Bd.returns, Value.isRef, FieldType.isReference]
            first | (intro acts; rw [hr _ acts rfl rfl rfl]) | rw [hr _ _ rfl rfl rfl]
            exact Steps.refl _
          · show Q_rput1 Z (.ref aq) a1 a2 n x P zc h0 n0 _ T26.heap _
            exact ⟨b_26, rfl, N26, K27, sz_b_26, own_putR hT_26 hnq b1q b2q u1 u2 hPq⟩
        · skip
          refine Gl.step (B := (T6.setTop (mkF m 83 #[.val (.ref aq), .val (.ref a1), .val (.ref a2), .val (.int (x - xq))] []))) (fun t k => XS.ifYes X6.here hx rfl (pc0 := 26) (pc' := 54) rfl (hb hby d13_26) rfl ((if0 _ _).trans (flt (own_cnl hkx hxq h1 : ¬ ((x - xq) < (0 : Int32)))).2.1) (by decide) (by decide) (XS.iloadN X6.here hx rfl (hb hby d13_54) rfl (XS.ifYes X6.here hx rfl (pc0 := 55) (pc' := 83) rfl (hb hby d13_55) rfl ((if0 _ _).trans (flt (own_cng hkx hxq h2 : ¬ ((0 : Int32) < (x - xq)))).2.2.2) (by decide) (by decide) k))) ?_
          obtain ⟨T28, h28, X28, e28, E28, A28, D28, -, st28⟩ := newO X6 hx hZ hown (t71 hw) (t72 hw) (t73 hw) eh6 (g := (mkF m 83 #[.val (.ref aq), .val (.ref a1), .val (.ref a2), .val (.int (x - xq))] [])) rfl (hb hby d13_83) (by decide) (by decide)
          obtain ⟨b28, g28⟩ : ∃ z, z = h0.size := ⟨_, rfl⟩
          rw [← g28] at A28 D28 st28
          have ge_b28 : n0 ≤ b28 := Nat.le_trans (own_oz O0) (Nat.le_of_eq g28.symm)
          have sz_b28 : h0.size ≤ b28 := Nat.le_trans K0.1 (Nat.le_of_eq g28.symm)
          have O29 : Old Z n0 h28 := O0.ext E28
          have K29 : Keep h0 h28 [] := K0.ext E28
          have F28_key : Fld Z h28 b28 own_ND "key" "Ljava/lang/String;" .null := D28 (Or.inr (t79 hw)) (ty := (.object "java/lang/String")) (by decide)
          have F28_value : Fld Z h28 b28 own_ND "value" "Ljava/lang/Object;" .null := D28 (Or.inr (t81 hw)) (ty := (.object "java/lang/Object")) (by decide)
          have F28_left : Fld Z h28 b28 own_ND "left" own_LN .null := D28 (Or.inr (t83 hw)) (ty := (.object "com/example/isogloss/isogloss/util/PersistentMap$Node")) (by decide)
          have F28_right : Fld Z h28 b28 own_ND "right" own_LN .null := D28 (Or.inr (t85 hw)) (ty := (.object "com/example/isogloss/isogloss/util/PersistentMap$Node")) (by decide)
          have F28_height : Fld Z h28 b28 own_ND "height" "I" (.int (0 : Int32)) := D28 (Or.inr (t94 hw)) (ty := .int) (by decide)
          refine Gl.step (B := (T28.setTop (mkF m 86 #[.val (.ref aq), .val (.ref a1), .val (.ref a2), .val (.int (x - xq))] [(.ref b28)]))) st28 ?_
          refine Gl.step (B := (T28.setTop (mkF m 90 #[.val (.ref aq), .val (.ref a1), .val (.ref a2), .val (.int (x - xq))] [(.ref aq), (.ref a2), (.ref a1), (.ref b28), (.ref b28)]))) (fun t k => XS.dup X28.here hx rfl (hb hby d13_86) rfl rfl (XS.aloadN X28.here hx rfl (hb hby d13_87) rfl rfl (XS.aloadN X28.here hx rfl (hb hby d13_88) rfl rfl (XS.aloadN X28.here hx rfl (hb hby d13_89) rfl rfl k)))) ?_
          have f30 := (Nq.2.2.2.1.ext (own_ke K29))
          obtain ⟨T31, X31, e31, st31⟩ := own_getFR X28 hx hZ hown (t121 hw) e28 f30 (g := (mkF m 90 #[.val (.ref aq), .val (.ref a1), .val (.ref a2), .val (.int (x - xq))] [(.ref aq), (.ref a2), (.ref a1), (.ref b28), (.ref b28)])) rfl rfl (hb hby d13_90)
          refine Gl.step (B := (T31.setTop (mkF m 93 #[.val (.ref aq), .val (.ref a1), .val (.ref a2), .val (.int (x - xq))] [vlq, (.ref a2), (.ref a1), (.ref b28), (.ref b28)]))) st31 ?_
          refine Gl.step (B := (T31.setTop (mkF m 94 #[.val (.ref aq), .val (.ref a1), .val (.ref a2), .val (.int (x - xq))] [(.ref aq), vlq, (.ref a2), (.ref a1), (.ref b28), (.ref b28)]))) (fun t k => XS.aloadN X31.here hx rfl (hb hby d13_93) rfl rfl k) ?_
          have f32 := (Nq.2.2.2.2.1.ext (own_ke K29))
          obtain ⟨T33, X33, e33, st33⟩ := own_getFR X31 hx hZ hown (t122 hw) e31 f32 (g := (mkF m 94 #[.val (.ref aq), .val (.ref a1), .val (.ref a2), .val (.int (x - xq))] [(.ref aq), vlq, (.ref a2), (.ref a1), (.ref b28), (.ref b28)])) rfl rfl (hb hby d13_94)
          refine Gl.step (B := (T33.setTop (mkF m 97 #[.val (.ref aq), .val (.ref a1), .val (.ref a2), .val (.int (x - xq))] [vrq, vlq, (.ref a2), (.ref a1), (.ref b28), (.ref b28)]))) st33 ?_
          have f34 := (TLq.ht.ext (own_ke K29))
          have f35 := (TRq.ht.ext (own_ke K29))
          obtain ⟨_, _, ⟨T36, L36, c36, z36⟩, -, X36, ⟨Lc36, hQ36, l36, y36, zz36⟩, st36⟩ := own_specialRef X33 hx hZ (y := y4) rfl hown (t74 hw) (t76 hw) (mvT hZ (t75 hw)) (mvT hZ (t76 hw)) (by decide) (backOf (W := 1) (rnV l Z a0 hw [] b28 a1 a2 vlq vrq nlq nrq h28 n0 O29 A28 F28_key F28_value F28_left F28_right F28_height ge_b28 f34 f35 (TLq.ht.nf sz_b28) (TRq.ht.nf sz_b28) ((by omega))) hZ (t76 hw) (t73 hw) (by decide) (by decide)) (g := (mkF m 97 #[.val (.ref aq), .val (.ref a1), .val (.ref a2), .val (.int (x - xq))] [vrq, vlq, (.ref a2), (.ref a1), (.ref b28), (.ref b28)])) rfl (by rw [hml]; rfl) (a := b28) (argsL := [(.ref a1), (.ref a2), vlq, vrq]) (rest := [(.ref b28)]) (lenOf pd__Ljava_lang_String_Ljava_lang_Object_Lcom_example_isogloss_isogloss_util_PersistentMap_Node_Lcom_example_isogloss_isogloss_util_PersistentMap_Node__V rfl) rfl (by show 2 * 0 + _ ≤ _; exact Nat.le_of_eq rfl) (hb hby d13_97) (fun _ _ => ⟨rfl, e33, (by decide : 1 + 0 ≤ _), (by decide : 5 + 0 ≤ _)⟩)
          dsimp only [Pt.U, Pt.locs, Pt.cells, Pt.slots] at X36 l36 y36 zz36 st36 hQ36
          subst y36 zz36
          obtain ⟨rfl, N36q, Kc36, r0_36, r1_36, r2_36, r3_36, r4_36, r5_36⟩ := hQ36
          have N36 : Fr n0 L36 := Eq.mpr (congrArg (Fr n0) l36) (Fr.app N6 N36q)
          have O37 : Old Z n0 T36.heap := O29.keep Kc36 (allS ge_b28 all0)
          have K37 : Keep h0 T36.heap [] := K29.trans Kc36 (allS (Or.inr sz_b28) all0)
          refine Gl.tr (B := (T36.setTop (mkF m 100 #[.val (.ref aq), .val (.ref a1), .val (.ref a2), .val (.int (x - xq))] [(.ref b28)]))) st36 ?_
          obtain ⟨fs, hr, hrun, hended, hW, hsame⟩ := X36.leave (v := some (.ref b28)) (fun h => by rw [Bd.returns] at h; cases h)
          refine ⟨_, _, ?_, hrun, hended, _, _, rfl, ?_, ⟨_, rfl⟩, hW, hsame.mono (by decide) (by decide)⟩
          · show Steps p.tables e below (T36.setTop (mkF m 100 #[.val (.ref aq), .val (.ref a1), .val (.ref a2), .val (.int (x - xq))] [(.ref b28)])) _
            jvm_step X36.here [X36.here.top, hx, (hb hby d13_100), X36.method', Bd.returns, Value.isRef, FieldType.isReference]
            first | (intro acts; rw [hr _ acts rfl rfl rfl]) | rw [hr _ _ rfl rfl rfl]
            exact Steps.refl _
          · show Q_rput1 Z (.ref aq) a1 a2 n x P zc h0 n0 _ T36.heap _
            exact ⟨b28, rfl, N36, K37, sz_b28, own_putE (f := 0) ⟨r0_36, r1_36, r2_36, r3_36, r4_36, r5_36⟩ (g_Str_a1.ext (own_ke K37)) hkx (TLq.ext (own_ke K37)) (TRq.ext (own_ke K37)) (own_tri h1 h2) hnq b1q b2q p1q p2q hPq⟩
  obtain ⟨s₂, o, g1, g2, g3, g4⟩ := go
  exact ⟨s₂, o, castTop (ef_rput1 m u a1 a2 g_Tree_u.isRef) g1, g2, g3, g4⟩
theorem ef_rput2 (m : MethodId) (x0 : Value) (x1 : Addr) (x2 : Addr) (hx0 : x0.isRef = true) : entryFrame m #[x0, (.ref x1), (.ref x2)] 4 = mkF m 0 #[.val x0, .val (.ref x1), .val (.ref x2), .unset] [] := by rcases ref_cases hx0 with rfl | ⟨_, rfl⟩ <;> first | (simp [entryFrame, mkF, argsToLocals, Value.category]; done) | rfl
def Q_rput2 (Z : State) (u : Value) (a1 : Addr) (a2 : Addr) (n : Nat) (x : Int32) (P : Int32 → Prop) (zc : Int32) (h0 : Heap) (n0 : Nat) (v : Option Value) (h : Heap) (L : List Loc) : Prop := ∃ b : Addr, v = some (.ref b) ∧ Fr n0 L ∧ Keep h0 h [] ∧ (h0.size ≤ b) ∧ (PutP Z h 2 n b x P)
set_option maxRecDepth 65536 in
set_option maxHeartbeats 40000000 in
theorem rput2 (l : Launch) (Z : State) (a0 : Array Value) (hw : ∀ d ∈ tables_1, d.before a0 Z = true) (ws : List Jvm.Cond) (u : Value) (a1 : Addr) (a2 : Addr) (n : Nat) (x : Int32) (P : Int32 → Prop) (zc : Int32) (h0 : Heap) (n0 : Nat) (O0 : Old Z n0 h0) (pm0 : Sta Z Z.heap "java/lang/String" "COMPACT_STRINGS" "Z" (.int zc)) (hz : ¬ (zc = (0 : Int32))) (g_Str_a1 : Str Z h0 a1 x) (hkx : Ky x) (g_Tree_u : Tree Z h0 2 n u P) :
    MetFree l y16 (head1 (Jvm.Cond.code y16 prog_164_method_11_code 4 (some (.object "com/example/isogloss/isogloss/util/PersistentMap$Node")) :: ws) ({ frames := 5, cells := 7, slots := 35, locals := 81 } : Room)) (fun a U => a = #[u, (.ref a1), (.ref a2)] ∧ Z.Warmed39 U.vm ∧ U.heap = h0) (fun _ _ _ _ _ => True) (fun _ U o U' => ∃ v L, o = .returned v ∧ Q_rput2 Z u a1 a2 n x P zc h0 n0 v U'.heap L ∧ FrameEnd U o U' L ({ frames := 5, cells := 7, slots := 35, locals := 81 } : Room).cells ({ frames := 5, cells := 7, slots := 35, locals := 81 } : Room).slots) := by
  refine MetFree.of_bodySF (plainFor_of_name pn_com_example_isogloss_isogloss_util_PersistentMap) hisR ?_
  intro p e s m args below meth c s₁ Bd hml0 hP hK
  obtain ⟨rfl, hZ, hh⟩ := hP
  have hx := Bd.exec
  have hby := Bd.bytes
  have hml : c.maxLocals = 4 := hml0
  have hown : s.vm.findClass own_PM = some m.cls := findClass_of_methodNamed Bd.named
  have hnm := (name_of_methodNamed Bd.named Bd.method).1
  have X0 : Stand p l e ({ frames := 5, cells := 7, slots := 35, locals := 81 } : Room) s m #[u, (.ref a1), (.ref a2)] below meth c s₁ [] 0 0 := Stand.of_body Bd
  have e0 : s₁.heap = h0 := by rw [← hh, Bd.state]; rfl
  have N0 := Fr.nil n0
  have K0 : Keep h0 h0 [] := Keep.refl h0 _
  have go : Gl p.tables e below (fun o U' => ∃ v L, o = .returned v ∧ Q_rput2 Z u a1 a2 n x P zc h0 n0 v U'.heap L ∧ FrameEnd s o U' L ({ frames := 5, cells := 7, slots := 35, locals := 81 } : Room).cells ({ frames := 5, cells := 7, slots := 35, locals := 81 } : Room).slots) (s₁.setTop (mkF m 0 #[.val u, .val (.ref a1), .val (.ref a2), .unset] [])) := by
    by_cases hn0 : n = 0
    · skip
      obtain ⟨hu0, hP0⟩ := own_zero g_Tree_u hn0
      subst hu0
      subst hn0
      refine Gl.step (B := (s₁.setTop (mkF m 4 #[.val .null, .val (.ref a1), .val (.ref a2), .unset] []))) (fun t k => XS.aloadN X0.here hx rfl (hb hby d13_0) rfl rfl (XS.ifnonnullNo X0.here hx rfl (hb hby d13_1) rfl k)) ?_
      obtain ⟨T1, h1, X1, e1, E1, A1, D1, -, st1⟩ := newO X0 hx hZ hown (t71 hw) (t72 hw) (t73 hw) e0 (g := (mkF m 4 #[.val .null, .val (.ref a1), .val (.ref a2), .unset] [])) rfl (hb hby d13_4) (by decide) (by decide)
      obtain ⟨b1, g1⟩ : ∃ z, z = h0.size := ⟨_, rfl⟩
      rw [← g1] at A1 D1 st1
      have ge_b1 : n0 ≤ b1 := Nat.le_trans (own_oz O0) (Nat.le_of_eq g1.symm)
      have sz_b1 : h0.size ≤ b1 := Nat.le_trans K0.1 (Nat.le_of_eq g1.symm)
      have O2 : Old Z n0 h1 := O0.ext E1
      have K2 : Keep h0 h1 [] := K0.ext E1
      have F1_key : Fld Z h1 b1 own_ND "key" "Ljava/lang/String;" .null := D1 (Or.inr (t79 hw)) (ty := (.object "java/lang/String")) (by decide)
      have F1_value : Fld Z h1 b1 own_ND "value" "Ljava/lang/Object;" .null := D1 (Or.inr (t81 hw)) (ty := (.object "java/lang/Object")) (by decide)
      have F1_left : Fld Z h1 b1 own_ND "left" own_LN .null := D1 (Or.inr (t83 hw)) (ty := (.object "com/example/isogloss/isogloss/util/PersistentMap$Node")) (by decide)
      have F1_right : Fld Z h1 b1 own_ND "right" own_LN .null := D1 (Or.inr (t85 hw)) (ty := (.object "com/example/isogloss/isogloss/util/PersistentMap$Node")) (by decide)
      have F1_height : Fld Z h1 b1 own_ND "height" "I" (.int (0 : Int32)) := D1 (Or.inr (t94 hw)) (ty := .int) (by decide)
      refine Gl.step (B := (T1.setTop (mkF m 7 #[.val .null, .val (.ref a1), .val (.ref a2), .unset] [(.ref b1)]))) st1 ?_
      refine Gl.step (B := (T1.setTop (mkF m 12 #[.val .null, .val (.ref a1), .val (.ref a2), .unset] [.null, .null, (.ref a2), (.ref a1), (.ref b1), (.ref b1)]))) (fun t k => XS.dup X1.here hx rfl (hb hby d13_7) rfl rfl (XS.aloadN X1.here hx rfl (hb hby d13_8) rfl rfl (XS.aloadN X1.here hx rfl (hb hby d13_9) rfl rfl (XS.aconstNull X1.here hx rfl (hb hby d13_10) (XS.aconstNull X1.here hx rfl (hb hby d13_11) k))))) ?_
      obtain ⟨_, _, ⟨T3, L3, c3, z3⟩, -, X3, ⟨Lc3, hQ3, l3, y3, zz3⟩, st3⟩ := own_specialRef X1 hx hZ (y := y4) rfl hown (t74 hw) (t76 hw) (mvT hZ (t75 hw)) (mvT hZ (t76 hw)) (by decide) (backOf (W := 1) (rnV l Z a0 hw [] b1 a1 a2 .null .null 0 0 h1 n0 O2 A1 F1_key F1_value F1_left F1_right F1_height ge_b1 (Or.inl ⟨rfl, rfl⟩) (Or.inl ⟨rfl, rfl⟩) (fun q => nomatch q) (fun q => nomatch q) ((by decide))) hZ (t76 hw) (t73 hw) (by decide) (by decide)) (g := (mkF m 12 #[.val .null, .val (.ref a1), .val (.ref a2), .unset] [.null, .null, (.ref a2), (.ref a1), (.ref b1), (.ref b1)])) rfl (by rw [hml]; rfl) (a := b1) (argsL := [(.ref a1), (.ref a2), .null, .null]) (rest := [(.ref b1)]) (lenOf pd__Ljava_lang_String_Ljava_lang_Object_Lcom_example_isogloss_isogloss_util_PersistentMap_Node_Lcom_example_isogloss_isogloss_util_PersistentMap_Node__V rfl) rfl (by show 2 * 0 + _ ≤ _; exact Nat.le_of_eq rfl) (hb hby d13_12) (fun _ _ => ⟨rfl, e1, (by decide : 1 + 0 ≤ _), (by decide : 5 + 0 ≤ _)⟩)
      dsimp only [Pt.U, Pt.locs, Pt.cells, Pt.slots] at X3 l3 y3 zz3 st3 hQ3
      subst y3 zz3
      obtain ⟨rfl, N3q, Kc3, r0_3, r1_3, r2_3, r3_3, r4_3, r5_3⟩ := hQ3
      have N3 : Fr n0 L3 := Eq.mpr (congrArg (Fr n0) l3) (Fr.app N0 N3q)
      have O4 : Old Z n0 T3.heap := O2.keep Kc3 (allS ge_b1 all0)
      have K4 : Keep h0 T3.heap [] := K2.trans Kc3 (allS (Or.inr sz_b1) all0)
      refine Gl.tr (B := (T3.setTop (mkF m 15 #[.val .null, .val (.ref a1), .val (.ref a2), .unset] [(.ref b1)]))) st3 ?_
      obtain ⟨fs, hr, hrun, hended, hW, hsame⟩ := X3.leave (v := some (.ref b1)) (fun h => by rw [Bd.returns] at h; cases h)
      refine ⟨_, _, ?_, hrun, hended, _, _, rfl, ?_, ⟨_, rfl⟩, hW, hsame.mono (by decide) (by decide)⟩
      · show Steps p.tables e below (T3.setTop (mkF m 15 #[.val .null, .val (.ref a1), .val (.ref a2), .unset] [(.ref b1)])) _
        jvm_step X3.here [X3.here.top, hx, (hb hby d13_15), X3.method', Bd.returns, Value.isRef, FieldType.isReference]
        first | (intro acts; rw [hr _ acts rfl rfl rfl]) | rw [hr _ _ rfl rfl rfl]
        exact Steps.refl _
      · show Q_rput2 Z .null a1 a2 0 x P zc h0 n0 _ T3.heap _
        exact ⟨b1, rfl, N3, K4, sz_b1, own_putN ⟨r0_3, r1_3, r2_3, r3_3, r4_3, r5_3⟩ (g_Str_a1.ext (own_ke K4)) hkx hP0⟩
    · skip
      obtain ⟨gq, aq, kaq, vaq, xq, vlq, vrq, nlq, nrq, PLq, PRq, efq, evq, Nq, Sq, hxq, hnq, b1q, b2q, TLq, TRq, p1q, p2q, hPq⟩ := own_open g_Tree_u (Nat.pos_of_ne_zero hn0)
      subst evq
      obtain rfl : gq = 1 := by omega
      have qlq := TLq.le
      have qrq := TRq.le
      refine Gl.step (B := (s₁.setTop (mkF m 18 #[.val (.ref aq), .val (.ref a1), .val (.ref a2), .unset] [(.ref aq), (.ref a1)]))) (fun t k => XS.aloadN X0.here hx rfl (hb hby d13_0) rfl rfl (XS.ifnonnullYes X0.here hx rfl (pc0 := 1) (pc' := 16) rfl (hb hby d13_1) rfl (by decide) (by decide) (XS.aloadN X0.here hx rfl (hb hby d13_16) rfl rfl (XS.aloadN X0.here hx rfl (hb hby d13_17) rfl rfl k)))) ?_
      obtain ⟨T5, X5, e5, st5⟩ := own_getFR X0 hx hZ hown (t95 hw) e0 Nq.2.1 (g := (mkF m 18 #[.val (.ref aq), .val (.ref a1), .val (.ref a2), .unset] [(.ref aq), (.ref a1)])) rfl rfl (hb hby d13_18)
      refine Gl.step (B := (T5.setTop (mkF m 21 #[.val (.ref aq), .val (.ref a1), .val (.ref a2), .unset] [(.ref kaq), (.ref a1)]))) st5 ?_
      obtain ⟨cq6, kq6, q6a, q6b, q6c⟩ := isOf hZ e5 g_Str_a1.1
      obtain ⟨_, _, ⟨T6, L6, c6, z6⟩, -, X6, ⟨Lc6, hQ6, l6, y6, zz6⟩, st6⟩ := X5.virtualBack hx (y := y11) (z := y11) hown (mvT hZ (t96 hw)) (mvT hZ (t97 hw)) (notFace_of_selects (args := #[]) (mvT hZ (t99 hw))) (mvT hZ (t99 hw)) (mvT hZ (t98 hw)) (by decide) (backOf (W := 0) (rcmp l Z a0 hw [] a1 kaq x xq zc h0 n0 O0 pm0 (hz) g_Str_a1 Sq (hkx) (hxq)) hZ (t100 hw) (t7 hw) (by decide) (by decide)) q6a q6c (g := (mkF m 21 #[.val (.ref aq), .val (.ref a1), .val (.ref a2), .unset] [(.ref kaq), (.ref a1)])) rfl (by rw [hml]; rfl) (Steps.refl _) (argsL := [(.ref kaq)]) (rest := []) (lenOf pd__Ljava_lang_String__I rfl) rfl (by show 2 * 0 + _ ≤ _; exact Nat.le_of_eq rfl) (hb hby d13_21) (fun _ _ => ⟨rfl, e5, (by decide : 0 + 0 ≤ _), (by decide : 0 + 0 ≤ _)⟩)
      dsimp only [Pt.U, Pt.locs, Pt.cells, Pt.slots] at X6 l6 y6 zz6 st6 hQ6
      subst y6 zz6
      obtain ⟨rfl, N6q, eh6⟩ := hQ6
      have N6 : Fr n0 L6 := Eq.mpr (congrArg (Fr n0) l6) (Fr.app N0 N6q)
      refine Gl.tr (B := (T6.setTop (mkF m 24 #[.val (.ref aq), .val (.ref a1), .val (.ref a2), .unset] [(.int (x - xq))]))) st6 ?_
      refine Gl.step (B := (T6.setTop (mkF m 26 #[.val (.ref aq), .val (.ref a1), .val (.ref a2), .val (.int (x - xq))] [(.int (x - xq))]))) (fun t k => XS.istoreN X6.here hx rfl (hb hby d13_24) rfl (l' := #[.val (.ref aq), .val (.ref a1), .val (.ref a2), .val (.int (x - xq))]) rfl (XS.iloadN X6.here hx rfl (hb hby d13_25) rfl k)) ?_
      by_cases h1 : x < xq
      · skip
        refine Gl.step (B := (T6.setTop (mkF m 30 #[.val (.ref aq), .val (.ref a1), .val (.ref a2), .val (.int (x - xq))] [(.ref aq)]))) (fun t k => XS.ifNo X6.here hx rfl (hb hby d13_26) rfl ((if0 _ _).trans (tlt (own_clt hkx hxq h1 : (x - xq) < (0 : Int32))).2.1) (XS.aloadN X6.here hx rfl (hb hby d13_29) rfl rfl k)) ?_
        obtain ⟨T7, X7, e7, st7⟩ := own_getFR X6 hx hZ hown (t95 hw) eh6 Nq.2.1 (g := (mkF m 30 #[.val (.ref aq), .val (.ref a1), .val (.ref a2), .val (.int (x - xq))] [(.ref aq)])) rfl rfl (hb hby d13_30)
        refine Gl.step (B := (T7.setTop (mkF m 33 #[.val (.ref aq), .val (.ref a1), .val (.ref a2), .val (.int (x - xq))] [(.ref kaq)]))) st7 ?_
        refine Gl.step (B := (T7.setTop (mkF m 34 #[.val (.ref aq), .val (.ref a1), .val (.ref a2), .val (.int (x - xq))] [(.ref aq), (.ref kaq)]))) (fun t k => XS.aloadN X7.here hx rfl (hb hby d13_33) rfl rfl k) ?_
        obtain ⟨T8, X8, e8, st8⟩ := own_getFR X7 hx hZ hown (t120 hw) e7 Nq.2.2.1 (g := (mkF m 34 #[.val (.ref aq), .val (.ref a1), .val (.ref a2), .val (.int (x - xq))] [(.ref aq), (.ref kaq)])) rfl rfl (hb hby d13_34)
        refine Gl.step (B := (T8.setTop (mkF m 37 #[.val (.ref aq), .val (.ref a1), .val (.ref a2), .val (.int (x - xq))] [(.ref vaq), (.ref kaq)]))) st8 ?_
        refine Gl.step (B := (T8.setTop (mkF m 38 #[.val (.ref aq), .val (.ref a1), .val (.ref a2), .val (.int (x - xq))] [(.ref aq), (.ref vaq), (.ref kaq)]))) (fun t k => XS.aloadN X8.here hx rfl (hb hby d13_37) rfl rfl k) ?_
        obtain ⟨T9, X9, e9, st9⟩ := own_getFR X8 hx hZ hown (t121 hw) e8 Nq.2.2.2.1 (g := (mkF m 38 #[.val (.ref aq), .val (.ref a1), .val (.ref a2), .val (.int (x - xq))] [(.ref aq), (.ref vaq), (.ref kaq)])) rfl rfl (hb hby d13_38)
        refine Gl.step (B := (T9.setTop (mkF m 41 #[.val (.ref aq), .val (.ref a1), .val (.ref a2), .val (.int (x - xq))] [vlq, (.ref vaq), (.ref kaq)]))) st9 ?_
        refine Gl.step (B := (T9.setTop (mkF m 43 #[.val (.ref aq), .val (.ref a1), .val (.ref a2), .val (.int (x - xq))] [(.ref a2), (.ref a1), vlq, (.ref vaq), (.ref kaq)]))) (fun t k => XS.aloadN X9.here hx rfl (hb hby d13_41) rfl rfl (XS.aloadN X9.here hx rfl (hb hby d13_42) rfl rfl k)) ?_
        obtain ⟨_, _, ⟨T10, L10, c10, z10⟩, -, X10, ⟨Lc10, hQ10, l10, y10, zz10⟩, st10⟩ := Jvm.LawKit.callS X9 hx (y := y16) hown (mvT hZ (t68 hw)) (mvT hZ (t69 hw)) (mvT hZ (t36 hw)) (mvT hZ (t70 hw)) (by decide) (backOf (W := 2) (rput1 l Z a0 hw [] vlq a1 a2 nlq x PLq zc h0 n0 O0 pm0 (hz) g_Str_a1 (hkx) TLq) hZ (t70 hw) (t36 hw) (by decide) (by decide)) (g := (mkF m 43 #[.val (.ref aq), .val (.ref a1), .val (.ref a2), .val (.int (x - xq))] [(.ref a2), (.ref a1), vlq, (.ref vaq), (.ref kaq)])) rfl (by rw [hml]; rfl) (argsL := [vlq, (.ref a1), (.ref a2)]) (rest := [(.ref vaq), (.ref kaq)]) (lenOf pd__Lcom_example_isogloss_isogloss_util_PersistentMap_Node_Ljava_lang_String_Ljava_lang_Object__Lcom_example_isogloss_isogloss_util_PersistentMap_Node_ rfl) rfl (by show 2 * 0 + _ ≤ _; exact Nat.le_of_eq rfl) (hb hby d13_43) (fun _ _ => ⟨rfl, e9, (by decide : 0 + 4 ≤ _), (by decide : 0 + 20 ≤ _)⟩)
        dsimp only [Pt.U, Pt.locs, Pt.cells, Pt.slots] at X10 l10 y10 zz10 st10 hQ10
        subst y10 zz10
        obtain ⟨b_10, rfl, N10q, Kc10, r0_10, hT_10⟩ := hQ10
        have N10 : Fr n0 L10 := Eq.mpr (congrArg (Fr n0) l10) (Fr.app N6 N10q)
        have ge_b_10 : n0 ≤ b_10 := Nat.le_trans (own_oz O0) r0_10
        have sz_b_10 : h0.size ≤ b_10 := Nat.le_trans K0.1 r0_10
        have O11 : Old Z n0 T10.heap := O0.keep Kc10 all0
        have K11 : Keep h0 T10.heap [] := K0.trans Kc10 all0
        refine Gl.step (B := (T10.setTop (mkF m 46 #[.val (.ref aq), .val (.ref a1), .val (.ref a2), .val (.int (x - xq))] [(.ref b_10), (.ref vaq), (.ref kaq)]))) st10 ?_
        refine Gl.step (B := (T10.setTop (mkF m 47 #[.val (.ref aq), .val (.ref a1), .val (.ref a2), .val (.int (x - xq))] [(.ref aq), (.ref b_10), (.ref vaq), (.ref kaq)]))) (fun t k => XS.aloadN X10.here hx rfl (hb hby d13_46) rfl rfl k) ?_
        have f12 := (Nq.2.2.2.2.1.ext (own_ke K11))
        obtain ⟨T13, X13, e13, st13⟩ := own_getFR X10 hx hZ hown (t122 hw) rfl f12 (g := (mkF m 47 #[.val (.ref aq), .val (.ref a1), .val (.ref a2), .val (.int (x - xq))] [(.ref aq), (.ref b_10), (.ref vaq), (.ref kaq)])) rfl rfl (hb hby d13_47)
        refine Gl.step (B := (T13.setTop (mkF m 50 #[.val (.ref aq), .val (.ref a1), .val (.ref a2), .val (.int (x - xq))] [vrq, (.ref b_10), (.ref vaq), (.ref kaq)]))) st13 ?_
        obtain ⟨n1, T1, u1, u2⟩ := hT_10
        have f14 := (Sq.ext (own_ke K11))
        have f15 := (TRq.up.ext (own_ke K11))
        obtain ⟨_, _, ⟨T16, L16, c16, z16⟩, -, X16, ⟨Lc16, hQ16, l16, y16, zz16⟩, st16⟩ := Jvm.LawKit.callS X13 hx (y := y15) hown (mvT hZ (t135 hw)) (mvT hZ (t136 hw)) (mvT hZ (t36 hw)) (mvT hZ (t137 hw)) (by decide) (backOf (W := 0) (rbal l Z a0 hw [] kaq vaq (.ref b_10) vrq 2 n1 nrq xq (fun k => k = x ∨ PLq k) PRq T10.heap n0 O11 f14 (hxq) (T1) f15 (by omega) (by decide) (own_oL h1 p1q) (p2q)) hZ (t137 hw) (t36 hw) (by decide) (by decide)) (g := (mkF m 50 #[.val (.ref aq), .val (.ref a1), .val (.ref a2), .val (.int (x - xq))] [vrq, (.ref b_10), (.ref vaq), (.ref kaq)])) rfl (by rw [hml]; rfl) (argsL := [(.ref kaq), (.ref vaq), (.ref b_10), vrq]) (rest := []) (lenOf pd__Ljava_lang_String_Ljava_lang_Object_Lcom_example_isogloss_isogloss_util_PersistentMap_Node_Lcom_example_isogloss_isogloss_util_PersistentMap_Node__Lcom_example_isogloss_isogloss_util_PersistentMap_Node_ rfl) rfl (by show 2 * 0 + _ ≤ _; exact Nat.le_of_eq rfl) (hb hby d13_50) (fun _ _ => ⟨rfl, e13, (by decide : 4 + 3 ≤ _), (by decide : 20 + 15 ≤ _)⟩)
        dsimp only [Pt.U, Pt.locs, Pt.cells, Pt.slots] at X16 l16 y16 zz16 st16 hQ16
        subst y16 zz16
        obtain ⟨b_16, rfl, N16q, Kc16, r0_16, hT_16⟩ := hQ16
        have N16 : Fr n0 L16 := Eq.mpr (congrArg (Fr n0) l16) (Fr.app N10 N16q)
        have ge_b_16 : n0 ≤ b_16 := Nat.le_trans (own_oz O11) r0_16
        have sz_b_16 : h0.size ≤ b_16 := Nat.le_trans K11.1 r0_16
        have O17 : Old Z n0 T16.heap := O11.keep Kc16 all0
        have K17 : Keep h0 T16.heap [] := K11.trans Kc16 all0
        refine Gl.step (B := (T16.setTop (mkF m 53 #[.val (.ref aq), .val (.ref a1), .val (.ref a2), .val (.int (x - xq))] [(.ref b_16)]))) st16 ?_
        obtain ⟨fs, hr, hrun, hended, hW, hsame⟩ := X16.leave (v := some (.ref b_16)) (fun h => by rw [Bd.returns] at h; cases h)
        refine ⟨_, _, ?_, hrun, hended, _, _, rfl, ?_, ⟨_, rfl⟩, hW, hsame.mono (by decide) (by decide)⟩
        · show Steps p.tables e below (T16.setTop (mkF m 53 #[.val (.ref aq), .val (.ref a1), .val (.ref a2), .val (.int (x - xq))] [(.ref b_16)])) _
          jvm_step X16.here [X16.here.top, hx, (hb hby d13_53), X16.method', Bd.returns, Value.isRef, FieldType.isReference]
          first | (intro acts; rw [hr _ acts rfl rfl rfl]) | rw [hr _ _ rfl rfl rfl]
          exact Steps.refl _
        · show Q_rput2 Z (.ref aq) a1 a2 n x P zc h0 n0 _ T16.heap _
          exact ⟨b_16, rfl, N16, K17, sz_b_16, own_putL hT_16 hnq b1q b2q u1 u2 hPq⟩
      · skip
        by_cases h2 : xq < x
        · skip
          refine Gl.step (B := (T6.setTop (mkF m 59 #[.val (.ref aq), .val (.ref a1), .val (.ref a2), .val (.int (x - xq))] [(.ref aq)]))) (fun t k => XS.ifYes X6.here hx rfl (pc0 := 26) (pc' := 54) rfl (hb hby d13_26) rfl ((if0 _ _).trans (flt (own_cnl hkx hxq h1 : ¬ ((x - xq) < (0 : Int32)))).2.1) (by decide) (by decide) (XS.iloadN X6.here hx rfl (hb hby d13_54) rfl (XS.ifNo X6.here hx rfl (hb hby d13_55) rfl ((if0 _ _).trans (tlt (own_cgt hkx hxq h2 : (0 : Int32) < (x - xq))).2.2.2) (XS.aloadN X6.here hx rfl (hb hby d13_58) rfl rfl k)))) ?_
          obtain ⟨T18, X18, e18, st18⟩ := own_getFR X6 hx hZ hown (t95 hw) eh6 Nq.2.1 (g := (mkF m 59 #[.val (.ref aq), .val (.ref a1), .val (.ref a2), .val (.int (x - xq))] [(.ref aq)])) rfl rfl (hb hby d13_59)
          refine Gl.step (B := (T18.setTop (mkF m 62 #[.val (.ref aq), .val (.ref a1), .val (.ref a2), .val (.int (x - xq))] [(.ref kaq)]))) st18 ?_
          refine Gl.step (B := (T18.setTop (mkF m 63 #[.val (.ref aq), .val (.ref a1), .val (.ref a2), .val (.int (x - xq))] [(.ref aq), (.ref kaq)]))) (fun t k => XS.aloadN X18.here hx rfl (hb hby d13_62) rfl rfl k) ?_
          obtain ⟨T19, X19, e19, st19⟩ := own_getFR X18 hx hZ hown (t120 hw) e18 Nq.2.2.1 (g := (mkF m 63 #[.val (.ref aq), .val (.ref a1), .val (.ref a2), .val (.int (x - xq))] [(.ref aq), (.ref kaq)])) rfl rfl (hb hby d13_63)
          refine Gl.step (B := (T19.setTop (mkF m 66 #[.val (.ref aq), .val (.ref a1), .val (.ref a2), .val (.int (x - xq))] [(.ref vaq), (.ref kaq)]))) st19 ?_
          refine Gl.step (B := (T19.setTop (mkF m 67 #[.val (.ref aq), .val (.ref a1), .val (.ref a2), .val (.int (x - xq))] [(.ref aq), (.ref vaq), (.ref kaq)]))) (fun t k => XS.aloadN X19.here hx rfl (hb hby d13_66) rfl rfl k) ?_
          obtain ⟨T20, X20, e20, st20⟩ := own_getFR X19 hx hZ hown (t121 hw) e19 Nq.2.2.2.1 (g := (mkF m 67 #[.val (.ref aq), .val (.ref a1), .val (.ref a2), .val (.int (x - xq))] [(.ref aq), (.ref vaq), (.ref kaq)])) rfl rfl (hb hby d13_67)
          refine Gl.step (B := (T20.setTop (mkF m 70 #[.val (.ref aq), .val (.ref a1), .val (.ref a2), .val (.int (x - xq))] [vlq, (.ref vaq), (.ref kaq)]))) st20 ?_
          refine Gl.step (B := (T20.setTop (mkF m 71 #[.val (.ref aq), .val (.ref a1), .val (.ref a2), .val (.int (x - xq))] [(.ref aq), vlq, (.ref vaq), (.ref kaq)]))) (fun t k => XS.aloadN X20.here hx rfl (hb hby d13_70) rfl rfl k) ?_
          obtain ⟨T21, X21, e21, st21⟩ := own_getFR X20 hx hZ hown (t122 hw) e20 Nq.2.2.2.2.1 (g := (mkF m 71 #[.val (.ref aq), .val (.ref a1), .val (.ref a2), .val (.int (x - xq))] [(.ref aq), vlq, (.ref vaq), (.ref kaq)])) rfl rfl (hb hby d13_71)
          refine Gl.step (B := (T21.setTop (mkF m 74 #[.val (.ref aq), .val (.ref a1), .val (.ref a2), .val (.int (x - xq))] [vrq, vlq, (.ref vaq), (.ref kaq)]))) st21 ?_
          refine Gl.step (B := (T21.setTop (mkF m 76 #[.val (.ref aq), .val (.ref a1), .val (.ref a2), .val (.int (x - xq))] [(.ref a2), (.ref a1), vrq, vlq, (.ref vaq), (.ref kaq)]))) (fun t k => XS.aloadN X21.here hx rfl (hb hby d13_74) rfl rfl (XS.aloadN X21.here hx rfl (hb hby d13_75) rfl rfl k)) ?_
          obtain ⟨_, _, ⟨T22, L22, c22, z22⟩, -, X22, ⟨Lc22, hQ22, l22, y22, zz22⟩, st22⟩ := Jvm.LawKit.callS X21 hx (y := y16) hown (mvT hZ (t68 hw)) (mvT hZ (t69 hw)) (mvT hZ (t36 hw)) (mvT hZ (t70 hw)) (by decide) (backOf (W := 3) (rput1 l Z a0 hw [] vrq a1 a2 nrq x PRq zc h0 n0 O0 pm0 (hz) g_Str_a1 (hkx) TRq) hZ (t70 hw) (t36 hw) (by decide) (by decide)) (g := (mkF m 76 #[.val (.ref aq), .val (.ref a1), .val (.ref a2), .val (.int (x - xq))] [(.ref a2), (.ref a1), vrq, vlq, (.ref vaq), (.ref kaq)])) rfl (by rw [hml]; rfl) (argsL := [vrq, (.ref a1), (.ref a2)]) (rest := [vlq, (.ref vaq), (.ref kaq)]) (lenOf pd__Lcom_example_isogloss_isogloss_util_PersistentMap_Node_Ljava_lang_String_Ljava_lang_Object__Lcom_example_isogloss_isogloss_util_PersistentMap_Node_ rfl) rfl (by show 2 * 0 + (vlq.category + (1 + (1 + (0)))) ≤ _; have w_vlq := own_cat TLq.isRef; omega) (hb hby d13_76) (fun _ _ => ⟨rfl, e21, (by decide : 0 + 4 ≤ _), (by decide : 0 + 20 ≤ _)⟩)
          dsimp only [Pt.U, Pt.locs, Pt.cells, Pt.slots] at X22 l22 y22 zz22 st22 hQ22
          subst y22 zz22
          obtain ⟨b_22, rfl, N22q, Kc22, r0_22, hT_22⟩ := hQ22
          have N22 : Fr n0 L22 := Eq.mpr (congrArg (Fr n0) l22) (Fr.app N6 N22q)
          have ge_b_22 : n0 ≤ b_22 := Nat.le_trans (own_oz O0) r0_22
          have sz_b_22 : h0.size ≤ b_22 := Nat.le_trans K0.1 r0_22
          have O23 : Old Z n0 T22.heap := O0.keep Kc22 all0
          have K23 : Keep h0 T22.heap [] := K0.trans Kc22 all0
          refine Gl.step (B := (T22.setTop (mkF m 79 #[.val (.ref aq), .val (.ref a1), .val (.ref a2), .val (.int (x - xq))] [(.ref b_22), vlq, (.ref vaq), (.ref kaq)]))) st22 ?_
          obtain ⟨n1, T1, u1, u2⟩ := hT_22
          have f24 := (Sq.ext (own_ke K23))
          have f25 := (TLq.up.ext (own_ke K23))
          obtain ⟨_, _, ⟨T26, L26, c26, z26⟩, -, X26, ⟨Lc26, hQ26, l26, y26, zz26⟩, st26⟩ := Jvm.LawKit.callS X22 hx (y := y15) hown (mvT hZ (t135 hw)) (mvT hZ (t136 hw)) (mvT hZ (t36 hw)) (mvT hZ (t137 hw)) (by decide) (backOf (W := 0) (rbal l Z a0 hw [] kaq vaq vlq (.ref b_22) 2 nlq n1 xq PLq (fun k => k = x ∨ PRq k) T22.heap n0 O23 f24 (hxq) f25 (T1) (by omega) (by decide) (p1q) (own_oR h2 p2q)) hZ (t137 hw) (t36 hw) (by decide) (by decide)) (g := (mkF m 79 #[.val (.ref aq), .val (.ref a1), .val (.ref a2), .val (.int (x - xq))] [(.ref b_22), vlq, (.ref vaq), (.ref kaq)])) rfl (by rw [hml]; rfl) (argsL := [(.ref kaq), (.ref vaq), vlq, (.ref b_22)]) (rest := []) (lenOf pd__Ljava_lang_String_Ljava_lang_Object_Lcom_example_isogloss_isogloss_util_PersistentMap_Node_Lcom_example_isogloss_isogloss_util_PersistentMap_Node__Lcom_example_isogloss_isogloss_util_PersistentMap_Node_ rfl) rfl (by show 2 * 0 + _ ≤ _; exact Nat.le_of_eq rfl) (hb hby d13_79) (fun _ _ => ⟨rfl, rfl, (by decide : 4 + 3 ≤ _), (by decide : 20 + 15 ≤ _)⟩)
          dsimp only [Pt.U, Pt.locs, Pt.cells, Pt.slots] at X26 l26 y26 zz26 st26 hQ26
          subst y26 zz26
          obtain ⟨b_26, rfl, N26q, Kc26, r0_26, hT_26⟩ := hQ26
          have N26 : Fr n0 L26 := Eq.mpr (congrArg (Fr n0) l26) (Fr.app N22 N26q)
          have ge_b_26 : n0 ≤ b_26 := Nat.le_trans (own_oz O23) r0_26
          have sz_b_26 : h0.size ≤ b_26 := Nat.le_trans K23.1 r0_26
          have O27 : Old Z n0 T26.heap := O23.keep Kc26 all0
          have K27 : Keep h0 T26.heap [] := K23.trans Kc26 all0
          refine Gl.step (B := (T26.setTop (mkF m 82 #[.val (.ref aq), .val (.ref a1), .val (.ref a2), .val (.int (x - xq))] [(.ref b_26)]))) st26 ?_
          obtain ⟨fs, hr, hrun, hended, hW, hsame⟩ := X26.leave (v := some (.ref b_26)) (fun h => by rw [Bd.returns] at h; cases h)
          refine ⟨_, _, ?_, hrun, hended, _, _, rfl, ?_, ⟨_, rfl⟩, hW, hsame.mono (by decide) (by decide)⟩
          · show Steps p.tables e below (T26.setTop (mkF m 82 #[.val (.ref aq), .val (.ref a1), .val (.ref a2), .val (.int (x - xq))] [(.ref b_26)])) _
            jvm_step X26.here [X26.here.top, hx, (hb hby d13_82), X26.method', Bd.returns, Value.isRef, FieldType.isReference]
            first | (intro acts; rw [hr _ acts rfl rfl rfl]) | rw [hr _ _ rfl rfl rfl]
            exact Steps.refl _
          · show Q_rput2 Z (.ref aq) a1 a2 n x P zc h0 n0 _ T26.heap _
            exact ⟨b_26, rfl, N26, K27, sz_b_26, own_putR hT_26 hnq b1q b2q u1 u2 hPq⟩
        · skip
          refine Gl.step (B := (T6.setTop (mkF m 83 #[.val (.ref aq), .val (.ref a1), .val (.ref a2), .val (.int (x - xq))] []))) (fun t k => XS.ifYes X6.here hx rfl (pc0 := 26) (pc' := 54) rfl (hb hby d13_26) rfl ((if0 _ _).trans (flt (own_cnl hkx hxq h1 : ¬ ((x - xq) < (0 : Int32)))).2.1) (by decide) (by decide) (XS.iloadN X6.here hx rfl (hb hby d13_54) rfl (XS.ifYes X6.here hx rfl (pc0 := 55) (pc' := 83) rfl (hb hby d13_55) rfl ((if0 _ _).trans (flt (own_cng hkx hxq h2 : ¬ ((0 : Int32) < (x - xq)))).2.2.2) (by decide) (by decide) k))) ?_
          obtain ⟨T28, h28, X28, e28, E28, A28, D28, -, st28⟩ := newO X6 hx hZ hown (t71 hw) (t72 hw) (t73 hw) eh6 (g := (mkF m 83 #[.val (.ref aq), .val (.ref a1), .val (.ref a2), .val (.int (x - xq))] [])) rfl (hb hby d13_83) (by decide) (by decide)
          obtain ⟨b28, g28⟩ : ∃ z, z = h0.size := ⟨_, rfl⟩
          rw [← g28] at A28 D28 st28
          have ge_b28 : n0 ≤ b28 := Nat.le_trans (own_oz O0) (Nat.le_of_eq g28.symm)
          have sz_b28 : h0.size ≤ b28 := Nat.le_trans K0.1 (Nat.le_of_eq g28.symm)
          have O29 : Old Z n0 h28 := O0.ext E28
          have K29 : Keep h0 h28 [] := K0.ext E28
          have F28_key : Fld Z h28 b28 own_ND "key" "Ljava/lang/String;" .null := D28 (Or.inr (t79 hw)) (ty := (.object "java/lang/String")) (by decide)
          have F28_value : Fld Z h28 b28 own_ND "value" "Ljava/lang/Object;" .null := D28 (Or.inr (t81 hw)) (ty := (.object "java/lang/Object")) (by decide)
          have F28_left : Fld Z h28 b28 own_ND "left" own_LN .null := D28 (Or.inr (t83 hw)) (ty := (.object "com/example/isogloss/isogloss/util/PersistentMap$Node")) (by decide)
          have F28_right : Fld Z h28 b28 own_ND "right" own_LN .null := D28 (Or.inr (t85 hw)) (ty := (.object "com/example/isogloss/isogloss/util/PersistentMap$Node")) (by decide)
          have F28_height : Fld Z h28 b28 own_ND "height" "I" (.int (0 : Int32)) := D28 (Or.inr (t94 hw)) (ty := .int) (by decide)
          refine Gl.step (B := (T28.setTop (mkF m 86 #[.val (.ref aq), .val (.ref a1), .val (.ref a2), .val (.int (x - xq))] [(.ref b28)]))) st28 ?_
          refine Gl.step (B := (T28.setTop (mkF m 90 #[.val (.ref aq), .val (.ref a1), .val (.ref a2), .val (.int (x - xq))] [(.ref aq), (.ref a2), (.ref a1), (.ref b28), (.ref b28)]))) (fun t k => XS.dup X28.here hx rfl (hb hby d13_86) rfl rfl (XS.aloadN X28.here hx rfl (hb hby d13_87) rfl rfl (XS.aloadN X28.here hx rfl (hb hby d13_88) rfl rfl (XS.aloadN X28.here hx rfl (hb hby d13_89) rfl rfl k)))) ?_
          have f30 := (Nq.2.2.2.1.ext (own_ke K29))
          obtain ⟨T31, X31, e31, st31⟩ := own_getFR X28 hx hZ hown (t121 hw) e28 f30 (g := (mkF m 90 #[.val (.ref aq), .val (.ref a1), .val (.ref a2), .val (.int (x - xq))] [(.ref aq), (.ref a2), (.ref a1), (.ref b28), (.ref b28)])) rfl rfl (hb hby d13_90)
          refine Gl.step (B := (T31.setTop (mkF m 93 #[.val (.ref aq), .val (.ref a1), .val (.ref a2), .val (.int (x - xq))] [vlq, (.ref a2), (.ref a1), (.ref b28), (.ref b28)]))) st31 ?_
          refine Gl.step (B := (T31.setTop (mkF m 94 #[.val (.ref aq), .val (.ref a1), .val (.ref a2), .val (.int (x - xq))] [(.ref aq), vlq, (.ref a2), (.ref a1), (.ref b28), (.ref b28)]))) (fun t k => XS.aloadN X31.here hx rfl (hb hby d13_93) rfl rfl k) ?_
          have f32 := (Nq.2.2.2.2.1.ext (own_ke K29))
          obtain ⟨T33, X33, e33, st33⟩ := own_getFR X31 hx hZ hown (t122 hw) e31 f32 (g := (mkF m 94 #[.val (.ref aq), .val (.ref a1), .val (.ref a2), .val (.int (x - xq))] [(.ref aq), vlq, (.ref a2), (.ref a1), (.ref b28), (.ref b28)])) rfl rfl (hb hby d13_94)
          refine Gl.step (B := (T33.setTop (mkF m 97 #[.val (.ref aq), .val (.ref a1), .val (.ref a2), .val (.int (x - xq))] [vrq, vlq, (.ref a2), (.ref a1), (.ref b28), (.ref b28)]))) st33 ?_
          have f34 := (TLq.ht.ext (own_ke K29))
          have f35 := (TRq.ht.ext (own_ke K29))
          obtain ⟨_, _, ⟨T36, L36, c36, z36⟩, -, X36, ⟨Lc36, hQ36, l36, y36, zz36⟩, st36⟩ := own_specialRef X33 hx hZ (y := y4) rfl hown (t74 hw) (t76 hw) (mvT hZ (t75 hw)) (mvT hZ (t76 hw)) (by decide) (backOf (W := 1) (rnV l Z a0 hw [] b28 a1 a2 vlq vrq nlq nrq h28 n0 O29 A28 F28_key F28_value F28_left F28_right F28_height ge_b28 f34 f35 (TLq.ht.nf sz_b28) (TRq.ht.nf sz_b28) ((by omega))) hZ (t76 hw) (t73 hw) (by decide) (by decide)) (g := (mkF m 97 #[.val (.ref aq), .val (.ref a1), .val (.ref a2), .val (.int (x - xq))] [vrq, vlq, (.ref a2), (.ref a1), (.ref b28), (.ref b28)])) rfl (by rw [hml]; rfl) (a := b28) (argsL := [(.ref a1), (.ref a2), vlq, vrq]) (rest := [(.ref b28)]) (lenOf pd__Ljava_lang_String_Ljava_lang_Object_Lcom_example_isogloss_isogloss_util_PersistentMap_Node_Lcom_example_isogloss_isogloss_util_PersistentMap_Node__V rfl) rfl (by show 2 * 0 + _ ≤ _; exact Nat.le_of_eq rfl) (hb hby d13_97) (fun _ _ => ⟨rfl, e33, (by decide : 1 + 0 ≤ _), (by decide : 5 + 0 ≤ _)⟩)
          dsimp only [Pt.U, Pt.locs, Pt.cells, Pt.slots] at X36 l36 y36 zz36 st36 hQ36
          subst y36 zz36
          obtain ⟨rfl, N36q, Kc36, r0_36, r1_36, r2_36, r3_36, r4_36, r5_36⟩ := hQ36
          have N36 : Fr n0 L36 := Eq.mpr (congrArg (Fr n0) l36) (Fr.app N6 N36q)
          have O37 : Old Z n0 T36.heap := O29.keep Kc36 (allS ge_b28 all0)
          have K37 : Keep h0 T36.heap [] := K29.trans Kc36 (allS (Or.inr sz_b28) all0)
          refine Gl.tr (B := (T36.setTop (mkF m 100 #[.val (.ref aq), .val (.ref a1), .val (.ref a2), .val (.int (x - xq))] [(.ref b28)]))) st36 ?_
          obtain ⟨fs, hr, hrun, hended, hW, hsame⟩ := X36.leave (v := some (.ref b28)) (fun h => by rw [Bd.returns] at h; cases h)
          refine ⟨_, _, ?_, hrun, hended, _, _, rfl, ?_, ⟨_, rfl⟩, hW, hsame.mono (by decide) (by decide)⟩
          · show Steps p.tables e below (T36.setTop (mkF m 100 #[.val (.ref aq), .val (.ref a1), .val (.ref a2), .val (.int (x - xq))] [(.ref b28)])) _
            jvm_step X36.here [X36.here.top, hx, (hb hby d13_100), X36.method', Bd.returns, Value.isRef, FieldType.isReference]
            first | (intro acts; rw [hr _ acts rfl rfl rfl]) | rw [hr _ _ rfl rfl rfl]
            exact Steps.refl _
          · show Q_rput2 Z (.ref aq) a1 a2 n x P zc h0 n0 _ T36.heap _
            exact ⟨b28, rfl, N36, K37, sz_b28, own_putE (f := 1) ⟨r0_36, r1_36, r2_36, r3_36, r4_36, r5_36⟩ (g_Str_a1.ext (own_ke K37)) hkx (TLq.ext (own_ke K37)) (TRq.ext (own_ke K37)) (own_tri h1 h2) hnq b1q b2q p1q p2q hPq⟩
  obtain ⟨s₂, o, g1, g2, g3, g4⟩ := go
  exact ⟨s₂, o, castTop (ef_rput2 m u a1 a2 g_Tree_u.isRef) g1, g2, g3, g4⟩
theorem ef_rput3 (m : MethodId) (x0 : Value) (x1 : Addr) (x2 : Addr) (hx0 : x0.isRef = true) : entryFrame m #[x0, (.ref x1), (.ref x2)] 4 = mkF m 0 #[.val x0, .val (.ref x1), .val (.ref x2), .unset] [] := by rcases ref_cases hx0 with rfl | ⟨_, rfl⟩ <;> first | (simp [entryFrame, mkF, argsToLocals, Value.category]; done) | rfl
def Q_rput3 (Z : State) (u : Value) (a1 : Addr) (a2 : Addr) (n : Nat) (x : Int32) (P : Int32 → Prop) (zc : Int32) (h0 : Heap) (n0 : Nat) (v : Option Value) (h : Heap) (L : List Loc) : Prop := ∃ b : Addr, v = some (.ref b) ∧ Fr n0 L ∧ Keep h0 h [] ∧ (h0.size ≤ b) ∧ (PutP Z h 3 n b x P)
set_option maxRecDepth 65536 in
set_option maxHeartbeats 40000000 in
theorem rput3 (l : Launch) (Z : State) (a0 : Array Value) (hw : ∀ d ∈ tables_1, d.before a0 Z = true) (ws : List Jvm.Cond) (u : Value) (a1 : Addr) (a2 : Addr) (n : Nat) (x : Int32) (P : Int32 → Prop) (zc : Int32) (h0 : Heap) (n0 : Nat) (O0 : Old Z n0 h0) (pm0 : Sta Z Z.heap "java/lang/String" "COMPACT_STRINGS" "Z" (.int zc)) (hz : ¬ (zc = (0 : Int32))) (g_Str_a1 : Str Z h0 a1 x) (hkx : Ky x) (g_Tree_u : Tree Z h0 3 n u P) :
    MetFree l y16 (head1 (Jvm.Cond.code y16 prog_164_method_11_code 4 (some (.object "com/example/isogloss/isogloss/util/PersistentMap$Node")) :: ws) ({ frames := 6, cells := 10, slots := 50, locals := 99 } : Room)) (fun a U => a = #[u, (.ref a1), (.ref a2)] ∧ Z.Warmed39 U.vm ∧ U.heap = h0) (fun _ _ _ _ _ => True) (fun _ U o U' => ∃ v L, o = .returned v ∧ Q_rput3 Z u a1 a2 n x P zc h0 n0 v U'.heap L ∧ FrameEnd U o U' L ({ frames := 6, cells := 10, slots := 50, locals := 99 } : Room).cells ({ frames := 6, cells := 10, slots := 50, locals := 99 } : Room).slots) := by
  refine MetFree.of_bodySF (plainFor_of_name pn_com_example_isogloss_isogloss_util_PersistentMap) hisR ?_
  intro p e s m args below meth c s₁ Bd hml0 hP hK
  obtain ⟨rfl, hZ, hh⟩ := hP
  have hx := Bd.exec
  have hby := Bd.bytes
  have hml : c.maxLocals = 4 := hml0
  have hown : s.vm.findClass own_PM = some m.cls := findClass_of_methodNamed Bd.named
  have hnm := (name_of_methodNamed Bd.named Bd.method).1
  have X0 : Stand p l e ({ frames := 6, cells := 10, slots := 50, locals := 99 } : Room) s m #[u, (.ref a1), (.ref a2)] below meth c s₁ [] 0 0 := Stand.of_body Bd
  have e0 : s₁.heap = h0 := by rw [← hh, Bd.state]; rfl
  have N0 := Fr.nil n0
  have K0 : Keep h0 h0 [] := Keep.refl h0 _
  have go : Gl p.tables e below (fun o U' => ∃ v L, o = .returned v ∧ Q_rput3 Z u a1 a2 n x P zc h0 n0 v U'.heap L ∧ FrameEnd s o U' L ({ frames := 6, cells := 10, slots := 50, locals := 99 } : Room).cells ({ frames := 6, cells := 10, slots := 50, locals := 99 } : Room).slots) (s₁.setTop (mkF m 0 #[.val u, .val (.ref a1), .val (.ref a2), .unset] [])) := by
    by_cases hn0 : n = 0
    · skip
      obtain ⟨hu0, hP0⟩ := own_zero g_Tree_u hn0
      subst hu0
      subst hn0
      refine Gl.step (B := (s₁.setTop (mkF m 4 #[.val .null, .val (.ref a1), .val (.ref a2), .unset] []))) (fun t k => XS.aloadN X0.here hx rfl (hb hby d13_0) rfl rfl (XS.ifnonnullNo X0.here hx rfl (hb hby d13_1) rfl k)) ?_
      obtain ⟨T1, h1, X1, e1, E1, A1, D1, -, st1⟩ := newO X0 hx hZ hown (t71 hw) (t72 hw) (t73 hw) e0 (g := (mkF m 4 #[.val .null, .val (.ref a1), .val (.ref a2), .unset] [])) rfl (hb hby d13_4) (by decide) (by decide)
      obtain ⟨b1, g1⟩ : ∃ z, z = h0.size := ⟨_, rfl⟩
      rw [← g1] at A1 D1 st1
      have ge_b1 : n0 ≤ b1 := Nat.le_trans (own_oz O0) (Nat.le_of_eq g1.symm)
      have sz_b1 : h0.size ≤ b1 := Nat.le_trans K0.1 (Nat.le_of_eq g1.symm)
      have O2 : Old Z n0 h1 := O0.ext E1
      have K2 : Keep h0 h1 [] := K0.ext E1
      have F1_key : Fld Z h1 b1 own_ND "key" "Ljava/lang/String;" .null := D1 (Or.inr (t79 hw)) (ty := (.object "java/lang/String")) (by decide)
      have F1_value : Fld Z h1 b1 own_ND "value" "Ljava/lang/Object;" .null := D1 (Or.inr (t81 hw)) (ty := (.object "java/lang/Object")) (by decide)
      have F1_left : Fld Z h1 b1 own_ND "left" own_LN .null := D1 (Or.inr (t83 hw)) (ty := (.object "com/example/isogloss/isogloss/util/PersistentMap$Node")) (by decide)
      have F1_right : Fld Z h1 b1 own_ND "right" own_LN .null := D1 (Or.inr (t85 hw)) (ty := (.object "com/example/isogloss/isogloss/util/PersistentMap$Node")) (by decide)
      have F1_height : Fld Z h1 b1 own_ND "height" "I" (.int (0 : Int32)) := D1 (Or.inr (t94 hw)) (ty := .int) (by decide)
      refine Gl.step (B := (T1.setTop (mkF m 7 #[.val .null, .val (.ref a1), .val (.ref a2), .unset] [(.ref b1)]))) st1 ?_
      refine Gl.step (B := (T1.setTop (mkF m 12 #[.val .null, .val (.ref a1), .val (.ref a2), .unset] [.null, .null, (.ref a2), (.ref a1), (.ref b1), (.ref b1)]))) (fun t k => XS.dup X1.here hx rfl (hb hby d13_7) rfl rfl (XS.aloadN X1.here hx rfl (hb hby d13_8) rfl rfl (XS.aloadN X1.here hx rfl (hb hby d13_9) rfl rfl (XS.aconstNull X1.here hx rfl (hb hby d13_10) (XS.aconstNull X1.here hx rfl (hb hby d13_11) k))))) ?_
      obtain ⟨_, _, ⟨T3, L3, c3, z3⟩, -, X3, ⟨Lc3, hQ3, l3, y3, zz3⟩, st3⟩ := own_specialRef X1 hx hZ (y := y4) rfl hown (t74 hw) (t76 hw) (mvT hZ (t75 hw)) (mvT hZ (t76 hw)) (by decide) (backOf (W := 1) (rnV l Z a0 hw [] b1 a1 a2 .null .null 0 0 h1 n0 O2 A1 F1_key F1_value F1_left F1_right F1_height ge_b1 (Or.inl ⟨rfl, rfl⟩) (Or.inl ⟨rfl, rfl⟩) (fun q => nomatch q) (fun q => nomatch q) ((by decide))) hZ (t76 hw) (t73 hw) (by decide) (by decide)) (g := (mkF m 12 #[.val .null, .val (.ref a1), .val (.ref a2), .unset] [.null, .null, (.ref a2), (.ref a1), (.ref b1), (.ref b1)])) rfl (by rw [hml]; rfl) (a := b1) (argsL := [(.ref a1), (.ref a2), .null, .null]) (rest := [(.ref b1)]) (lenOf pd__Ljava_lang_String_Ljava_lang_Object_Lcom_example_isogloss_isogloss_util_PersistentMap_Node_Lcom_example_isogloss_isogloss_util_PersistentMap_Node__V rfl) rfl (by show 2 * 0 + _ ≤ _; exact Nat.le_of_eq rfl) (hb hby d13_12) (fun _ _ => ⟨rfl, e1, (by decide : 1 + 0 ≤ _), (by decide : 5 + 0 ≤ _)⟩)
      dsimp only [Pt.U, Pt.locs, Pt.cells, Pt.slots] at X3 l3 y3 zz3 st3 hQ3
      subst y3 zz3
      obtain ⟨rfl, N3q, Kc3, r0_3, r1_3, r2_3, r3_3, r4_3, r5_3⟩ := hQ3
      have N3 : Fr n0 L3 := Eq.mpr (congrArg (Fr n0) l3) (Fr.app N0 N3q)
      have O4 : Old Z n0 T3.heap := O2.keep Kc3 (allS ge_b1 all0)
      have K4 : Keep h0 T3.heap [] := K2.trans Kc3 (allS (Or.inr sz_b1) all0)
      refine Gl.tr (B := (T3.setTop (mkF m 15 #[.val .null, .val (.ref a1), .val (.ref a2), .unset] [(.ref b1)]))) st3 ?_
      obtain ⟨fs, hr, hrun, hended, hW, hsame⟩ := X3.leave (v := some (.ref b1)) (fun h => by rw [Bd.returns] at h; cases h)
      refine ⟨_, _, ?_, hrun, hended, _, _, rfl, ?_, ⟨_, rfl⟩, hW, hsame.mono (by decide) (by decide)⟩
      · show Steps p.tables e below (T3.setTop (mkF m 15 #[.val .null, .val (.ref a1), .val (.ref a2), .unset] [(.ref b1)])) _
        jvm_step X3.here [X3.here.top, hx, (hb hby d13_15), X3.method', Bd.returns, Value.isRef, FieldType.isReference]
        first | (intro acts; rw [hr _ acts rfl rfl rfl]) | rw [hr _ _ rfl rfl rfl]
        exact Steps.refl _
      · show Q_rput3 Z .null a1 a2 0 x P zc h0 n0 _ T3.heap _
        exact ⟨b1, rfl, N3, K4, sz_b1, own_putN ⟨r0_3, r1_3, r2_3, r3_3, r4_3, r5_3⟩ (g_Str_a1.ext (own_ke K4)) hkx hP0⟩
    · skip
      obtain ⟨gq, aq, kaq, vaq, xq, vlq, vrq, nlq, nrq, PLq, PRq, efq, evq, Nq, Sq, hxq, hnq, b1q, b2q, TLq, TRq, p1q, p2q, hPq⟩ := own_open g_Tree_u (Nat.pos_of_ne_zero hn0)
      subst evq
      obtain rfl : gq = 2 := by omega
      have qlq := TLq.le
      have qrq := TRq.le
      refine Gl.step (B := (s₁.setTop (mkF m 18 #[.val (.ref aq), .val (.ref a1), .val (.ref a2), .unset] [(.ref aq), (.ref a1)]))) (fun t k => XS.aloadN X0.here hx rfl (hb hby d13_0) rfl rfl (XS.ifnonnullYes X0.here hx rfl (pc0 := 1) (pc' := 16) rfl (hb hby d13_1) rfl (by decide) (by decide) (XS.aloadN X0.here hx rfl (hb hby d13_16) rfl rfl (XS.aloadN X0.here hx rfl (hb hby d13_17) rfl rfl k)))) ?_
      obtain ⟨T5, X5, e5, st5⟩ := own_getFR X0 hx hZ hown (t95 hw) e0 Nq.2.1 (g := (mkF m 18 #[.val (.ref aq), .val (.ref a1), .val (.ref a2), .unset] [(.ref aq), (.ref a1)])) rfl rfl (hb hby d13_18)
      refine Gl.step (B := (T5.setTop (mkF m 21 #[.val (.ref aq), .val (.ref a1), .val (.ref a2), .unset] [(.ref kaq), (.ref a1)]))) st5 ?_
      obtain ⟨cq6, kq6, q6a, q6b, q6c⟩ := isOf hZ e5 g_Str_a1.1
      obtain ⟨_, _, ⟨T6, L6, c6, z6⟩, -, X6, ⟨Lc6, hQ6, l6, y6, zz6⟩, st6⟩ := X5.virtualBack hx (y := y11) (z := y11) hown (mvT hZ (t96 hw)) (mvT hZ (t97 hw)) (notFace_of_selects (args := #[]) (mvT hZ (t99 hw))) (mvT hZ (t99 hw)) (mvT hZ (t98 hw)) (by decide) (backOf (W := 0) (rcmp l Z a0 hw [] a1 kaq x xq zc h0 n0 O0 pm0 (hz) g_Str_a1 Sq (hkx) (hxq)) hZ (t100 hw) (t7 hw) (by decide) (by decide)) q6a q6c (g := (mkF m 21 #[.val (.ref aq), .val (.ref a1), .val (.ref a2), .unset] [(.ref kaq), (.ref a1)])) rfl (by rw [hml]; rfl) (Steps.refl _) (argsL := [(.ref kaq)]) (rest := []) (lenOf pd__Ljava_lang_String__I rfl) rfl (by show 2 * 0 + _ ≤ _; exact Nat.le_of_eq rfl) (hb hby d13_21) (fun _ _ => ⟨rfl, e5, (by decide : 0 + 0 ≤ _), (by decide : 0 + 0 ≤ _)⟩)
      dsimp only [Pt.U, Pt.locs, Pt.cells, Pt.slots] at X6 l6 y6 zz6 st6 hQ6
      subst y6 zz6
      obtain ⟨rfl, N6q, eh6⟩ := hQ6
      have N6 : Fr n0 L6 := Eq.mpr (congrArg (Fr n0) l6) (Fr.app N0 N6q)
      refine Gl.tr (B := (T6.setTop (mkF m 24 #[.val (.ref aq), .val (.ref a1), .val (.ref a2), .unset] [(.int (x - xq))]))) st6 ?_
      refine Gl.step (B := (T6.setTop (mkF m 26 #[.val (.ref aq), .val (.ref a1), .val (.ref a2), .val (.int (x - xq))] [(.int (x - xq))]))) (fun t k => XS.istoreN X6.here hx rfl (hb hby d13_24) rfl (l' := #[.val (.ref aq), .val (.ref a1), .val (.ref a2), .val (.int (x - xq))]) rfl (XS.iloadN X6.here hx rfl (hb hby d13_25) rfl k)) ?_
      by_cases h1 : x < xq
      · skip
        refine Gl.step (B := (T6.setTop (mkF m 30 #[.val (.ref aq), .val (.ref a1), .val (.ref a2), .val (.int (x - xq))] [(.ref aq)]))) (fun t k => XS.ifNo X6.here hx rfl (hb hby d13_26) rfl ((if0 _ _).trans (tlt (own_clt hkx hxq h1 : (x - xq) < (0 : Int32))).2.1) (XS.aloadN X6.here hx rfl (hb hby d13_29) rfl rfl k)) ?_
        obtain ⟨T7, X7, e7, st7⟩ := own_getFR X6 hx hZ hown (t95 hw) eh6 Nq.2.1 (g := (mkF m 30 #[.val (.ref aq), .val (.ref a1), .val (.ref a2), .val (.int (x - xq))] [(.ref aq)])) rfl rfl (hb hby d13_30)
        refine Gl.step (B := (T7.setTop (mkF m 33 #[.val (.ref aq), .val (.ref a1), .val (.ref a2), .val (.int (x - xq))] [(.ref kaq)]))) st7 ?_
        refine Gl.step (B := (T7.setTop (mkF m 34 #[.val (.ref aq), .val (.ref a1), .val (.ref a2), .val (.int (x - xq))] [(.ref aq), (.ref kaq)]))) (fun t k => XS.aloadN X7.here hx rfl (hb hby d13_33) rfl rfl k) ?_
        obtain ⟨T8, X8, e8, st8⟩ := own_getFR X7 hx hZ hown (t120 hw) e7 Nq.2.2.1 (g := (mkF m 34 #[.val (.ref aq), .val (.ref a1), .val (.ref a2), .val (.int (x - xq))] [(.ref aq), (.ref kaq)])) rfl rfl (hb hby d13_34)
        refine Gl.step (B := (T8.setTop (mkF m 37 #[.val (.ref aq), .val (.ref a1), .val (.ref a2), .val (.int (x - xq))] [(.ref vaq), (.ref kaq)]))) st8 ?_
        refine Gl.step (B := (T8.setTop (mkF m 38 #[.val (.ref aq), .val (.ref a1), .val (.ref a2), .val (.int (x - xq))] [(.ref aq), (.ref vaq), (.ref kaq)]))) (fun t k => XS.aloadN X8.here hx rfl (hb hby d13_37) rfl rfl k) ?_
        obtain ⟨T9, X9, e9, st9⟩ := own_getFR X8 hx hZ hown (t121 hw) e8 Nq.2.2.2.1 (g := (mkF m 38 #[.val (.ref aq), .val (.ref a1), .val (.ref a2), .val (.int (x - xq))] [(.ref aq), (.ref vaq), (.ref kaq)])) rfl rfl (hb hby d13_38)
        refine Gl.step (B := (T9.setTop (mkF m 41 #[.val (.ref aq), .val (.ref a1), .val (.ref a2), .val (.int (x - xq))] [vlq, (.ref vaq), (.ref kaq)]))) st9 ?_
        refine Gl.step (B := (T9.setTop (mkF m 43 #[.val (.ref aq), .val (.ref a1), .val (.ref a2), .val (.int (x - xq))] [(.ref a2), (.ref a1), vlq, (.ref vaq), (.ref kaq)]))) (fun t k => XS.aloadN X9.here hx rfl (hb hby d13_41) rfl rfl (XS.aloadN X9.here hx rfl (hb hby d13_42) rfl rfl k)) ?_
        obtain ⟨_, _, ⟨T10, L10, c10, z10⟩, -, X10, ⟨Lc10, hQ10, l10, y10, zz10⟩, st10⟩ := Jvm.LawKit.callS X9 hx (y := y16) hown (mvT hZ (t68 hw)) (mvT hZ (t69 hw)) (mvT hZ (t36 hw)) (mvT hZ (t70 hw)) (by decide) (backOf (W := 2) (rput2 l Z a0 hw [] vlq a1 a2 nlq x PLq zc h0 n0 O0 pm0 (hz) g_Str_a1 (hkx) TLq) hZ (t70 hw) (t36 hw) (by decide) (by decide)) (g := (mkF m 43 #[.val (.ref aq), .val (.ref a1), .val (.ref a2), .val (.int (x - xq))] [(.ref a2), (.ref a1), vlq, (.ref vaq), (.ref kaq)])) rfl (by rw [hml]; rfl) (argsL := [vlq, (.ref a1), (.ref a2)]) (rest := [(.ref vaq), (.ref kaq)]) (lenOf pd__Lcom_example_isogloss_isogloss_util_PersistentMap_Node_Ljava_lang_String_Ljava_lang_Object__Lcom_example_isogloss_isogloss_util_PersistentMap_Node_ rfl) rfl (by show 2 * 0 + _ ≤ _; exact Nat.le_of_eq rfl) (hb hby d13_43) (fun _ _ => ⟨rfl, e9, (by decide : 0 + 7 ≤ _), (by decide : 0 + 35 ≤ _)⟩)
        dsimp only [Pt.U, Pt.locs, Pt.cells, Pt.slots] at X10 l10 y10 zz10 st10 hQ10
        subst y10 zz10
        obtain ⟨b_10, rfl, N10q, Kc10, r0_10, hT_10⟩ := hQ10
        have N10 : Fr n0 L10 := Eq.mpr (congrArg (Fr n0) l10) (Fr.app N6 N10q)
        have ge_b_10 : n0 ≤ b_10 := Nat.le_trans (own_oz O0) r0_10
        have sz_b_10 : h0.size ≤ b_10 := Nat.le_trans K0.1 r0_10
        have O11 : Old Z n0 T10.heap := O0.keep Kc10 all0
        have K11 : Keep h0 T10.heap [] := K0.trans Kc10 all0
        refine Gl.step (B := (T10.setTop (mkF m 46 #[.val (.ref aq), .val (.ref a1), .val (.ref a2), .val (.int (x - xq))] [(.ref b_10), (.ref vaq), (.ref kaq)]))) st10 ?_
        refine Gl.step (B := (T10.setTop (mkF m 47 #[.val (.ref aq), .val (.ref a1), .val (.ref a2), .val (.int (x - xq))] [(.ref aq), (.ref b_10), (.ref vaq), (.ref kaq)]))) (fun t k => XS.aloadN X10.here hx rfl (hb hby d13_46) rfl rfl k) ?_
        have f12 := (Nq.2.2.2.2.1.ext (own_ke K11))
        obtain ⟨T13, X13, e13, st13⟩ := own_getFR X10 hx hZ hown (t122 hw) rfl f12 (g := (mkF m 47 #[.val (.ref aq), .val (.ref a1), .val (.ref a2), .val (.int (x - xq))] [(.ref aq), (.ref b_10), (.ref vaq), (.ref kaq)])) rfl rfl (hb hby d13_47)
        refine Gl.step (B := (T13.setTop (mkF m 50 #[.val (.ref aq), .val (.ref a1), .val (.ref a2), .val (.int (x - xq))] [vrq, (.ref b_10), (.ref vaq), (.ref kaq)]))) st13 ?_
        obtain ⟨n1, T1, u1, u2⟩ := hT_10
        have f14 := (Sq.ext (own_ke K11))
        have f15 := (TRq.up.ext (own_ke K11))
        obtain ⟨_, _, ⟨T16, L16, c16, z16⟩, -, X16, ⟨Lc16, hQ16, l16, y16, zz16⟩, st16⟩ := Jvm.LawKit.callS X13 hx (y := y15) hown (mvT hZ (t135 hw)) (mvT hZ (t136 hw)) (mvT hZ (t36 hw)) (mvT hZ (t137 hw)) (by decide) (backOf (W := 0) (rbal l Z a0 hw [] kaq vaq (.ref b_10) vrq 3 n1 nrq xq (fun k => k = x ∨ PLq k) PRq T10.heap n0 O11 f14 (hxq) (T1) f15 (by omega) (by decide) (own_oL h1 p1q) (p2q)) hZ (t137 hw) (t36 hw) (by decide) (by decide)) (g := (mkF m 50 #[.val (.ref aq), .val (.ref a1), .val (.ref a2), .val (.int (x - xq))] [vrq, (.ref b_10), (.ref vaq), (.ref kaq)])) rfl (by rw [hml]; rfl) (argsL := [(.ref kaq), (.ref vaq), (.ref b_10), vrq]) (rest := []) (lenOf pd__Ljava_lang_String_Ljava_lang_Object_Lcom_example_isogloss_isogloss_util_PersistentMap_Node_Lcom_example_isogloss_isogloss_util_PersistentMap_Node__Lcom_example_isogloss_isogloss_util_PersistentMap_Node_ rfl) rfl (by show 2 * 0 + _ ≤ _; exact Nat.le_of_eq rfl) (hb hby d13_50) (fun _ _ => ⟨rfl, e13, (by decide : 7 + 3 ≤ _), (by decide : 35 + 15 ≤ _)⟩)
        dsimp only [Pt.U, Pt.locs, Pt.cells, Pt.slots] at X16 l16 y16 zz16 st16 hQ16
        subst y16 zz16
        obtain ⟨b_16, rfl, N16q, Kc16, r0_16, hT_16⟩ := hQ16
        have N16 : Fr n0 L16 := Eq.mpr (congrArg (Fr n0) l16) (Fr.app N10 N16q)
        have ge_b_16 : n0 ≤ b_16 := Nat.le_trans (own_oz O11) r0_16
        have sz_b_16 : h0.size ≤ b_16 := Nat.le_trans K11.1 r0_16
        have O17 : Old Z n0 T16.heap := O11.keep Kc16 all0
        have K17 : Keep h0 T16.heap [] := K11.trans Kc16 all0
        refine Gl.step (B := (T16.setTop (mkF m 53 #[.val (.ref aq), .val (.ref a1), .val (.ref a2), .val (.int (x - xq))] [(.ref b_16)]))) st16 ?_
        obtain ⟨fs, hr, hrun, hended, hW, hsame⟩ := X16.leave (v := some (.ref b_16)) (fun h => by rw [Bd.returns] at h; cases h)
        refine ⟨_, _, ?_, hrun, hended, _, _, rfl, ?_, ⟨_, rfl⟩, hW, hsame.mono (by decide) (by decide)⟩
        · show Steps p.tables e below (T16.setTop (mkF m 53 #[.val (.ref aq), .val (.ref a1), .val (.ref a2), .val (.int (x - xq))] [(.ref b_16)])) _
          jvm_step X16.here [X16.here.top, hx, (hb hby d13_53), X16.method', Bd.returns, Value.isRef, FieldType.isReference]
          first | (intro acts; rw [hr _ acts rfl rfl rfl]) | rw [hr _ _ rfl rfl rfl]
          exact Steps.refl _
        · show Q_rput3 Z (.ref aq) a1 a2 n x P zc h0 n0 _ T16.heap _
          exact ⟨b_16, rfl, N16, K17, sz_b_16, own_putL hT_16 hnq b1q b2q u1 u2 hPq⟩
      · skip
        by_cases h2 : xq < x
        · skip
          refine Gl.step (B := (T6.setTop (mkF m 59 #[.val (.ref aq), .val (.ref a1), .val (.ref a2), .val (.int (x - xq))] [(.ref aq)]))) (fun t k => XS.ifYes X6.here hx rfl (pc0 := 26) (pc' := 54) rfl (hb hby d13_26) rfl ((if0 _ _).trans (flt (own_cnl hkx hxq h1 : ¬ ((x - xq) < (0 : Int32)))).2.1) (by decide) (by decide) (XS.iloadN X6.here hx rfl (hb hby d13_54) rfl (XS.ifNo X6.here hx rfl (hb hby d13_55) rfl ((if0 _ _).trans (tlt (own_cgt hkx hxq h2 : (0 : Int32) < (x - xq))).2.2.2) (XS.aloadN X6.here hx rfl (hb hby d13_58) rfl rfl k)))) ?_
          obtain ⟨T18, X18, e18, st18⟩ := own_getFR X6 hx hZ hown (t95 hw) eh6 Nq.2.1 (g := (mkF m 59 #[.val (.ref aq), .val (.ref a1), .val (.ref a2), .val (.int (x - xq))] [(.ref aq)])) rfl rfl (hb hby d13_59)
          refine Gl.step (B := (T18.setTop (mkF m 62 #[.val (.ref aq), .val (.ref a1), .val (.ref a2), .val (.int (x - xq))] [(.ref kaq)]))) st18 ?_
          refine Gl.step (B := (T18.setTop (mkF m 63 #[.val (.ref aq), .val (.ref a1), .val (.ref a2), .val (.int (x - xq))] [(.ref aq), (.ref kaq)]))) (fun t k => XS.aloadN X18.here hx rfl (hb hby d13_62) rfl rfl k) ?_
          obtain ⟨T19, X19, e19, st19⟩ := own_getFR X18 hx hZ hown (t120 hw) e18 Nq.2.2.1 (g := (mkF m 63 #[.val (.ref aq), .val (.ref a1), .val (.ref a2), .val (.int (x - xq))] [(.ref aq), (.ref kaq)])) rfl rfl (hb hby d13_63)
          refine Gl.step (B := (T19.setTop (mkF m 66 #[.val (.ref aq), .val (.ref a1), .val (.ref a2), .val (.int (x - xq))] [(.ref vaq), (.ref kaq)]))) st19 ?_
          refine Gl.step (B := (T19.setTop (mkF m 67 #[.val (.ref aq), .val (.ref a1), .val (.ref a2), .val (.int (x - xq))] [(.ref aq), (.ref vaq), (.ref kaq)]))) (fun t k => XS.aloadN X19.here hx rfl (hb hby d13_66) rfl rfl k) ?_
          obtain ⟨T20, X20, e20, st20⟩ := own_getFR X19 hx hZ hown (t121 hw) e19 Nq.2.2.2.1 (g := (mkF m 67 #[.val (.ref aq), .val (.ref a1), .val (.ref a2), .val (.int (x - xq))] [(.ref aq), (.ref vaq), (.ref kaq)])) rfl rfl (hb hby d13_67)
          refine Gl.step (B := (T20.setTop (mkF m 70 #[.val (.ref aq), .val (.ref a1), .val (.ref a2), .val (.int (x - xq))] [vlq, (.ref vaq), (.ref kaq)]))) st20 ?_
          refine Gl.step (B := (T20.setTop (mkF m 71 #[.val (.ref aq), .val (.ref a1), .val (.ref a2), .val (.int (x - xq))] [(.ref aq), vlq, (.ref vaq), (.ref kaq)]))) (fun t k => XS.aloadN X20.here hx rfl (hb hby d13_70) rfl rfl k) ?_
          obtain ⟨T21, X21, e21, st21⟩ := own_getFR X20 hx hZ hown (t122 hw) e20 Nq.2.2.2.2.1 (g := (mkF m 71 #[.val (.ref aq), .val (.ref a1), .val (.ref a2), .val (.int (x - xq))] [(.ref aq), vlq, (.ref vaq), (.ref kaq)])) rfl rfl (hb hby d13_71)
          refine Gl.step (B := (T21.setTop (mkF m 74 #[.val (.ref aq), .val (.ref a1), .val (.ref a2), .val (.int (x - xq))] [vrq, vlq, (.ref vaq), (.ref kaq)]))) st21 ?_
          refine Gl.step (B := (T21.setTop (mkF m 76 #[.val (.ref aq), .val (.ref a1), .val (.ref a2), .val (.int (x - xq))] [(.ref a2), (.ref a1), vrq, vlq, (.ref vaq), (.ref kaq)]))) (fun t k => XS.aloadN X21.here hx rfl (hb hby d13_74) rfl rfl (XS.aloadN X21.here hx rfl (hb hby d13_75) rfl rfl k)) ?_
          obtain ⟨_, _, ⟨T22, L22, c22, z22⟩, -, X22, ⟨Lc22, hQ22, l22, y22, zz22⟩, st22⟩ := Jvm.LawKit.callS X21 hx (y := y16) hown (mvT hZ (t68 hw)) (mvT hZ (t69 hw)) (mvT hZ (t36 hw)) (mvT hZ (t70 hw)) (by decide) (backOf (W := 3) (rput2 l Z a0 hw [] vrq a1 a2 nrq x PRq zc h0 n0 O0 pm0 (hz) g_Str_a1 (hkx) TRq) hZ (t70 hw) (t36 hw) (by decide) (by decide)) (g := (mkF m 76 #[.val (.ref aq), .val (.ref a1), .val (.ref a2), .val (.int (x - xq))] [(.ref a2), (.ref a1), vrq, vlq, (.ref vaq), (.ref kaq)])) rfl (by rw [hml]; rfl) (argsL := [vrq, (.ref a1), (.ref a2)]) (rest := [vlq, (.ref vaq), (.ref kaq)]) (lenOf pd__Lcom_example_isogloss_isogloss_util_PersistentMap_Node_Ljava_lang_String_Ljava_lang_Object__Lcom_example_isogloss_isogloss_util_PersistentMap_Node_ rfl) rfl (by show 2 * 0 + (vlq.category + (1 + (1 + (0)))) ≤ _; have w_vlq := own_cat TLq.isRef; omega) (hb hby d13_76) (fun _ _ => ⟨rfl, e21, (by decide : 0 + 7 ≤ _), (by decide : 0 + 35 ≤ _)⟩)
          dsimp only [Pt.U, Pt.locs, Pt.cells, Pt.slots] at X22 l22 y22 zz22 st22 hQ22
          subst y22 zz22
          obtain ⟨b_22, rfl, N22q, Kc22, r0_22, hT_22⟩ := hQ22
          have N22 : Fr n0 L22 := Eq.mpr (congrArg (Fr n0) l22) (Fr.app N6 N22q)
          have ge_b_22 : n0 ≤ b_22 := Nat.le_trans (own_oz O0) r0_22
          have sz_b_22 : h0.size ≤ b_22 := Nat.le_trans K0.1 r0_22
          have O23 : Old Z n0 T22.heap := O0.keep Kc22 all0
          have K23 : Keep h0 T22.heap [] := K0.trans Kc22 all0
          refine Gl.step (B := (T22.setTop (mkF m 79 #[.val (.ref aq), .val (.ref a1), .val (.ref a2), .val (.int (x - xq))] [(.ref b_22), vlq, (.ref vaq), (.ref kaq)]))) st22 ?_
          obtain ⟨n1, T1, u1, u2⟩ := hT_22
          have f24 := (Sq.ext (own_ke K23))
          have f25 := (TLq.up.ext (own_ke K23))
          obtain ⟨_, _, ⟨T26, L26, c26, z26⟩, -, X26, ⟨Lc26, hQ26, l26, y26, zz26⟩, st26⟩ := Jvm.LawKit.callS X22 hx (y := y15) hown (mvT hZ (t135 hw)) (mvT hZ (t136 hw)) (mvT hZ (t36 hw)) (mvT hZ (t137 hw)) (by decide) (backOf (W := 0) (rbal l Z a0 hw [] kaq vaq vlq (.ref b_22) 3 nlq n1 xq PLq (fun k => k = x ∨ PRq k) T22.heap n0 O23 f24 (hxq) f25 (T1) (by omega) (by decide) (p1q) (own_oR h2 p2q)) hZ (t137 hw) (t36 hw) (by decide) (by decide)) (g := (mkF m 79 #[.val (.ref aq), .val (.ref a1), .val (.ref a2), .val (.int (x - xq))] [(.ref b_22), vlq, (.ref vaq), (.ref kaq)])) rfl (by rw [hml]; rfl) (argsL := [(.ref kaq), (.ref vaq), vlq, (.ref b_22)]) (rest := []) (lenOf pd__Ljava_lang_String_Ljava_lang_Object_Lcom_example_isogloss_isogloss_util_PersistentMap_Node_Lcom_example_isogloss_isogloss_util_PersistentMap_Node__Lcom_example_isogloss_isogloss_util_PersistentMap_Node_ rfl) rfl (by show 2 * 0 + _ ≤ _; exact Nat.le_of_eq rfl) (hb hby d13_79) (fun _ _ => ⟨rfl, rfl, (by decide : 7 + 3 ≤ _), (by decide : 35 + 15 ≤ _)⟩)
          dsimp only [Pt.U, Pt.locs, Pt.cells, Pt.slots] at X26 l26 y26 zz26 st26 hQ26
          subst y26 zz26
          obtain ⟨b_26, rfl, N26q, Kc26, r0_26, hT_26⟩ := hQ26
          have N26 : Fr n0 L26 := Eq.mpr (congrArg (Fr n0) l26) (Fr.app N22 N26q)
          have ge_b_26 : n0 ≤ b_26 := Nat.le_trans (own_oz O23) r0_26
          have sz_b_26 : h0.size ≤ b_26 := Nat.le_trans K23.1 r0_26
          have O27 : Old Z n0 T26.heap := O23.keep Kc26 all0
          have K27 : Keep h0 T26.heap [] := K23.trans Kc26 all0
          refine Gl.step (B := (T26.setTop (mkF m 82 #[.val (.ref aq), .val (.ref a1), .val (.ref a2), .val (.int (x - xq))] [(.ref b_26)]))) st26 ?_
          obtain ⟨fs, hr, hrun, hended, hW, hsame⟩ := X26.leave (v := some (.ref b_26)) (fun h => by rw [Bd.returns] at h; cases h)
          refine ⟨_, _, ?_, hrun, hended, _, _, rfl, ?_, ⟨_, rfl⟩, hW, hsame.mono (by decide) (by decide)⟩
          · show Steps p.tables e below (T26.setTop (mkF m 82 #[.val (.ref aq), .val (.ref a1), .val (.ref a2), .val (.int (x - xq))] [(.ref b_26)])) _
            jvm_step X26.here [X26.here.top, hx, (hb hby d13_82), X26.method', Bd.returns, Value.isRef, FieldType.isReference]
            first | (intro acts; rw [hr _ acts rfl rfl rfl]) | rw [hr _ _ rfl rfl rfl]
            exact Steps.refl _
          · show Q_rput3 Z (.ref aq) a1 a2 n x P zc h0 n0 _ T26.heap _
            exact ⟨b_26, rfl, N26, K27, sz_b_26, own_putR hT_26 hnq b1q b2q u1 u2 hPq⟩
        · skip
          refine Gl.step (B := (T6.setTop (mkF m 83 #[.val (.ref aq), .val (.ref a1), .val (.ref a2), .val (.int (x - xq))] []))) (fun t k => XS.ifYes X6.here hx rfl (pc0 := 26) (pc' := 54) rfl (hb hby d13_26) rfl ((if0 _ _).trans (flt (own_cnl hkx hxq h1 : ¬ ((x - xq) < (0 : Int32)))).2.1) (by decide) (by decide) (XS.iloadN X6.here hx rfl (hb hby d13_54) rfl (XS.ifYes X6.here hx rfl (pc0 := 55) (pc' := 83) rfl (hb hby d13_55) rfl ((if0 _ _).trans (flt (own_cng hkx hxq h2 : ¬ ((0 : Int32) < (x - xq)))).2.2.2) (by decide) (by decide) k))) ?_
          obtain ⟨T28, h28, X28, e28, E28, A28, D28, -, st28⟩ := newO X6 hx hZ hown (t71 hw) (t72 hw) (t73 hw) eh6 (g := (mkF m 83 #[.val (.ref aq), .val (.ref a1), .val (.ref a2), .val (.int (x - xq))] [])) rfl (hb hby d13_83) (by decide) (by decide)
          obtain ⟨b28, g28⟩ : ∃ z, z = h0.size := ⟨_, rfl⟩
          rw [← g28] at A28 D28 st28
          have ge_b28 : n0 ≤ b28 := Nat.le_trans (own_oz O0) (Nat.le_of_eq g28.symm)
          have sz_b28 : h0.size ≤ b28 := Nat.le_trans K0.1 (Nat.le_of_eq g28.symm)
          have O29 : Old Z n0 h28 := O0.ext E28
          have K29 : Keep h0 h28 [] := K0.ext E28
          have F28_key : Fld Z h28 b28 own_ND "key" "Ljava/lang/String;" .null := D28 (Or.inr (t79 hw)) (ty := (.object "java/lang/String")) (by decide)
          have F28_value : Fld Z h28 b28 own_ND "value" "Ljava/lang/Object;" .null := D28 (Or.inr (t81 hw)) (ty := (.object "java/lang/Object")) (by decide)
          have F28_left : Fld Z h28 b28 own_ND "left" own_LN .null := D28 (Or.inr (t83 hw)) (ty := (.object "com/example/isogloss/isogloss/util/PersistentMap$Node")) (by decide)
          have F28_right : Fld Z h28 b28 own_ND "right" own_LN .null := D28 (Or.inr (t85 hw)) (ty := (.object "com/example/isogloss/isogloss/util/PersistentMap$Node")) (by decide)
          have F28_height : Fld Z h28 b28 own_ND "height" "I" (.int (0 : Int32)) := D28 (Or.inr (t94 hw)) (ty := .int) (by decide)
          refine Gl.step (B := (T28.setTop (mkF m 86 #[.val (.ref aq), .val (.ref a1), .val (.ref a2), .val (.int (x - xq))] [(.ref b28)]))) st28 ?_
          refine Gl.step (B := (T28.setTop (mkF m 90 #[.val (.ref aq), .val (.ref a1), .val (.ref a2), .val (.int (x - xq))] [(.ref aq), (.ref a2), (.ref a1), (.ref b28), (.ref b28)]))) (fun t k => XS.dup X28.here hx rfl (hb hby d13_86) rfl rfl (XS.aloadN X28.here hx rfl (hb hby d13_87) rfl rfl (XS.aloadN X28.here hx rfl (hb hby d13_88) rfl rfl (XS.aloadN X28.here hx rfl (hb hby d13_89) rfl rfl k)))) ?_
          have f30 := (Nq.2.2.2.1.ext (own_ke K29))
          obtain ⟨T31, X31, e31, st31⟩ := own_getFR X28 hx hZ hown (t121 hw) e28 f30 (g := (mkF m 90 #[.val (.ref aq), .val (.ref a1), .val (.ref a2), .val (.int (x - xq))] [(.ref aq), (.ref a2), (.ref a1), (.ref b28), (.ref b28)])) rfl rfl (hb hby d13_90)
          refine Gl.step (B := (T31.setTop (mkF m 93 #[.val (.ref aq), .val (.ref a1), .val (.ref a2), .val (.int (x - xq))] [vlq, (.ref a2), (.ref a1), (.ref b28), (.ref b28)]))) st31 ?_
          refine Gl.step (B := (T31.setTop (mkF m 94 #[.val (.ref aq), .val (.ref a1), .val (.ref a2), .val (.int (x - xq))] [(.ref aq), vlq, (.ref a2), (.ref a1), (.ref b28), (.ref b28)]))) (fun t k => XS.aloadN X31.here hx rfl (hb hby d13_93) rfl rfl k) ?_
          have f32 := (Nq.2.2.2.2.1.ext (own_ke K29))
          obtain ⟨T33, X33, e33, st33⟩ := own_getFR X31 hx hZ hown (t122 hw) e31 f32 (g := (mkF m 94 #[.val (.ref aq), .val (.ref a1), .val (.ref a2), .val (.int (x - xq))] [(.ref aq), vlq, (.ref a2), (.ref a1), (.ref b28), (.ref b28)])) rfl rfl (hb hby d13_94)
          refine Gl.step (B := (T33.setTop (mkF m 97 #[.val (.ref aq), .val (.ref a1), .val (.ref a2), .val (.int (x - xq))] [vrq, vlq, (.ref a2), (.ref a1), (.ref b28), (.ref b28)]))) st33 ?_
          have f34 := (TLq.ht.ext (own_ke K29))
          have f35 := (TRq.ht.ext (own_ke K29))
          obtain ⟨_, _, ⟨T36, L36, c36, z36⟩, -, X36, ⟨Lc36, hQ36, l36, y36, zz36⟩, st36⟩ := own_specialRef X33 hx hZ (y := y4) rfl hown (t74 hw) (t76 hw) (mvT hZ (t75 hw)) (mvT hZ (t76 hw)) (by decide) (backOf (W := 1) (rnV l Z a0 hw [] b28 a1 a2 vlq vrq nlq nrq h28 n0 O29 A28 F28_key F28_value F28_left F28_right F28_height ge_b28 f34 f35 (TLq.ht.nf sz_b28) (TRq.ht.nf sz_b28) ((by omega))) hZ (t76 hw) (t73 hw) (by decide) (by decide)) (g := (mkF m 97 #[.val (.ref aq), .val (.ref a1), .val (.ref a2), .val (.int (x - xq))] [vrq, vlq, (.ref a2), (.ref a1), (.ref b28), (.ref b28)])) rfl (by rw [hml]; rfl) (a := b28) (argsL := [(.ref a1), (.ref a2), vlq, vrq]) (rest := [(.ref b28)]) (lenOf pd__Ljava_lang_String_Ljava_lang_Object_Lcom_example_isogloss_isogloss_util_PersistentMap_Node_Lcom_example_isogloss_isogloss_util_PersistentMap_Node__V rfl) rfl (by show 2 * 0 + _ ≤ _; exact Nat.le_of_eq rfl) (hb hby d13_97) (fun _ _ => ⟨rfl, e33, (by decide : 1 + 0 ≤ _), (by decide : 5 + 0 ≤ _)⟩)
          dsimp only [Pt.U, Pt.locs, Pt.cells, Pt.slots] at X36 l36 y36 zz36 st36 hQ36
          subst y36 zz36
          obtain ⟨rfl, N36q, Kc36, r0_36, r1_36, r2_36, r3_36, r4_36, r5_36⟩ := hQ36
          have N36 : Fr n0 L36 := Eq.mpr (congrArg (Fr n0) l36) (Fr.app N6 N36q)
          have O37 : Old Z n0 T36.heap := O29.keep Kc36 (allS ge_b28 all0)
          have K37 : Keep h0 T36.heap [] := K29.trans Kc36 (allS (Or.inr sz_b28) all0)
          refine Gl.tr (B := (T36.setTop (mkF m 100 #[.val (.ref aq), .val (.ref a1), .val (.ref a2), .val (.int (x - xq))] [(.ref b28)]))) st36 ?_
          obtain ⟨fs, hr, hrun, hended, hW, hsame⟩ := X36.leave (v := some (.ref b28)) (fun h => by rw [Bd.returns] at h; cases h)
          refine ⟨_, _, ?_, hrun, hended, _, _, rfl, ?_, ⟨_, rfl⟩, hW, hsame.mono (by decide) (by decide)⟩
          · show Steps p.tables e below (T36.setTop (mkF m 100 #[.val (.ref aq), .val (.ref a1), .val (.ref a2), .val (.int (x - xq))] [(.ref b28)])) _
            jvm_step X36.here [X36.here.top, hx, (hb hby d13_100), X36.method', Bd.returns, Value.isRef, FieldType.isReference]
            first | (intro acts; rw [hr _ acts rfl rfl rfl]) | rw [hr _ _ rfl rfl rfl]
            exact Steps.refl _
          · show Q_rput3 Z (.ref aq) a1 a2 n x P zc h0 n0 _ T36.heap _
            exact ⟨b28, rfl, N36, K37, sz_b28, own_putE (f := 2) ⟨r0_36, r1_36, r2_36, r3_36, r4_36, r5_36⟩ (g_Str_a1.ext (own_ke K37)) hkx (TLq.ext (own_ke K37)) (TRq.ext (own_ke K37)) (own_tri h1 h2) hnq b1q b2q p1q p2q hPq⟩
  obtain ⟨s₂, o, g1, g2, g3, g4⟩ := go
  exact ⟨s₂, o, castTop (ef_rput3 m u a1 a2 g_Tree_u.isRef) g1, g2, g3, g4⟩
theorem ef_rget (m : MethodId) (x0 : Addr) (x1 : Addr) : entryFrame m #[(.ref x0), (.ref x1)] 4 = mkF m 0 #[.val (.ref x0), .val (.ref x1), .unset, .unset] [] := by first | (simp [entryFrame, mkF, argsToLocals, Value.category]; done) | rfl
abbrev y17 : MethodName := ⟨"com/example/isogloss/isogloss/util/PersistentMap", "get", "(Ljava/lang/String;)Ljava/lang/Object;"⟩
theorem d12_5 : decode prog_164_method_4_code 5 = .ok (.aload_n 2, 1) := by decide +kernel
theorem d12_6 : decode prog_164_method_4_code 6 = .ok (.ifnull 40, 3) := by decide +kernel
theorem d12_46 : decode prog_164_method_4_code 46 = .ok (.aconst_null, 1) := by decide +kernel
theorem d12_47 : decode prog_164_method_4_code 47 = .ok (.areturn, 1) := by decide +kernel
theorem d12_9 : decode prog_164_method_4_code 9 = .ok (.aload_n 1, 1) := by decide +kernel
theorem d12_10 : decode prog_164_method_4_code 10 = .ok (.aload_n 2, 1) := by decide +kernel
theorem d12_11 : decode prog_164_method_4_code 11 = .ok (.getfield 24, 3) := by decide +kernel
theorem d12_14 : decode prog_164_method_4_code 14 = .ok (.invokevirtual 30, 3) := by decide +kernel
theorem d12_17 : decode prog_164_method_4_code 17 = .ok (.istore_n 3, 1) := by decide +kernel
theorem d12_18 : decode prog_164_method_4_code 18 = .ok (.iload_n 3, 1) := by decide +kernel
theorem d12_19 : decode prog_164_method_4_code 19 = .ok (.ifCond .ne 8, 3) := by decide +kernel
theorem d12_27 : decode prog_164_method_4_code 27 = .ok (.iload_n 3, 1) := by decide +kernel
theorem d12_28 : decode prog_164_method_4_code 28 = .ok (.ifCond .ge 10, 3) := by decide +kernel
theorem d12_31 : decode prog_164_method_4_code 31 = .ok (.aload_n 2, 1) := by decide +kernel
theorem d12_32 : decode prog_164_method_4_code 32 = .ok (.getfield 40, 3) := by decide +kernel
theorem d12_35 : decode prog_164_method_4_code 35 = .ok (.goto 7, 3) := by decide +kernel
theorem d12_42 : decode prog_164_method_4_code 42 = .ok (.astore_n 2, 1) := by decide +kernel
theorem d12_43 : decode prog_164_method_4_code 43 = .ok (.goto (-38), 3) := by decide +kernel
theorem d12_38 : decode prog_164_method_4_code 38 = .ok (.aload_n 2, 1) := by decide +kernel
theorem d12_39 : decode prog_164_method_4_code 39 = .ok (.getfield 43, 3) := by decide +kernel
theorem d12_22 : decode prog_164_method_4_code 22 = .ok (.aload_n 2, 1) := by decide +kernel
theorem d12_23 : decode prog_164_method_4_code 23 = .ok (.getfield 36, 3) := by decide +kernel
theorem d12_26 : decode prog_164_method_4_code 26 = .ok (.areturn, 1) := by decide +kernel
theorem d12_0 : decode prog_164_method_4_code 0 = .ok (.aload_n 0, 1) := by decide +kernel
theorem d12_1 : decode prog_164_method_4_code 1 = .ok (.getfield 12, 3) := by decide +kernel
theorem d12_4 : decode prog_164_method_4_code 4 = .ok (.astore_n 2, 1) := by decide +kernel
def Q_rget (Z : State) (a1 : Addr) (a2 : Addr) (u : Value) (n : Nat) (x : Int32) (P : Int32 → Prop) (zc : Int32) (h0 : Heap) (n0 : Nat) (v : Option Value) (h : Heap) (L : List Loc) : Prop := ∃ vv : Value, v = some vv ∧ Fr n0 L ∧ h = h0 ∧ ((P x ∧ ∃ va : Addr, vv = .ref va) ∨ (¬ P x ∧ vv = .null))
set_option maxRecDepth 65536 in
set_option maxHeartbeats 40000000 in
theorem rget (l : Launch) (Z : State) (a0 : Array Value) (hw : ∀ d ∈ tables_1, d.before a0 Z = true) (ws : List Jvm.Cond) (a1 : Addr) (a2 : Addr) (u : Value) (n : Nat) (x : Int32) (P : Int32 → Prop) (zc : Int32) (h0 : Heap) (n0 : Nat) (O0 : Old Z n0 h0) (pm0 : Sta Z Z.heap "java/lang/String" "COMPACT_STRINGS" "Z" (.int zc)) (hz : ¬ (zc = (0 : Int32))) (pm2 : Fld Z h0 a1 own_PM "root" own_LN u) (g_Str_a2 : Str Z h0 a2 x) (hkx : Ky x) (g_Tree_u : Tree Z h0 3 n u P) :
    MetFree l y17 (head1 (Jvm.Cond.code y17 prog_164_method_4_code 4 (some (.object "java/lang/Object")) :: ws) ({ frames := 4, cells := 0, slots := 0, locals := 64 } : Room)) (fun a U => a = #[(.ref a1), (.ref a2)] ∧ Z.Warmed39 U.vm ∧ U.heap = h0) (fun _ _ _ _ _ => True) (fun _ U o U' => ∃ v L, o = .returned v ∧ Q_rget Z a1 a2 u n x P zc h0 n0 v U'.heap L ∧ FrameEnd U o U' L ({ frames := 4, cells := 0, slots := 0, locals := 64 } : Room).cells ({ frames := 4, cells := 0, slots := 0, locals := 64 } : Room).slots) := by
  refine MetFree.of_bodySF (plainFor_of_name pn_com_example_isogloss_isogloss_util_PersistentMap) hisR ?_
  intro p e s m args below meth c s₁ Bd hml0 hP hK
  obtain ⟨rfl, hZ, hh⟩ := hP
  have hx := Bd.exec
  have hby := Bd.bytes
  have hml : c.maxLocals = 4 := hml0
  have hown : s.vm.findClass own_PM = some m.cls := findClass_of_methodNamed Bd.named
  have hnm := (name_of_methodNamed Bd.named Bd.method).1
  have X0 : Stand p l e ({ frames := 4, cells := 0, slots := 0, locals := 64 } : Room) s m #[(.ref a1), (.ref a2)] below meth c s₁ [] 0 0 := Stand.of_body Bd
  have e0 : s₁.heap = h0 := by rw [← hh, Bd.state]; rfl
  have N0 := Fr.nil n0
  have K0 : Keep h0 h0 [] := Keep.refl h0 _
  have go : Gl p.tables e below (fun o U' => ∃ v L, o = .returned v ∧ Q_rget Z a1 a2 u n x P zc h0 n0 v U'.heap L ∧ FrameEnd s o U' L ({ frames := 4, cells := 0, slots := 0, locals := 64 } : Room).cells ({ frames := 4, cells := 0, slots := 0, locals := 64 } : Room).slots) (s₁.setTop (mkF m 0 #[.val (.ref a1), .val (.ref a2), .unset, .unset] [])) := by
    have loop0 : ∀ (Tl : State) (Ll : List Loc) (z3 : Int32) (vk : Value) (nk : Nat) (Q : Int32 → Prop), Stand p l e ({ frames := 4, cells := 0, slots := 0, locals := 64 } : Room) s m #[(.ref a1), (.ref a2)] below meth c Tl Ll 0 0 → Tl.heap = h0 → Fr n0 Ll → Tree Z h0 0 nk vk Q → (P x ↔ Q x) → Gl p.tables e below (fun o U' => ∃ v L, o = .returned v ∧ Q_rget Z a1 a2 u n x P zc h0 n0 v U'.heap L ∧ FrameEnd s o U' L ({ frames := 4, cells := 0, slots := 0, locals := 64 } : Room).cells ({ frames := 4, cells := 0, slots := 0, locals := 64 } : Room).slots) (Tl.setTop (mkF m 5 #[.val (.ref a1), .val (.ref a2), .val vk, .val (.int z3)] [])) := by
      intro Tl Ll z3 vk nk Q Xl el Nl Tk ix
      obtain ⟨hu, hP⟩ := own_zero Tk (Nat.le_zero.mp Tk.le)
      subst hu
      refine Gl.step (B := (Tl.setTop (mkF m 47 #[.val (.ref a1), .val (.ref a2), .val .null, .val (.int z3)] [.null]))) (fun t k => XS.aloadN Xl.here hx rfl (hb hby d12_5) rfl rfl (XS.ifnullYes Xl.here hx rfl (pc0 := 6) (pc' := 46) rfl (hb hby d12_6) rfl (by decide) (by decide) (XS.aconstNull Xl.here hx rfl (hb hby d12_46) k))) ?_
      obtain ⟨fs, hr, hrun, hended, hW, hsame⟩ := Xl.leave (v := some .null) (fun h => by rw [Bd.returns] at h; cases h)
      refine ⟨_, _, ?_, hrun, hended, _, _, rfl, ?_, ⟨_, rfl⟩, hW, hsame.mono (by decide) (by decide)⟩
      · show Steps p.tables e below (Tl.setTop (mkF m 47 #[.val (.ref a1), .val (.ref a2), .val .null, .val (.int z3)] [.null])) _
        jvm_step Xl.here [Xl.here.top, hx, (hb hby d12_47), Xl.method', Bd.returns, Value.isRef, FieldType.isReference]
        first | (intro acts; rw [hr _ acts rfl rfl rfl]) | rw [hr _ _ rfl rfl rfl]
        exact Steps.refl _
      · show Q_rget Z a1 a2 u n x P zc h0 n0 _ Tl.heap _
        rw [el]
        exact ⟨.null, rfl, Nl, rfl, Or.inr ⟨fun z => hP x (ix.mp z), rfl⟩⟩
    have loop1 : ∀ (Tl : State) (Ll : List Loc) (z3 : Int32) (vk : Value) (nk : Nat) (Q : Int32 → Prop), Stand p l e ({ frames := 4, cells := 0, slots := 0, locals := 64 } : Room) s m #[(.ref a1), (.ref a2)] below meth c Tl Ll 0 0 → Tl.heap = h0 → Fr n0 Ll → Tree Z h0 1 nk vk Q → (P x ↔ Q x) → Gl p.tables e below (fun o U' => ∃ v L, o = .returned v ∧ Q_rget Z a1 a2 u n x P zc h0 n0 v U'.heap L ∧ FrameEnd s o U' L ({ frames := 4, cells := 0, slots := 0, locals := 64 } : Room).cells ({ frames := 4, cells := 0, slots := 0, locals := 64 } : Room).slots) (Tl.setTop (mkF m 5 #[.val (.ref a1), .val (.ref a2), .val vk, .val (.int z3)] [])) := by
      intro Tl Ll z3 vk nk Q Xl el Nl Tk ix
      by_cases hn : nk = 0
      · skip
        obtain ⟨hu, hP⟩ := own_zero Tk hn
        subst hu
        refine Gl.step (B := (Tl.setTop (mkF m 47 #[.val (.ref a1), .val (.ref a2), .val .null, .val (.int z3)] [.null]))) (fun t k => XS.aloadN Xl.here hx rfl (hb hby d12_5) rfl rfl (XS.ifnullYes Xl.here hx rfl (pc0 := 6) (pc' := 46) rfl (hb hby d12_6) rfl (by decide) (by decide) (XS.aconstNull Xl.here hx rfl (hb hby d12_46) k))) ?_
        obtain ⟨fs, hr, hrun, hended, hW, hsame⟩ := Xl.leave (v := some .null) (fun h => by rw [Bd.returns] at h; cases h)
        refine ⟨_, _, ?_, hrun, hended, _, _, rfl, ?_, ⟨_, rfl⟩, hW, hsame.mono (by decide) (by decide)⟩
        · show Steps p.tables e below (Tl.setTop (mkF m 47 #[.val (.ref a1), .val (.ref a2), .val .null, .val (.int z3)] [.null])) _
          jvm_step Xl.here [Xl.here.top, hx, (hb hby d12_47), Xl.method', Bd.returns, Value.isRef, FieldType.isReference]
          first | (intro acts; rw [hr _ acts rfl rfl rfl]) | rw [hr _ _ rfl rfl rfl]
          exact Steps.refl _
        · show Q_rget Z a1 a2 u n x P zc h0 n0 _ Tl.heap _
          rw [el]
          exact ⟨.null, rfl, Nl, rfl, Or.inr ⟨fun z => hP x (ix.mp z), rfl⟩⟩
      · skip
        obtain ⟨gq, aq, kaq, vaq, xq, vlq, vrq, nlq, nrq, PLq, PRq, efq, evq, Nq, Sq, hxq, hnq, b1q, b2q, TLq, TRq, p1q, p2q, hPq⟩ := own_open Tk (Nat.pos_of_ne_zero hn)
        subst evq
        obtain rfl : gq = 0 := by omega
        have qlq := TLq.le
        have qrq := TRq.le
        refine Gl.step (B := (Tl.setTop (mkF m 11 #[.val (.ref a1), .val (.ref a2), .val (.ref aq), .val (.int z3)] [(.ref aq), (.ref a2)]))) (fun t k => XS.aloadN Xl.here hx rfl (hb hby d12_5) rfl rfl (XS.ifnullNo Xl.here hx rfl (hb hby d12_6) rfl (XS.aloadN Xl.here hx rfl (hb hby d12_9) rfl rfl (XS.aloadN Xl.here hx rfl (hb hby d12_10) rfl rfl k)))) ?_
        obtain ⟨T1, X1, e1, st1⟩ := own_getFR Xl hx hZ hown (t95 hw) el Nq.2.1 (g := (mkF m 11 #[.val (.ref a1), .val (.ref a2), .val (.ref aq), .val (.int z3)] [(.ref aq), (.ref a2)])) rfl rfl (hb hby d12_11)
        refine Gl.step (B := (T1.setTop (mkF m 14 #[.val (.ref a1), .val (.ref a2), .val (.ref aq), .val (.int z3)] [(.ref kaq), (.ref a2)]))) st1 ?_
        obtain ⟨cq2, kq2, q2a, q2b, q2c⟩ := isOf hZ e1 g_Str_a2.1
        obtain ⟨_, _, ⟨T2, L2, c2, z2⟩, -, X2, ⟨Lc2, hQ2, l2, y2, zz2⟩, st2⟩ := X1.virtualBack hx (y := y11) (z := y11) hown (mvT hZ (t96 hw)) (mvT hZ (t97 hw)) (notFace_of_selects (args := #[]) (mvT hZ (t99 hw))) (mvT hZ (t99 hw)) (mvT hZ (t98 hw)) (by decide) (backOf (W := 0) (rcmp l Z a0 hw [] a2 kaq x xq zc h0 n0 O0 pm0 (hz) g_Str_a2 Sq (hkx) (hxq)) hZ (t100 hw) (t7 hw) (by decide) (by decide)) q2a q2c (g := (mkF m 14 #[.val (.ref a1), .val (.ref a2), .val (.ref aq), .val (.int z3)] [(.ref kaq), (.ref a2)])) rfl (by rw [hml]; rfl) (Steps.refl _) (argsL := [(.ref kaq)]) (rest := []) (lenOf pd__Ljava_lang_String__I rfl) rfl (by show 2 * 0 + _ ≤ _; exact Nat.le_of_eq rfl) (hb hby d12_14) (fun _ _ => ⟨rfl, e1, (by decide : 0 + 0 ≤ _), (by decide : 0 + 0 ≤ _)⟩)
        dsimp only [Pt.U, Pt.locs, Pt.cells, Pt.slots] at X2 l2 y2 zz2 st2 hQ2
        subst y2 zz2
        obtain ⟨rfl, N2q, eh2⟩ := hQ2
        have N2 : Fr n0 L2 := Eq.mpr (congrArg (Fr n0) l2) (Fr.app Nl N2q)
        refine Gl.tr (B := (T2.setTop (mkF m 17 #[.val (.ref a1), .val (.ref a2), .val (.ref aq), .val (.int z3)] [(.int (x - xq))]))) st2 ?_
        refine Gl.step (B := (T2.setTop (mkF m 19 #[.val (.ref a1), .val (.ref a2), .val (.ref aq), .val (.int (x - xq))] [(.int (x - xq))]))) (fun t k => XS.istoreN X2.here hx rfl (hb hby d12_17) rfl (l' := #[.val (.ref a1), .val (.ref a2), .val (.ref aq), .val (.int (x - xq))]) rfl (XS.iloadN X2.here hx rfl (hb hby d12_18) rfl k)) ?_
        by_cases hlx : x < xq
        · skip
          refine Gl.step (B := (T2.setTop (mkF m 32 #[.val (.ref a1), .val (.ref a2), .val (.ref aq), .val (.int (x - xq))] [(.ref aq)]))) (fun t k => XS.ifYes X2.here hx rfl (pc0 := 19) (pc' := 27) rfl (hb hby d12_19) rfl ((if0 _ _).trans (feq (own_cnz hkx hxq (fun q => absurd (q ▸ hlx) Int32.lt_irrefl) : ¬ ((x - xq) = (0 : Int32)))).2) (by decide) (by decide) (XS.iloadN X2.here hx rfl (hb hby d12_27) rfl (XS.ifNo X2.here hx rfl (hb hby d12_28) rfl ((if0 _ _).trans (tlt (own_clt hkx hxq hlx : (x - xq) < (0 : Int32))).2.1) (XS.aloadN X2.here hx rfl (hb hby d12_31) rfl rfl k)))) ?_
          obtain ⟨T3, X3, e3, st3⟩ := own_getFR X2 hx hZ hown (t121 hw) eh2 Nq.2.2.2.1 (g := (mkF m 32 #[.val (.ref a1), .val (.ref a2), .val (.ref aq), .val (.int (x - xq))] [(.ref aq)])) rfl rfl (hb hby d12_32)
          refine Gl.step (B := (T3.setTop (mkF m 35 #[.val (.ref a1), .val (.ref a2), .val (.ref aq), .val (.int (x - xq))] [vlq]))) st3 ?_
          refine Gl.step (B := (T3.setTop (mkF m 5 #[.val (.ref a1), .val (.ref a2), .val vlq, .val (.int (x - xq))] []))) (fun t k => XS.goto X3.here hx rfl (pc0 := 35) (pc' := 42) rfl (hb hby d12_35) (by decide) (by decide) (XS.astoreN X3.here hx rfl (hb hby d12_42) rfl TLq.isRef (l' := #[.val (.ref a1), .val (.ref a2), .val vlq, .val (.int (x - xq))]) (XS.store1 rfl (Or.inr ⟨_, rfl, rfl⟩) (own_cat TLq.isRef)) (XS.goto X3.here hx rfl (pc0 := 43) (pc' := 5) rfl (hb hby d12_43) (by decide) (by decide) k))) ?_
          exact loop0 T3 _ (x - xq) vlq nlq PLq X3 e3 N2 TLq (ix.trans (own_gl hPq p2q hlx))
        · skip
          by_cases hrx : xq < x
          · skip
            refine Gl.step (B := (T2.setTop (mkF m 39 #[.val (.ref a1), .val (.ref a2), .val (.ref aq), .val (.int (x - xq))] [(.ref aq)]))) (fun t k => XS.ifYes X2.here hx rfl (pc0 := 19) (pc' := 27) rfl (hb hby d12_19) rfl ((if0 _ _).trans (feq (own_cnz hkx hxq (fun q => absurd (q ▸ hrx) Int32.lt_irrefl) : ¬ ((x - xq) = (0 : Int32)))).2) (by decide) (by decide) (XS.iloadN X2.here hx rfl (hb hby d12_27) rfl (XS.ifYes X2.here hx rfl (pc0 := 28) (pc' := 38) rfl (hb hby d12_28) rfl ((if0 _ _).trans (flt (own_cnl hkx hxq hlx : ¬ ((x - xq) < (0 : Int32)))).2.1) (by decide) (by decide) (XS.aloadN X2.here hx rfl (hb hby d12_38) rfl rfl k)))) ?_
            obtain ⟨T4, X4, e4, st4⟩ := own_getFR X2 hx hZ hown (t122 hw) eh2 Nq.2.2.2.2.1 (g := (mkF m 39 #[.val (.ref a1), .val (.ref a2), .val (.ref aq), .val (.int (x - xq))] [(.ref aq)])) rfl rfl (hb hby d12_39)
            refine Gl.step (B := (T4.setTop (mkF m 42 #[.val (.ref a1), .val (.ref a2), .val (.ref aq), .val (.int (x - xq))] [vrq]))) st4 ?_
            refine Gl.step (B := (T4.setTop (mkF m 5 #[.val (.ref a1), .val (.ref a2), .val vrq, .val (.int (x - xq))] []))) (fun t k => XS.astoreN X4.here hx rfl (hb hby d12_42) rfl TRq.isRef (l' := #[.val (.ref a1), .val (.ref a2), .val vrq, .val (.int (x - xq))]) (XS.store1 rfl (Or.inr ⟨_, rfl, rfl⟩) (own_cat TRq.isRef)) (XS.goto X4.here hx rfl (pc0 := 43) (pc' := 5) rfl (hb hby d12_43) (by decide) (by decide) k)) ?_
            exact loop0 T4 _ (x - xq) vrq nrq PRq X4 e4 N2 TRq (ix.trans (own_gr hPq p1q hrx))
          · skip
            refine Gl.step (B := (T2.setTop (mkF m 23 #[.val (.ref a1), .val (.ref a2), .val (.ref aq), .val (.int (x - xq))] [(.ref aq)]))) (fun t k => XS.ifNo X2.here hx rfl (hb hby d12_19) rfl ((if0 _ _).trans (teq (own_cz (own_tri hlx hrx) : (x - xq) = (0 : Int32))).2) (XS.aloadN X2.here hx rfl (hb hby d12_22) rfl rfl k)) ?_
            obtain ⟨T5, X5, e5, st5⟩ := own_getFR X2 hx hZ hown (t120 hw) eh2 Nq.2.2.1 (g := (mkF m 23 #[.val (.ref a1), .val (.ref a2), .val (.ref aq), .val (.int (x - xq))] [(.ref aq)])) rfl rfl (hb hby d12_23)
            refine Gl.step (B := (T5.setTop (mkF m 26 #[.val (.ref a1), .val (.ref a2), .val (.ref aq), .val (.int (x - xq))] [(.ref vaq)]))) st5 ?_
            obtain ⟨fs, hr, hrun, hended, hW, hsame⟩ := X5.leave (v := some (.ref vaq)) (fun h => by rw [Bd.returns] at h; cases h)
            refine ⟨_, _, ?_, hrun, hended, _, _, rfl, ?_, ⟨_, rfl⟩, hW, hsame.mono (by decide) (by decide)⟩
            · show Steps p.tables e below (T5.setTop (mkF m 26 #[.val (.ref a1), .val (.ref a2), .val (.ref aq), .val (.int (x - xq))] [(.ref vaq)])) _
              jvm_step X5.here [X5.here.top, hx, (hb hby d12_26), X5.method', Bd.returns, Value.isRef, FieldType.isReference]
              first | (intro acts; rw [hr _ acts rfl rfl rfl]) | rw [hr _ _ rfl rfl rfl]
              exact Steps.refl _
            · show Q_rget Z a1 a2 u n x P zc h0 n0 _ T5.heap _
              rw [e5]
              exact ⟨(.ref vaq), rfl, N2, rfl, Or.inl ⟨ix.mpr ((hPq x).mpr (Or.inl (own_tri hlx hrx))), vaq, rfl⟩⟩
    have loop2 : ∀ (Tl : State) (Ll : List Loc) (z3 : Int32) (vk : Value) (nk : Nat) (Q : Int32 → Prop), Stand p l e ({ frames := 4, cells := 0, slots := 0, locals := 64 } : Room) s m #[(.ref a1), (.ref a2)] below meth c Tl Ll 0 0 → Tl.heap = h0 → Fr n0 Ll → Tree Z h0 2 nk vk Q → (P x ↔ Q x) → Gl p.tables e below (fun o U' => ∃ v L, o = .returned v ∧ Q_rget Z a1 a2 u n x P zc h0 n0 v U'.heap L ∧ FrameEnd s o U' L ({ frames := 4, cells := 0, slots := 0, locals := 64 } : Room).cells ({ frames := 4, cells := 0, slots := 0, locals := 64 } : Room).slots) (Tl.setTop (mkF m 5 #[.val (.ref a1), .val (.ref a2), .val vk, .val (.int z3)] [])) := by
      intro Tl Ll z3 vk nk Q Xl el Nl Tk ix
      by_cases hn : nk = 0
      · skip
        obtain ⟨hu, hP⟩ := own_zero Tk hn
        subst hu
        refine Gl.step (B := (Tl.setTop (mkF m 47 #[.val (.ref a1), .val (.ref a2), .val .null, .val (.int z3)] [.null]))) (fun t k => XS.aloadN Xl.here hx rfl (hb hby d12_5) rfl rfl (XS.ifnullYes Xl.here hx rfl (pc0 := 6) (pc' := 46) rfl (hb hby d12_6) rfl (by decide) (by decide) (XS.aconstNull Xl.here hx rfl (hb hby d12_46) k))) ?_
        obtain ⟨fs, hr, hrun, hended, hW, hsame⟩ := Xl.leave (v := some .null) (fun h => by rw [Bd.returns] at h; cases h)
        refine ⟨_, _, ?_, hrun, hended, _, _, rfl, ?_, ⟨_, rfl⟩, hW, hsame.mono (by decide) (by decide)⟩
        · show Steps p.tables e below (Tl.setTop (mkF m 47 #[.val (.ref a1), .val (.ref a2), .val .null, .val (.int z3)] [.null])) _
          jvm_step Xl.here [Xl.here.top, hx, (hb hby d12_47), Xl.method', Bd.returns, Value.isRef, FieldType.isReference]
          first | (intro acts; rw [hr _ acts rfl rfl rfl]) | rw [hr _ _ rfl rfl rfl]
          exact Steps.refl _
        · show Q_rget Z a1 a2 u n x P zc h0 n0 _ Tl.heap _
          rw [el]
          exact ⟨.null, rfl, Nl, rfl, Or.inr ⟨fun z => hP x (ix.mp z), rfl⟩⟩
      · skip
        obtain ⟨gq, aq, kaq, vaq, xq, vlq, vrq, nlq, nrq, PLq, PRq, efq, evq, Nq, Sq, hxq, hnq, b1q, b2q, TLq, TRq, p1q, p2q, hPq⟩ := own_open Tk (Nat.pos_of_ne_zero hn)
        subst evq
        obtain rfl : gq = 1 := by omega
        have qlq := TLq.le
        have qrq := TRq.le
        refine Gl.step (B := (Tl.setTop (mkF m 11 #[.val (.ref a1), .val (.ref a2), .val (.ref aq), .val (.int z3)] [(.ref aq), (.ref a2)]))) (fun t k => XS.aloadN Xl.here hx rfl (hb hby d12_5) rfl rfl (XS.ifnullNo Xl.here hx rfl (hb hby d12_6) rfl (XS.aloadN Xl.here hx rfl (hb hby d12_9) rfl rfl (XS.aloadN Xl.here hx rfl (hb hby d12_10) rfl rfl k)))) ?_
        obtain ⟨T6, X6, e6, st6⟩ := own_getFR Xl hx hZ hown (t95 hw) el Nq.2.1 (g := (mkF m 11 #[.val (.ref a1), .val (.ref a2), .val (.ref aq), .val (.int z3)] [(.ref aq), (.ref a2)])) rfl rfl (hb hby d12_11)
        refine Gl.step (B := (T6.setTop (mkF m 14 #[.val (.ref a1), .val (.ref a2), .val (.ref aq), .val (.int z3)] [(.ref kaq), (.ref a2)]))) st6 ?_
        obtain ⟨cq7, kq7, q7a, q7b, q7c⟩ := isOf hZ e6 g_Str_a2.1
        obtain ⟨_, _, ⟨T7, L7, c7, z7⟩, -, X7, ⟨Lc7, hQ7, l7, y7, zz7⟩, st7⟩ := X6.virtualBack hx (y := y11) (z := y11) hown (mvT hZ (t96 hw)) (mvT hZ (t97 hw)) (notFace_of_selects (args := #[]) (mvT hZ (t99 hw))) (mvT hZ (t99 hw)) (mvT hZ (t98 hw)) (by decide) (backOf (W := 0) (rcmp l Z a0 hw [] a2 kaq x xq zc h0 n0 O0 pm0 (hz) g_Str_a2 Sq (hkx) (hxq)) hZ (t100 hw) (t7 hw) (by decide) (by decide)) q7a q7c (g := (mkF m 14 #[.val (.ref a1), .val (.ref a2), .val (.ref aq), .val (.int z3)] [(.ref kaq), (.ref a2)])) rfl (by rw [hml]; rfl) (Steps.refl _) (argsL := [(.ref kaq)]) (rest := []) (lenOf pd__Ljava_lang_String__I rfl) rfl (by show 2 * 0 + _ ≤ _; exact Nat.le_of_eq rfl) (hb hby d12_14) (fun _ _ => ⟨rfl, e6, (by decide : 0 + 0 ≤ _), (by decide : 0 + 0 ≤ _)⟩)
        dsimp only [Pt.U, Pt.locs, Pt.cells, Pt.slots] at X7 l7 y7 zz7 st7 hQ7
        subst y7 zz7
        obtain ⟨rfl, N7q, eh7⟩ := hQ7
        have N7 : Fr n0 L7 := Eq.mpr (congrArg (Fr n0) l7) (Fr.app Nl N7q)
        refine Gl.tr (B := (T7.setTop (mkF m 17 #[.val (.ref a1), .val (.ref a2), .val (.ref aq), .val (.int z3)] [(.int (x - xq))]))) st7 ?_
        refine Gl.step (B := (T7.setTop (mkF m 19 #[.val (.ref a1), .val (.ref a2), .val (.ref aq), .val (.int (x - xq))] [(.int (x - xq))]))) (fun t k => XS.istoreN X7.here hx rfl (hb hby d12_17) rfl (l' := #[.val (.ref a1), .val (.ref a2), .val (.ref aq), .val (.int (x - xq))]) rfl (XS.iloadN X7.here hx rfl (hb hby d12_18) rfl k)) ?_
        by_cases hlx : x < xq
        · skip
          refine Gl.step (B := (T7.setTop (mkF m 32 #[.val (.ref a1), .val (.ref a2), .val (.ref aq), .val (.int (x - xq))] [(.ref aq)]))) (fun t k => XS.ifYes X7.here hx rfl (pc0 := 19) (pc' := 27) rfl (hb hby d12_19) rfl ((if0 _ _).trans (feq (own_cnz hkx hxq (fun q => absurd (q ▸ hlx) Int32.lt_irrefl) : ¬ ((x - xq) = (0 : Int32)))).2) (by decide) (by decide) (XS.iloadN X7.here hx rfl (hb hby d12_27) rfl (XS.ifNo X7.here hx rfl (hb hby d12_28) rfl ((if0 _ _).trans (tlt (own_clt hkx hxq hlx : (x - xq) < (0 : Int32))).2.1) (XS.aloadN X7.here hx rfl (hb hby d12_31) rfl rfl k)))) ?_
          obtain ⟨T8, X8, e8, st8⟩ := own_getFR X7 hx hZ hown (t121 hw) eh7 Nq.2.2.2.1 (g := (mkF m 32 #[.val (.ref a1), .val (.ref a2), .val (.ref aq), .val (.int (x - xq))] [(.ref aq)])) rfl rfl (hb hby d12_32)
          refine Gl.step (B := (T8.setTop (mkF m 35 #[.val (.ref a1), .val (.ref a2), .val (.ref aq), .val (.int (x - xq))] [vlq]))) st8 ?_
          refine Gl.step (B := (T8.setTop (mkF m 5 #[.val (.ref a1), .val (.ref a2), .val vlq, .val (.int (x - xq))] []))) (fun t k => XS.goto X8.here hx rfl (pc0 := 35) (pc' := 42) rfl (hb hby d12_35) (by decide) (by decide) (XS.astoreN X8.here hx rfl (hb hby d12_42) rfl TLq.isRef (l' := #[.val (.ref a1), .val (.ref a2), .val vlq, .val (.int (x - xq))]) (XS.store1 rfl (Or.inr ⟨_, rfl, rfl⟩) (own_cat TLq.isRef)) (XS.goto X8.here hx rfl (pc0 := 43) (pc' := 5) rfl (hb hby d12_43) (by decide) (by decide) k))) ?_
          exact loop1 T8 _ (x - xq) vlq nlq PLq X8 e8 N7 TLq (ix.trans (own_gl hPq p2q hlx))
        · skip
          by_cases hrx : xq < x
          · skip
            refine Gl.step (B := (T7.setTop (mkF m 39 #[.val (.ref a1), .val (.ref a2), .val (.ref aq), .val (.int (x - xq))] [(.ref aq)]))) (fun t k => XS.ifYes X7.here hx rfl (pc0 := 19) (pc' := 27) rfl (hb hby d12_19) rfl ((if0 _ _).trans (feq (own_cnz hkx hxq (fun q => absurd (q ▸ hrx) Int32.lt_irrefl) : ¬ ((x - xq) = (0 : Int32)))).2) (by decide) (by decide) (XS.iloadN X7.here hx rfl (hb hby d12_27) rfl (XS.ifYes X7.here hx rfl (pc0 := 28) (pc' := 38) rfl (hb hby d12_28) rfl ((if0 _ _).trans (flt (own_cnl hkx hxq hlx : ¬ ((x - xq) < (0 : Int32)))).2.1) (by decide) (by decide) (XS.aloadN X7.here hx rfl (hb hby d12_38) rfl rfl k)))) ?_
            obtain ⟨T9, X9, e9, st9⟩ := own_getFR X7 hx hZ hown (t122 hw) eh7 Nq.2.2.2.2.1 (g := (mkF m 39 #[.val (.ref a1), .val (.ref a2), .val (.ref aq), .val (.int (x - xq))] [(.ref aq)])) rfl rfl (hb hby d12_39)
            refine Gl.step (B := (T9.setTop (mkF m 42 #[.val (.ref a1), .val (.ref a2), .val (.ref aq), .val (.int (x - xq))] [vrq]))) st9 ?_
            refine Gl.step (B := (T9.setTop (mkF m 5 #[.val (.ref a1), .val (.ref a2), .val vrq, .val (.int (x - xq))] []))) (fun t k => XS.astoreN X9.here hx rfl (hb hby d12_42) rfl TRq.isRef (l' := #[.val (.ref a1), .val (.ref a2), .val vrq, .val (.int (x - xq))]) (XS.store1 rfl (Or.inr ⟨_, rfl, rfl⟩) (own_cat TRq.isRef)) (XS.goto X9.here hx rfl (pc0 := 43) (pc' := 5) rfl (hb hby d12_43) (by decide) (by decide) k)) ?_
            exact loop1 T9 _ (x - xq) vrq nrq PRq X9 e9 N7 TRq (ix.trans (own_gr hPq p1q hrx))
          · skip
            refine Gl.step (B := (T7.setTop (mkF m 23 #[.val (.ref a1), .val (.ref a2), .val (.ref aq), .val (.int (x - xq))] [(.ref aq)]))) (fun t k => XS.ifNo X7.here hx rfl (hb hby d12_19) rfl ((if0 _ _).trans (teq (own_cz (own_tri hlx hrx) : (x - xq) = (0 : Int32))).2) (XS.aloadN X7.here hx rfl (hb hby d12_22) rfl rfl k)) ?_
            obtain ⟨T10, X10, e10, st10⟩ := own_getFR X7 hx hZ hown (t120 hw) eh7 Nq.2.2.1 (g := (mkF m 23 #[.val (.ref a1), .val (.ref a2), .val (.ref aq), .val (.int (x - xq))] [(.ref aq)])) rfl rfl (hb hby d12_23)
            refine Gl.step (B := (T10.setTop (mkF m 26 #[.val (.ref a1), .val (.ref a2), .val (.ref aq), .val (.int (x - xq))] [(.ref vaq)]))) st10 ?_
            obtain ⟨fs, hr, hrun, hended, hW, hsame⟩ := X10.leave (v := some (.ref vaq)) (fun h => by rw [Bd.returns] at h; cases h)
            refine ⟨_, _, ?_, hrun, hended, _, _, rfl, ?_, ⟨_, rfl⟩, hW, hsame.mono (by decide) (by decide)⟩
            · show Steps p.tables e below (T10.setTop (mkF m 26 #[.val (.ref a1), .val (.ref a2), .val (.ref aq), .val (.int (x - xq))] [(.ref vaq)])) _
              jvm_step X10.here [X10.here.top, hx, (hb hby d12_26), X10.method', Bd.returns, Value.isRef, FieldType.isReference]
              first | (intro acts; rw [hr _ acts rfl rfl rfl]) | rw [hr _ _ rfl rfl rfl]
              exact Steps.refl _
            · show Q_rget Z a1 a2 u n x P zc h0 n0 _ T10.heap _
              rw [e10]
              exact ⟨(.ref vaq), rfl, N7, rfl, Or.inl ⟨ix.mpr ((hPq x).mpr (Or.inl (own_tri hlx hrx))), vaq, rfl⟩⟩
    have ix : P x ↔ P x := Iff.rfl
    by_cases hn : n = 0
    · skip
      obtain ⟨hu, hP⟩ := own_zero g_Tree_u hn
      subst hu
      refine Gl.step (B := (s₁.setTop (mkF m 1 #[.val (.ref a1), .val (.ref a2), .unset, .unset] [(.ref a1)]))) (fun t k => XS.aloadN X0.here hx rfl (hb hby d12_0) rfl rfl k) ?_
      obtain ⟨T11, X11, e11, st11⟩ := getF X0 hx hZ hown (host := "") (Or.inl (t44 hw)) Via.refl e0 pm2 (g := (mkF m 1 #[.val (.ref a1), .val (.ref a2), .unset, .unset] [(.ref a1)])) rfl rfl (hb hby d12_1)
      refine Gl.step (B := (T11.setTop (mkF m 4 #[.val (.ref a1), .val (.ref a2), .unset, .unset] [.null]))) st11 ?_
      refine Gl.step (B := (T11.setTop (mkF m 47 #[.val (.ref a1), .val (.ref a2), .val .null, .unset] [.null]))) (fun t k => XS.astoreN X11.here hx rfl (hb hby d12_4) rfl rfl (l' := #[.val (.ref a1), .val (.ref a2), .val .null, .unset]) rfl (XS.aloadN X11.here hx rfl (hb hby d12_5) rfl rfl (XS.ifnullYes X11.here hx rfl (pc0 := 6) (pc' := 46) rfl (hb hby d12_6) rfl (by decide) (by decide) (XS.aconstNull X11.here hx rfl (hb hby d12_46) k)))) ?_
      obtain ⟨fs, hr, hrun, hended, hW, hsame⟩ := X11.leave (v := some .null) (fun h => by rw [Bd.returns] at h; cases h)
      refine ⟨_, _, ?_, hrun, hended, _, _, rfl, ?_, ⟨_, rfl⟩, hW, hsame.mono (by decide) (by decide)⟩
      · show Steps p.tables e below (T11.setTop (mkF m 47 #[.val (.ref a1), .val (.ref a2), .val .null, .unset] [.null])) _
        jvm_step X11.here [X11.here.top, hx, (hb hby d12_47), X11.method', Bd.returns, Value.isRef, FieldType.isReference]
        first | (intro acts; rw [hr _ acts rfl rfl rfl]) | rw [hr _ _ rfl rfl rfl]
        exact Steps.refl _
      · show Q_rget Z a1 a2 .null n x P zc h0 n0 _ T11.heap _
        rw [e11]
        exact ⟨.null, rfl, N0, rfl, Or.inr ⟨fun z => hP x (ix.mp z), rfl⟩⟩
    · skip
      obtain ⟨gq, aq, kaq, vaq, xq, vlq, vrq, nlq, nrq, PLq, PRq, efq, evq, Nq, Sq, hxq, hnq, b1q, b2q, TLq, TRq, p1q, p2q, hPq⟩ := own_open g_Tree_u (Nat.pos_of_ne_zero hn)
      subst evq
      obtain rfl : gq = 2 := by omega
      have qlq := TLq.le
      have qrq := TRq.le
      refine Gl.step (B := (s₁.setTop (mkF m 1 #[.val (.ref a1), .val (.ref a2), .unset, .unset] [(.ref a1)]))) (fun t k => XS.aloadN X0.here hx rfl (hb hby d12_0) rfl rfl k) ?_
      obtain ⟨T12, X12, e12, st12⟩ := getF X0 hx hZ hown (host := "") (Or.inl (t44 hw)) Via.refl e0 pm2 (g := (mkF m 1 #[.val (.ref a1), .val (.ref a2), .unset, .unset] [(.ref a1)])) rfl rfl (hb hby d12_1)
      refine Gl.step (B := (T12.setTop (mkF m 4 #[.val (.ref a1), .val (.ref a2), .unset, .unset] [(.ref aq)]))) st12 ?_
      refine Gl.step (B := (T12.setTop (mkF m 11 #[.val (.ref a1), .val (.ref a2), .val (.ref aq), .unset] [(.ref aq), (.ref a2)]))) (fun t k => XS.astoreN X12.here hx rfl (hb hby d12_4) rfl rfl (l' := #[.val (.ref a1), .val (.ref a2), .val (.ref aq), .unset]) rfl (XS.aloadN X12.here hx rfl (hb hby d12_5) rfl rfl (XS.ifnullNo X12.here hx rfl (hb hby d12_6) rfl (XS.aloadN X12.here hx rfl (hb hby d12_9) rfl rfl (XS.aloadN X12.here hx rfl (hb hby d12_10) rfl rfl k))))) ?_
      obtain ⟨T13, X13, e13, st13⟩ := own_getFR X12 hx hZ hown (t95 hw) e12 Nq.2.1 (g := (mkF m 11 #[.val (.ref a1), .val (.ref a2), .val (.ref aq), .unset] [(.ref aq), (.ref a2)])) rfl rfl (hb hby d12_11)
      refine Gl.step (B := (T13.setTop (mkF m 14 #[.val (.ref a1), .val (.ref a2), .val (.ref aq), .unset] [(.ref kaq), (.ref a2)]))) st13 ?_
      obtain ⟨cq14, kq14, q14a, q14b, q14c⟩ := isOf hZ e13 g_Str_a2.1
      obtain ⟨_, _, ⟨T14, L14, c14, z14⟩, -, X14, ⟨Lc14, hQ14, l14, y14, zz14⟩, st14⟩ := X13.virtualBack hx (y := y11) (z := y11) hown (mvT hZ (t96 hw)) (mvT hZ (t97 hw)) (notFace_of_selects (args := #[]) (mvT hZ (t99 hw))) (mvT hZ (t99 hw)) (mvT hZ (t98 hw)) (by decide) (backOf (W := 0) (rcmp l Z a0 hw [] a2 kaq x xq zc h0 n0 O0 pm0 (hz) g_Str_a2 Sq (hkx) (hxq)) hZ (t100 hw) (t7 hw) (by decide) (by decide)) q14a q14c (g := (mkF m 14 #[.val (.ref a1), .val (.ref a2), .val (.ref aq), .unset] [(.ref kaq), (.ref a2)])) rfl (by rw [hml]; rfl) (Steps.refl _) (argsL := [(.ref kaq)]) (rest := []) (lenOf pd__Ljava_lang_String__I rfl) rfl (by show 2 * 0 + _ ≤ _; exact Nat.le_of_eq rfl) (hb hby d12_14) (fun _ _ => ⟨rfl, e13, (by decide : 0 + 0 ≤ _), (by decide : 0 + 0 ≤ _)⟩)
      dsimp only [Pt.U, Pt.locs, Pt.cells, Pt.slots] at X14 l14 y14 zz14 st14 hQ14
      subst y14 zz14
      obtain ⟨rfl, N14q, eh14⟩ := hQ14
      have N14 : Fr n0 L14 := Eq.mpr (congrArg (Fr n0) l14) (Fr.app N0 N14q)
      refine Gl.tr (B := (T14.setTop (mkF m 17 #[.val (.ref a1), .val (.ref a2), .val (.ref aq), .unset] [(.int (x - xq))]))) st14 ?_
      refine Gl.step (B := (T14.setTop (mkF m 19 #[.val (.ref a1), .val (.ref a2), .val (.ref aq), .val (.int (x - xq))] [(.int (x - xq))]))) (fun t k => XS.istoreN X14.here hx rfl (hb hby d12_17) rfl (l' := #[.val (.ref a1), .val (.ref a2), .val (.ref aq), .val (.int (x - xq))]) rfl (XS.iloadN X14.here hx rfl (hb hby d12_18) rfl k)) ?_
      by_cases hlx : x < xq
      · skip
        refine Gl.step (B := (T14.setTop (mkF m 32 #[.val (.ref a1), .val (.ref a2), .val (.ref aq), .val (.int (x - xq))] [(.ref aq)]))) (fun t k => XS.ifYes X14.here hx rfl (pc0 := 19) (pc' := 27) rfl (hb hby d12_19) rfl ((if0 _ _).trans (feq (own_cnz hkx hxq (fun q => absurd (q ▸ hlx) Int32.lt_irrefl) : ¬ ((x - xq) = (0 : Int32)))).2) (by decide) (by decide) (XS.iloadN X14.here hx rfl (hb hby d12_27) rfl (XS.ifNo X14.here hx rfl (hb hby d12_28) rfl ((if0 _ _).trans (tlt (own_clt hkx hxq hlx : (x - xq) < (0 : Int32))).2.1) (XS.aloadN X14.here hx rfl (hb hby d12_31) rfl rfl k)))) ?_
        obtain ⟨T15, X15, e15, st15⟩ := own_getFR X14 hx hZ hown (t121 hw) eh14 Nq.2.2.2.1 (g := (mkF m 32 #[.val (.ref a1), .val (.ref a2), .val (.ref aq), .val (.int (x - xq))] [(.ref aq)])) rfl rfl (hb hby d12_32)
        refine Gl.step (B := (T15.setTop (mkF m 35 #[.val (.ref a1), .val (.ref a2), .val (.ref aq), .val (.int (x - xq))] [vlq]))) st15 ?_
        refine Gl.step (B := (T15.setTop (mkF m 5 #[.val (.ref a1), .val (.ref a2), .val vlq, .val (.int (x - xq))] []))) (fun t k => XS.goto X15.here hx rfl (pc0 := 35) (pc' := 42) rfl (hb hby d12_35) (by decide) (by decide) (XS.astoreN X15.here hx rfl (hb hby d12_42) rfl TLq.isRef (l' := #[.val (.ref a1), .val (.ref a2), .val vlq, .val (.int (x - xq))]) (XS.store1 rfl (Or.inr ⟨_, rfl, rfl⟩) (own_cat TLq.isRef)) (XS.goto X15.here hx rfl (pc0 := 43) (pc' := 5) rfl (hb hby d12_43) (by decide) (by decide) k))) ?_
        exact loop2 T15 _ (x - xq) vlq nlq PLq X15 e15 N14 TLq (ix.trans (own_gl hPq p2q hlx))
      · skip
        by_cases hrx : xq < x
        · skip
          refine Gl.step (B := (T14.setTop (mkF m 39 #[.val (.ref a1), .val (.ref a2), .val (.ref aq), .val (.int (x - xq))] [(.ref aq)]))) (fun t k => XS.ifYes X14.here hx rfl (pc0 := 19) (pc' := 27) rfl (hb hby d12_19) rfl ((if0 _ _).trans (feq (own_cnz hkx hxq (fun q => absurd (q ▸ hrx) Int32.lt_irrefl) : ¬ ((x - xq) = (0 : Int32)))).2) (by decide) (by decide) (XS.iloadN X14.here hx rfl (hb hby d12_27) rfl (XS.ifYes X14.here hx rfl (pc0 := 28) (pc' := 38) rfl (hb hby d12_28) rfl ((if0 _ _).trans (flt (own_cnl hkx hxq hlx : ¬ ((x - xq) < (0 : Int32)))).2.1) (by decide) (by decide) (XS.aloadN X14.here hx rfl (hb hby d12_38) rfl rfl k)))) ?_
          obtain ⟨T16, X16, e16, st16⟩ := own_getFR X14 hx hZ hown (t122 hw) eh14 Nq.2.2.2.2.1 (g := (mkF m 39 #[.val (.ref a1), .val (.ref a2), .val (.ref aq), .val (.int (x - xq))] [(.ref aq)])) rfl rfl (hb hby d12_39)
          refine Gl.step (B := (T16.setTop (mkF m 42 #[.val (.ref a1), .val (.ref a2), .val (.ref aq), .val (.int (x - xq))] [vrq]))) st16 ?_
          refine Gl.step (B := (T16.setTop (mkF m 5 #[.val (.ref a1), .val (.ref a2), .val vrq, .val (.int (x - xq))] []))) (fun t k => XS.astoreN X16.here hx rfl (hb hby d12_42) rfl TRq.isRef (l' := #[.val (.ref a1), .val (.ref a2), .val vrq, .val (.int (x - xq))]) (XS.store1 rfl (Or.inr ⟨_, rfl, rfl⟩) (own_cat TRq.isRef)) (XS.goto X16.here hx rfl (pc0 := 43) (pc' := 5) rfl (hb hby d12_43) (by decide) (by decide) k)) ?_
          exact loop2 T16 _ (x - xq) vrq nrq PRq X16 e16 N14 TRq (ix.trans (own_gr hPq p1q hrx))
        · skip
          refine Gl.step (B := (T14.setTop (mkF m 23 #[.val (.ref a1), .val (.ref a2), .val (.ref aq), .val (.int (x - xq))] [(.ref aq)]))) (fun t k => XS.ifNo X14.here hx rfl (hb hby d12_19) rfl ((if0 _ _).trans (teq (own_cz (own_tri hlx hrx) : (x - xq) = (0 : Int32))).2) (XS.aloadN X14.here hx rfl (hb hby d12_22) rfl rfl k)) ?_
          obtain ⟨T17, X17, e17, st17⟩ := own_getFR X14 hx hZ hown (t120 hw) eh14 Nq.2.2.1 (g := (mkF m 23 #[.val (.ref a1), .val (.ref a2), .val (.ref aq), .val (.int (x - xq))] [(.ref aq)])) rfl rfl (hb hby d12_23)
          refine Gl.step (B := (T17.setTop (mkF m 26 #[.val (.ref a1), .val (.ref a2), .val (.ref aq), .val (.int (x - xq))] [(.ref vaq)]))) st17 ?_
          obtain ⟨fs, hr, hrun, hended, hW, hsame⟩ := X17.leave (v := some (.ref vaq)) (fun h => by rw [Bd.returns] at h; cases h)
          refine ⟨_, _, ?_, hrun, hended, _, _, rfl, ?_, ⟨_, rfl⟩, hW, hsame.mono (by decide) (by decide)⟩
          · show Steps p.tables e below (T17.setTop (mkF m 26 #[.val (.ref a1), .val (.ref a2), .val (.ref aq), .val (.int (x - xq))] [(.ref vaq)])) _
            jvm_step X17.here [X17.here.top, hx, (hb hby d12_26), X17.method', Bd.returns, Value.isRef, FieldType.isReference]
            first | (intro acts; rw [hr _ acts rfl rfl rfl]) | rw [hr _ _ rfl rfl rfl]
            exact Steps.refl _
          · show Q_rget Z a1 a2 (.ref aq) n x P zc h0 n0 _ T17.heap _
            rw [e17]
            exact ⟨(.ref vaq), rfl, N14, rfl, Or.inl ⟨ix.mpr ((hPq x).mpr (Or.inl (own_tri hlx hrx))), vaq, rfl⟩⟩
  obtain ⟨s₂, o, g1, g2, g3, g4⟩ := go
  exact ⟨s₂, o, castTop (ef_rget m a1 a2) g1, g2, g3, g4⟩
theorem ef_rwith (m : MethodId) (x0 : Addr) (x1 : Addr) (x2 : Addr) : entryFrame m #[(.ref x0), (.ref x1), (.ref x2)] 3 = mkF m 0 #[.val (.ref x0), .val (.ref x1), .val (.ref x2)] [] := by first | (simp [entryFrame, mkF, argsToLocals, Value.category]; done) | rfl
abbrev y18 : MethodName := ⟨"com/example/isogloss/isogloss/util/PersistentMap", "with", "(Ljava/lang/String;Ljava/lang/Object;)Lcom/example/isogloss/isogloss/util/PersistentMap;"⟩
theorem d11_0 : decode prog_164_method_5_code 0 = .ok (.aload_n 0, 1) := by decide +kernel
theorem d11_1 : decode prog_164_method_5_code 1 = .ok (.aload_n 1, 1) := by decide +kernel
theorem d11_2 : decode prog_164_method_5_code 2 = .ok (.invokevirtual 46, 3) := by decide +kernel
theorem pd__Ljava_lang_String__Ljava_lang_Object_ : parseMethodDescriptor "(Ljava/lang/String;)Ljava/lang/Object;" = some ⟨[(.object "java/lang/String")], some (.object "java/lang/Object")⟩ := by decide +kernel
theorem d11_5 : decode prog_164_method_5_code 5 = .ok (.ifnull 25, 3) := by decide +kernel
theorem d11_8 : decode prog_164_method_5_code 8 = .ok (.new 2, 3) := by decide +kernel
theorem d11_11 : decode prog_164_method_5_code 11 = .ok (.dup, 1) := by decide +kernel
theorem d11_12 : decode prog_164_method_5_code 12 = .ok (.aload_n 0, 1) := by decide +kernel
theorem d11_13 : decode prog_164_method_5_code 13 = .ok (.getfield 12, 3) := by decide +kernel
theorem d11_16 : decode prog_164_method_5_code 16 = .ok (.aload_n 1, 1) := by decide +kernel
theorem d11_17 : decode prog_164_method_5_code 17 = .ok (.aload_n 2, 1) := by decide +kernel
theorem d11_18 : decode prog_164_method_5_code 18 = .ok (.invokestatic 50, 3) := by decide +kernel
theorem d11_21 : decode prog_164_method_5_code 21 = .ok (.aload_n 0, 1) := by decide +kernel
theorem d11_22 : decode prog_164_method_5_code 22 = .ok (.getfield 16, 3) := by decide +kernel
theorem d11_25 : decode prog_164_method_5_code 25 = .ok (.aconst_null, 1) := by decide +kernel
theorem d11_26 : decode prog_164_method_5_code 26 = .ok (.invokespecial 1, 3) := by decide +kernel
theorem d11_29 : decode prog_164_method_5_code 29 = .ok (.areturn, 1) := by decide +kernel
theorem d11_30 : decode prog_164_method_5_code 30 = .ok (.new 2, 3) := by decide +kernel
theorem d11_33 : decode prog_164_method_5_code 33 = .ok (.dup, 1) := by decide +kernel
theorem d11_34 : decode prog_164_method_5_code 34 = .ok (.aload_n 0, 1) := by decide +kernel
theorem d11_35 : decode prog_164_method_5_code 35 = .ok (.getfield 12, 3) := by decide +kernel
theorem d11_38 : decode prog_164_method_5_code 38 = .ok (.aload_n 1, 1) := by decide +kernel
theorem d11_39 : decode prog_164_method_5_code 39 = .ok (.aload_n 2, 1) := by decide +kernel
theorem d11_40 : decode prog_164_method_5_code 40 = .ok (.invokestatic 50, 3) := by decide +kernel
theorem d11_43 : decode prog_164_method_5_code 43 = .ok (.aload_n 0, 1) := by decide +kernel
theorem d11_44 : decode prog_164_method_5_code 44 = .ok (.getfield 16, 3) := by decide +kernel
theorem d11_47 : decode prog_164_method_5_code 47 = .ok (.iconst 1, 1) := by decide +kernel
theorem d11_48 : decode prog_164_method_5_code 48 = .ok (.iadd, 1) := by decide +kernel
theorem d11_49 : decode prog_164_method_5_code 49 = .ok (.aload_n 0, 1) := by decide +kernel
theorem d11_50 : decode prog_164_method_5_code 50 = .ok (.invokespecial 1, 3) := by decide +kernel
theorem d11_53 : decode prog_164_method_5_code 53 = .ok (.areturn, 1) := by decide +kernel
def Q_rwith (Z : State) (a1 : Addr) (a2 : Addr) (a3 : Addr) (u : Value) (n : Nat) (x : Int32) (P : Int32 → Prop) (zc : Int32) (w : Int32) (h0 : Heap) (n0 : Nat) (v : Option Value) (h : Heap) (L : List Loc) : Prop := ∃ b : Addr, ∃ t : Addr, ∃ w2 : Int32, ∃ bs : Value, v = some (.ref b) ∧ Fr n0 L ∧ Keep h0 h [] ∧ (h0.size ≤ b) ∧ (Exa Z h b own_PM) ∧ (Fld Z h b own_PM "root" own_LN (.ref t)) ∧ (Fld Z h b own_PM "size" "I" (.int w2)) ∧ (Fld Z h b own_PM "base" own_LP bs) ∧ (PutP Z h 3 n t x P) ∧ ((P x ∧ w2 = w ∧ bs = .null) ∨ (¬ P x ∧ w2 = w + 1 ∧ bs = .ref a1))
set_option maxRecDepth 65536 in
set_option maxHeartbeats 40000000 in
theorem rwith (l : Launch) (Z : State) (a0 : Array Value) (hw : ∀ d ∈ tables_1, d.before a0 Z = true) (ws : List Jvm.Cond) (a1 : Addr) (a2 : Addr) (a3 : Addr) (u : Value) (n : Nat) (x : Int32) (P : Int32 → Prop) (zc : Int32) (w : Int32) (h0 : Heap) (n0 : Nat) (O0 : Old Z n0 h0) (pm0 : Sta Z Z.heap "java/lang/String" "COMPACT_STRINGS" "Z" (.int zc)) (hz : ¬ (zc = (0 : Int32))) (pm2 : Exa Z h0 a1 own_PM) (pm3 : Fld Z h0 a1 own_PM "root" own_LN u) (pm4 : Fld Z h0 a1 own_PM "size" "I" (.int w)) (g_Str_a2 : Str Z h0 a2 x) (hkx : Ky x) (g_Tree_u : Tree Z h0 3 n u P) :
    MetFree l y18 (head1 (Jvm.Cond.code y18 prog_164_method_5_code 3 (some (.object "com/example/isogloss/isogloss/util/PersistentMap")) :: ws) ({ frames := 7, cells := 11, slots := 53, locals := 116 } : Room)) (fun a U => a = #[(.ref a1), (.ref a2), (.ref a3)] ∧ Z.Warmed39 U.vm ∧ U.heap = h0) (fun _ _ _ _ _ => True) (fun _ U o U' => ∃ v L, o = .returned v ∧ Q_rwith Z a1 a2 a3 u n x P zc w h0 n0 v U'.heap L ∧ FrameEnd U o U' L ({ frames := 7, cells := 11, slots := 53, locals := 116 } : Room).cells ({ frames := 7, cells := 11, slots := 53, locals := 116 } : Room).slots) := by
  refine MetFree.of_bodySF (plainFor_of_name pn_com_example_isogloss_isogloss_util_PersistentMap) hisR ?_
  intro p e s m args below meth c s₁ Bd hml0 hP hK
  obtain ⟨rfl, hZ, hh⟩ := hP
  have hx := Bd.exec
  have hby := Bd.bytes
  have hml : c.maxLocals = 3 := hml0
  have hown : s.vm.findClass own_PM = some m.cls := findClass_of_methodNamed Bd.named
  have hnm := (name_of_methodNamed Bd.named Bd.method).1
  have X0 : Stand p l e ({ frames := 7, cells := 11, slots := 53, locals := 116 } : Room) s m #[(.ref a1), (.ref a2), (.ref a3)] below meth c s₁ [] 0 0 := Stand.of_body Bd
  have e0 : s₁.heap = h0 := by rw [← hh, Bd.state]; rfl
  have N0 := Fr.nil n0
  have K0 : Keep h0 h0 [] := Keep.refl h0 _
  have go : Gl p.tables e below (fun o U' => ∃ v L, o = .returned v ∧ Q_rwith Z a1 a2 a3 u n x P zc w h0 n0 v U'.heap L ∧ FrameEnd s o U' L ({ frames := 7, cells := 11, slots := 53, locals := 116 } : Room).cells ({ frames := 7, cells := 11, slots := 53, locals := 116 } : Room).slots) (s₁.setTop (mkF m 0 #[.val (.ref a1), .val (.ref a2), .val (.ref a3)] [])) := by
    refine Gl.step (B := (s₁.setTop (mkF m 2 #[.val (.ref a1), .val (.ref a2), .val (.ref a3)] [(.ref a2), (.ref a1)]))) (fun t k => XS.aloadN X0.here hx rfl (hb hby d11_0) rfl rfl (XS.aloadN X0.here hx rfl (hb hby d11_1) rfl rfl k)) ?_
    obtain ⟨cq1, kq1, q1a, q1b, q1c⟩ := isOf hZ e0 pm2
    obtain ⟨_, _, ⟨T1, L1, c1, z1⟩, -, X1, ⟨Lc1, hQ1, l1, y1, zz1⟩, st1⟩ := X0.virtualBack hx (y := y17) (z := y17) hown (mvT hZ (t62 hw)) (mvT hZ (t63 hw)) (notFace_of_selects (args := #[]) (mvT hZ (t65 hw))) (mvT hZ (t65 hw)) (mvT hZ (t64 hw)) (by decide) (backOf (W := 0) (rget l Z a0 hw [] a1 a2 u n x P zc h0 n0 O0 pm0 (hz) pm3 g_Str_a2 (hkx) g_Tree_u) hZ (t66 hw) (t36 hw) (by decide) (by decide)) q1a q1c (g := (mkF m 2 #[.val (.ref a1), .val (.ref a2), .val (.ref a3)] [(.ref a2), (.ref a1)])) rfl (by rw [hml]; rfl) (Steps.refl _) (argsL := [(.ref a2)]) (rest := []) (lenOf pd__Ljava_lang_String__Ljava_lang_Object_ rfl) rfl (by show 2 * 0 + _ ≤ _; exact Nat.le_of_eq rfl) (hb hby d11_2) (fun _ _ => ⟨rfl, e0, (by decide : 0 + 0 ≤ _), (by decide : 0 + 0 ≤ _)⟩)
    dsimp only [Pt.U, Pt.locs, Pt.cells, Pt.slots] at X1 l1 y1 zz1 st1 hQ1
    subst y1 zz1
    obtain ⟨vv_1, rfl, N1q, eh1, hG_1⟩ := hQ1
    have N1 : Fr n0 L1 := Eq.mpr (congrArg (Fr n0) l1) (Fr.app N0 N1q)
    refine Gl.tr (B := (T1.setTop (mkF m 5 #[.val (.ref a1), .val (.ref a2), .val (.ref a3)] [vv_1]))) st1 ?_
    rcases hG_1 with ⟨hp, va, hv⟩ | ⟨hp, hv⟩
    · skip
      subst hv
      refine Gl.step (B := (T1.setTop (mkF m 8 #[.val (.ref a1), .val (.ref a2), .val (.ref a3)] []))) (fun t k => XS.ifnullNo X1.here hx rfl (hb hby d11_5) rfl k) ?_
      obtain ⟨T2, h2, X2, e2, E2, A2, D2, -, st2⟩ := newO X1 hx hZ hown (t67 hw) (t35 hw) (t36 hw) eh1 (g := (mkF m 8 #[.val (.ref a1), .val (.ref a2), .val (.ref a3)] [])) rfl (hb hby d11_8) (by decide) (by decide)
      obtain ⟨b2, g2⟩ : ∃ z, z = h0.size := ⟨_, rfl⟩
      rw [← g2] at A2 D2 st2
      have ge_b2 : n0 ≤ b2 := Nat.le_trans (own_oz O0) (Nat.le_of_eq g2.symm)
      have sz_b2 : h0.size ≤ b2 := Nat.le_trans K0.1 (Nat.le_of_eq g2.symm)
      have O3 : Old Z n0 h2 := O0.ext E2
      have K3 : Keep h0 h2 [] := K0.ext E2
      have F2_root : Fld Z h2 b2 own_PM "root" own_LN .null := D2 (Or.inr (t45 hw)) (ty := (.object "com/example/isogloss/isogloss/util/PersistentMap$Node")) (by decide)
      have F2_size : Fld Z h2 b2 own_PM "size" "I" (.int (0 : Int32)) := D2 (Or.inr (t47 hw)) (ty := .int) (by decide)
      have F2_base : Fld Z h2 b2 own_PM "base" own_LP .null := D2 (Or.inr (t49 hw)) (ty := (.object "com/example/isogloss/isogloss/util/PersistentMap")) (by decide)
      refine Gl.step (B := (T2.setTop (mkF m 11 #[.val (.ref a1), .val (.ref a2), .val (.ref a3)] [(.ref b2)]))) st2 ?_
      refine Gl.step (B := (T2.setTop (mkF m 13 #[.val (.ref a1), .val (.ref a2), .val (.ref a3)] [(.ref a1), (.ref b2), (.ref b2)]))) (fun t k => XS.dup X2.here hx rfl (hb hby d11_11) rfl rfl (XS.aloadN X2.here hx rfl (hb hby d11_12) rfl rfl k)) ?_
      have f4 := (pm3.ext (own_ke K3))
      obtain ⟨T5, X5, e5, st5⟩ := getF X2 hx hZ hown (host := "") (Or.inl (t44 hw)) Via.refl e2 f4 (g := (mkF m 13 #[.val (.ref a1), .val (.ref a2), .val (.ref a3)] [(.ref a1), (.ref b2), (.ref b2)])) rfl rfl (hb hby d11_13)
      refine Gl.step (B := (T5.setTop (mkF m 16 #[.val (.ref a1), .val (.ref a2), .val (.ref a3)] [u, (.ref b2), (.ref b2)]))) st5 ?_
      refine Gl.step (B := (T5.setTop (mkF m 18 #[.val (.ref a1), .val (.ref a2), .val (.ref a3)] [(.ref a3), (.ref a2), u, (.ref b2), (.ref b2)]))) (fun t k => XS.aloadN X5.here hx rfl (hb hby d11_16) rfl rfl (XS.aloadN X5.here hx rfl (hb hby d11_17) rfl rfl k)) ?_
      have f6 := (g_Str_a2.ext (own_ke K3))
      have f7 := (g_Tree_u.ext (own_ke K3))
      obtain ⟨_, _, ⟨T8, L8, c8, z8⟩, -, X8, ⟨Lc8, hQ8, l8, y8, zz8⟩, st8⟩ := Jvm.LawKit.callS X5 hx (y := y16) hown (mvT hZ (t68 hw)) (mvT hZ (t69 hw)) (mvT hZ (t36 hw)) (mvT hZ (t70 hw)) (by decide) (backOf (W := 2) (rput3 l Z a0 hw [] u a2 a3 n x P zc h2 n0 O3 pm0 (hz) f6 (hkx) f7) hZ (t70 hw) (t36 hw) (by decide) (by decide)) (g := (mkF m 18 #[.val (.ref a1), .val (.ref a2), .val (.ref a3)] [(.ref a3), (.ref a2), u, (.ref b2), (.ref b2)])) rfl (by rw [hml]; rfl) (argsL := [u, (.ref a2), (.ref a3)]) (rest := [(.ref b2), (.ref b2)]) (lenOf pd__Lcom_example_isogloss_isogloss_util_PersistentMap_Node_Ljava_lang_String_Ljava_lang_Object__Lcom_example_isogloss_isogloss_util_PersistentMap_Node_ rfl) rfl (by show 2 * 0 + _ ≤ _; exact Nat.le_of_eq rfl) (hb hby d11_18) (fun _ _ => ⟨rfl, e5, (by decide : 1 + 10 ≤ _), (by decide : 3 + 50 ≤ _)⟩)
      dsimp only [Pt.U, Pt.locs, Pt.cells, Pt.slots] at X8 l8 y8 zz8 st8 hQ8
      subst y8 zz8
      obtain ⟨b_8, rfl, N8q, Kc8, r0_8, hT_8⟩ := hQ8
      have N8 : Fr n0 L8 := Eq.mpr (congrArg (Fr n0) l8) (Fr.app N1 N8q)
      have ge_b_8 : n0 ≤ b_8 := Nat.le_trans (own_oz O3) r0_8
      have sz_b_8 : h0.size ≤ b_8 := Nat.le_trans K3.1 r0_8
      have O9 : Old Z n0 T8.heap := O3.keep Kc8 all0
      have K9 : Keep h0 T8.heap [] := K3.trans Kc8 all0
      refine Gl.step (B := (T8.setTop (mkF m 21 #[.val (.ref a1), .val (.ref a2), .val (.ref a3)] [(.ref b_8), (.ref b2), (.ref b2)]))) st8 ?_
      refine Gl.step (B := (T8.setTop (mkF m 22 #[.val (.ref a1), .val (.ref a2), .val (.ref a3)] [(.ref a1), (.ref b_8), (.ref b2), (.ref b2)]))) (fun t k => XS.aloadN X8.here hx rfl (hb hby d11_21) rfl rfl k) ?_
      have f10 := (pm4.ext (own_ke K9))
      obtain ⟨T11, X11, e11, st11⟩ := getF X8 hx hZ hown (host := "") (Or.inl (t46 hw)) Via.refl rfl f10 (g := (mkF m 22 #[.val (.ref a1), .val (.ref a2), .val (.ref a3)] [(.ref a1), (.ref b_8), (.ref b2), (.ref b2)])) rfl rfl (hb hby d11_22)
      refine Gl.step (B := (T11.setTop (mkF m 25 #[.val (.ref a1), .val (.ref a2), .val (.ref a3)] [(.int w), (.ref b_8), (.ref b2), (.ref b2)]))) st11 ?_
      refine Gl.step (B := (T11.setTop (mkF m 26 #[.val (.ref a1), .val (.ref a2), .val (.ref a3)] [.null, (.int w), (.ref b_8), (.ref b2), (.ref b2)]))) (fun t k => XS.aconstNull X11.here hx rfl (hb hby d11_25) k) ?_
      have f12 := (A2.keep Kc8)
      have f13 := (F2_root.keep Kc8 nin0)
      have f14 := (F2_size.keep Kc8 nin0)
      have f15 := (F2_base.keep Kc8 nin0)
      obtain ⟨_, _, ⟨T16, L16, c16, z16⟩, -, X16, ⟨Lc16, hQ16, l16, y16, zz16⟩, st16⟩ := X11.specialBack hx (y := y13) rfl hown (mvT hZ (t40 hw)) (mvT hZ (t41 hw)) (mvT hZ (t42 hw)) (by decide) (backOf (W := 1) (ri3RN l Z a0 hw [] b2 b_8 w T8.heap n0 O9 f12 f13 f14 f15 ge_b2) hZ (t42 hw) (t36 hw) (by decide) (by decide)) (g := (mkF m 26 #[.val (.ref a1), .val (.ref a2), .val (.ref a3)] [.null, (.int w), (.ref b_8), (.ref b2), (.ref b2)])) rfl (by rw [hml]; rfl) (Steps.refl _) (a := b2) (argsL := [(.ref b_8), (.int w), .null]) (rest := [(.ref b2)]) (lenOf pd__Lcom_example_isogloss_isogloss_util_PersistentMap_Node_ILcom_example_isogloss_isogloss_util_PersistentMap__V rfl) rfl (by show 2 * 0 + _ ≤ _; exact Nat.le_of_eq rfl) (hb hby d11_26) (fun _ _ => ⟨rfl, e11, (by decide : 11 + 0 ≤ _), (by decide : 53 + 0 ≤ _)⟩)
      dsimp only [Pt.U, Pt.locs, Pt.cells, Pt.slots] at X16 l16 y16 zz16 st16 hQ16
      subst y16 zz16
      obtain ⟨rfl, N16q, Kc16, r0_16, r1_16, r2_16, r3_16⟩ := hQ16
      have N16 : Fr n0 L16 := Eq.mpr (congrArg (Fr n0) l16) (Fr.app N8 N16q)
      have O17 : Old Z n0 T16.heap := O9.keep Kc16 (allS ge_b2 all0)
      have K17 : Keep h0 T16.heap [] := K9.trans Kc16 (allS (Or.inr sz_b2) all0)
      refine Gl.tr (B := (T16.setTop (mkF m 29 #[.val (.ref a1), .val (.ref a2), .val (.ref a3)] [(.ref b2)]))) st16 ?_
      obtain ⟨fs, hr, hrun, hended, hW, hsame⟩ := X16.leave (v := some (.ref b2)) (fun h => by rw [Bd.returns] at h; cases h)
      refine ⟨_, _, ?_, hrun, hended, _, _, rfl, ?_, ⟨_, rfl⟩, hW, hsame.mono (by decide) (by decide)⟩
      · show Steps p.tables e below (T16.setTop (mkF m 29 #[.val (.ref a1), .val (.ref a2), .val (.ref a3)] [(.ref b2)])) _
        jvm_step X16.here [X16.here.top, hx, (hb hby d11_29), X16.method', Bd.returns, Value.isRef, FieldType.isReference]
        first | (intro acts; rw [hr _ acts rfl rfl rfl]) | rw [hr _ _ rfl rfl rfl]
        exact Steps.refl _
      · show Q_rwith Z a1 a2 a3 u n x P zc w h0 n0 _ T16.heap _
        exact ⟨b2, b_8, w, .null, rfl, N16, K17, sz_b2, r0_16, r1_16, r2_16, r3_16, hT_8.keepB Kc16 f12 (t35 hw), Or.inl ⟨hp, rfl, rfl⟩⟩
    · skip
      subst hv
      refine Gl.step (B := (T1.setTop (mkF m 30 #[.val (.ref a1), .val (.ref a2), .val (.ref a3)] []))) (fun t k => XS.ifnullYes X1.here hx rfl (pc0 := 5) (pc' := 30) rfl (hb hby d11_5) rfl (by decide) (by decide) k) ?_
      obtain ⟨T18, h18, X18, e18, E18, A18, D18, -, st18⟩ := newO X1 hx hZ hown (t67 hw) (t35 hw) (t36 hw) eh1 (g := (mkF m 30 #[.val (.ref a1), .val (.ref a2), .val (.ref a3)] [])) rfl (hb hby d11_30) (by decide) (by decide)
      obtain ⟨b18, g18⟩ : ∃ z, z = h0.size := ⟨_, rfl⟩
      rw [← g18] at A18 D18 st18
      have ge_b18 : n0 ≤ b18 := Nat.le_trans (own_oz O0) (Nat.le_of_eq g18.symm)
      have sz_b18 : h0.size ≤ b18 := Nat.le_trans K0.1 (Nat.le_of_eq g18.symm)
      have O19 : Old Z n0 h18 := O0.ext E18
      have K19 : Keep h0 h18 [] := K0.ext E18
      have F18_root : Fld Z h18 b18 own_PM "root" own_LN .null := D18 (Or.inr (t45 hw)) (ty := (.object "com/example/isogloss/isogloss/util/PersistentMap$Node")) (by decide)
      have F18_size : Fld Z h18 b18 own_PM "size" "I" (.int (0 : Int32)) := D18 (Or.inr (t47 hw)) (ty := .int) (by decide)
      have F18_base : Fld Z h18 b18 own_PM "base" own_LP .null := D18 (Or.inr (t49 hw)) (ty := (.object "com/example/isogloss/isogloss/util/PersistentMap")) (by decide)
      refine Gl.step (B := (T18.setTop (mkF m 33 #[.val (.ref a1), .val (.ref a2), .val (.ref a3)] [(.ref b18)]))) st18 ?_
      refine Gl.step (B := (T18.setTop (mkF m 35 #[.val (.ref a1), .val (.ref a2), .val (.ref a3)] [(.ref a1), (.ref b18), (.ref b18)]))) (fun t k => XS.dup X18.here hx rfl (hb hby d11_33) rfl rfl (XS.aloadN X18.here hx rfl (hb hby d11_34) rfl rfl k)) ?_
      have f20 := (pm3.ext (own_ke K19))
      obtain ⟨T21, X21, e21, st21⟩ := getF X18 hx hZ hown (host := "") (Or.inl (t44 hw)) Via.refl e18 f20 (g := (mkF m 35 #[.val (.ref a1), .val (.ref a2), .val (.ref a3)] [(.ref a1), (.ref b18), (.ref b18)])) rfl rfl (hb hby d11_35)
      refine Gl.step (B := (T21.setTop (mkF m 38 #[.val (.ref a1), .val (.ref a2), .val (.ref a3)] [u, (.ref b18), (.ref b18)]))) st21 ?_
      refine Gl.step (B := (T21.setTop (mkF m 40 #[.val (.ref a1), .val (.ref a2), .val (.ref a3)] [(.ref a3), (.ref a2), u, (.ref b18), (.ref b18)]))) (fun t k => XS.aloadN X21.here hx rfl (hb hby d11_38) rfl rfl (XS.aloadN X21.here hx rfl (hb hby d11_39) rfl rfl k)) ?_
      have f22 := (g_Str_a2.ext (own_ke K19))
      have f23 := (g_Tree_u.ext (own_ke K19))
      obtain ⟨_, _, ⟨T24, L24, c24, z24⟩, -, X24, ⟨Lc24, hQ24, l24, y24, zz24⟩, st24⟩ := Jvm.LawKit.callS X21 hx (y := y16) hown (mvT hZ (t68 hw)) (mvT hZ (t69 hw)) (mvT hZ (t36 hw)) (mvT hZ (t70 hw)) (by decide) (backOf (W := 2) (rput3 l Z a0 hw [] u a2 a3 n x P zc h18 n0 O19 pm0 (hz) f22 (hkx) f23) hZ (t70 hw) (t36 hw) (by decide) (by decide)) (g := (mkF m 40 #[.val (.ref a1), .val (.ref a2), .val (.ref a3)] [(.ref a3), (.ref a2), u, (.ref b18), (.ref b18)])) rfl (by rw [hml]; rfl) (argsL := [u, (.ref a2), (.ref a3)]) (rest := [(.ref b18), (.ref b18)]) (lenOf pd__Lcom_example_isogloss_isogloss_util_PersistentMap_Node_Ljava_lang_String_Ljava_lang_Object__Lcom_example_isogloss_isogloss_util_PersistentMap_Node_ rfl) rfl (by show 2 * 0 + _ ≤ _; exact Nat.le_of_eq rfl) (hb hby d11_40) (fun _ _ => ⟨rfl, e21, (by decide : 1 + 10 ≤ _), (by decide : 3 + 50 ≤ _)⟩)
      dsimp only [Pt.U, Pt.locs, Pt.cells, Pt.slots] at X24 l24 y24 zz24 st24 hQ24
      subst y24 zz24
      obtain ⟨b_24, rfl, N24q, Kc24, r0_24, hT_24⟩ := hQ24
      have N24 : Fr n0 L24 := Eq.mpr (congrArg (Fr n0) l24) (Fr.app N1 N24q)
      have ge_b_24 : n0 ≤ b_24 := Nat.le_trans (own_oz O19) r0_24
      have sz_b_24 : h0.size ≤ b_24 := Nat.le_trans K19.1 r0_24
      have O25 : Old Z n0 T24.heap := O19.keep Kc24 all0
      have K25 : Keep h0 T24.heap [] := K19.trans Kc24 all0
      refine Gl.step (B := (T24.setTop (mkF m 43 #[.val (.ref a1), .val (.ref a2), .val (.ref a3)] [(.ref b_24), (.ref b18), (.ref b18)]))) st24 ?_
      refine Gl.step (B := (T24.setTop (mkF m 44 #[.val (.ref a1), .val (.ref a2), .val (.ref a3)] [(.ref a1), (.ref b_24), (.ref b18), (.ref b18)]))) (fun t k => XS.aloadN X24.here hx rfl (hb hby d11_43) rfl rfl k) ?_
      have f26 := (pm4.ext (own_ke K25))
      obtain ⟨T27, X27, e27, st27⟩ := getF X24 hx hZ hown (host := "") (Or.inl (t46 hw)) Via.refl rfl f26 (g := (mkF m 44 #[.val (.ref a1), .val (.ref a2), .val (.ref a3)] [(.ref a1), (.ref b_24), (.ref b18), (.ref b18)])) rfl rfl (hb hby d11_44)
      refine Gl.step (B := (T27.setTop (mkF m 47 #[.val (.ref a1), .val (.ref a2), .val (.ref a3)] [(.int w), (.ref b_24), (.ref b18), (.ref b18)]))) st27 ?_
      refine Gl.step (B := (T27.setTop (mkF m 50 #[.val (.ref a1), .val (.ref a2), .val (.ref a3)] [(.ref a1), (.int (w + (1 : Int32))), (.ref b_24), (.ref b18), (.ref b18)]))) (fun t k => XS.iconst X27.here hx rfl (hb hby d11_47) (XS.iadd X27.here hx rfl (hb hby d11_48) rfl (XS.aloadN X27.here hx rfl (hb hby d11_49) rfl rfl k))) ?_
      have f28 := (A18.keep Kc24)
      have f29 := (F18_root.keep Kc24 nin0)
      have f30 := (F18_size.keep Kc24 nin0)
      have f31 := (F18_base.keep Kc24 nin0)
      obtain ⟨_, _, ⟨T32, L32, c32, z32⟩, -, X32, ⟨Lc32, hQ32, l32, y32, zz32⟩, st32⟩ := X27.specialBack hx (y := y13) rfl hown (mvT hZ (t40 hw)) (mvT hZ (t41 hw)) (mvT hZ (t42 hw)) (by decide) (backOf (W := 1) (ri3RR l Z a0 hw [] b18 b_24 (w + (1 : Int32)) a1 T24.heap n0 O25 f28 f29 f30 f31 ge_b18) hZ (t42 hw) (t36 hw) (by decide) (by decide)) (g := (mkF m 50 #[.val (.ref a1), .val (.ref a2), .val (.ref a3)] [(.ref a1), (.int (w + (1 : Int32))), (.ref b_24), (.ref b18), (.ref b18)])) rfl (by rw [hml]; rfl) (Steps.refl _) (a := b18) (argsL := [(.ref b_24), (.int (w + (1 : Int32))), (.ref a1)]) (rest := [(.ref b18)]) (lenOf pd__Lcom_example_isogloss_isogloss_util_PersistentMap_Node_ILcom_example_isogloss_isogloss_util_PersistentMap__V rfl) rfl (by show 2 * 0 + _ ≤ _; exact Nat.le_of_eq rfl) (hb hby d11_50) (fun _ _ => ⟨rfl, e27, (by decide : 11 + 0 ≤ _), (by decide : 53 + 0 ≤ _)⟩)
      dsimp only [Pt.U, Pt.locs, Pt.cells, Pt.slots] at X32 l32 y32 zz32 st32 hQ32
      subst y32 zz32
      obtain ⟨rfl, N32q, Kc32, r0_32, r1_32, r2_32, r3_32⟩ := hQ32
      have N32 : Fr n0 L32 := Eq.mpr (congrArg (Fr n0) l32) (Fr.app N24 N32q)
      have O33 : Old Z n0 T32.heap := O25.keep Kc32 (allS ge_b18 all0)
      have K33 : Keep h0 T32.heap [] := K25.trans Kc32 (allS (Or.inr sz_b18) all0)
      refine Gl.tr (B := (T32.setTop (mkF m 53 #[.val (.ref a1), .val (.ref a2), .val (.ref a3)] [(.ref b18)]))) st32 ?_
      obtain ⟨fs, hr, hrun, hended, hW, hsame⟩ := X32.leave (v := some (.ref b18)) (fun h => by rw [Bd.returns] at h; cases h)
      refine ⟨_, _, ?_, hrun, hended, _, _, rfl, ?_, ⟨_, rfl⟩, hW, hsame.mono (by decide) (by decide)⟩
      · show Steps p.tables e below (T32.setTop (mkF m 53 #[.val (.ref a1), .val (.ref a2), .val (.ref a3)] [(.ref b18)])) _
        jvm_step X32.here [X32.here.top, hx, (hb hby d11_53), X32.method', Bd.returns, Value.isRef, FieldType.isReference]
        first | (intro acts; rw [hr _ acts rfl rfl rfl]) | rw [hr _ _ rfl rfl rfl]
        exact Steps.refl _
      · show Q_rwith Z a1 a2 a3 u n x P zc w h0 n0 _ T32.heap _
        exact ⟨b18, b_24, (w + (1 : Int32)), (.ref a1), rfl, N32, K33, sz_b18, r0_32, r1_32, r2_32, r3_32, hT_24.keepB Kc32 f28 (t35 hw), Or.inr ⟨hp, rfl, rfl⟩⟩
  obtain ⟨s₂, o, g1, g2, g3, g4⟩ := go
  exact ⟨s₂, o, castTop (ef_rwith m a1 a2 a3) g1, g2, g3, g4⟩
theorem ef_rpick (m : MethodId) (x0 : Int32) (x1 : Addr) (x2 : Addr) (x3 : Addr) (x4 : Addr) (x5 : Addr) (x6 : Addr) (x7 : Addr) : entryFrame m #[(.int x0), (.ref x1), (.ref x2), (.ref x3), (.ref x4), (.ref x5), (.ref x6), (.ref x7)] 8 = mkF m 0 #[.val (.int x0), .val (.ref x1), .val (.ref x2), .val (.ref x3), .val (.ref x4), .val (.ref x5), .val (.ref x6), .val (.ref x7)] [] := by first | (simp [entryFrame, mkF, argsToLocals, Value.category]; done) | rfl
abbrev y19 : MethodName := ⟨"com/example/isogloss/isogloss/util/PersistentMapIsMadeFromPinLaw", "pick", "(ILcom/example/isogloss/isogloss/util/PersistentMap;Lcom/example/isogloss/isogloss/util/PersistentMap;Lcom/example/isogloss/isogloss/util/PersistentMap;Lcom/example/isogloss/isogloss/util/PersistentMap;Lcom/example/isogloss/isogloss/util/PersistentMap;Lcom/example/isogloss/isogloss/util/PersistentMap;Lcom/example/isogloss/isogloss/util/PersistentMap;)Lcom/example/isogloss/isogloss/util/PersistentMap;"⟩
theorem d23_0 : decode method_4_code 0 = .ok (.iload_n 0, 1) := by decide +kernel
theorem d23_1 : decode method_4_code 1 = .ok (.ifCond .ne 5, 3) := by decide +kernel
theorem d23_4 : decode method_4_code 4 = .ok (.aload_n 1, 1) := by decide +kernel
theorem d23_5 : decode method_4_code 5 = .ok (.areturn, 1) := by decide +kernel
theorem d23_6 : decode method_4_code 6 = .ok (.iload_n 0, 1) := by decide +kernel
theorem d23_7 : decode method_4_code 7 = .ok (.iconst 1, 1) := by decide +kernel
theorem d23_8 : decode method_4_code 8 = .ok (.if_icmp .ne 5, 3) := by decide +kernel
theorem d23_11 : decode method_4_code 11 = .ok (.aload_n 2, 1) := by decide +kernel
theorem d23_12 : decode method_4_code 12 = .ok (.areturn, 1) := by decide +kernel
theorem d23_13 : decode method_4_code 13 = .ok (.iload_n 0, 1) := by decide +kernel
theorem d23_14 : decode method_4_code 14 = .ok (.iconst 2, 1) := by decide +kernel
theorem d23_15 : decode method_4_code 15 = .ok (.if_icmp .ne 5, 3) := by decide +kernel
theorem d23_18 : decode method_4_code 18 = .ok (.aload_n 3, 1) := by decide +kernel
theorem d23_19 : decode method_4_code 19 = .ok (.areturn, 1) := by decide +kernel
theorem d23_20 : decode method_4_code 20 = .ok (.iload_n 0, 1) := by decide +kernel
theorem d23_21 : decode method_4_code 21 = .ok (.iconst 3, 1) := by decide +kernel
theorem d23_22 : decode method_4_code 22 = .ok (.if_icmp .ne 6, 3) := by decide +kernel
theorem d23_25 : decode method_4_code 25 = .ok (.aload 4, 2) := by decide +kernel
theorem d23_27 : decode method_4_code 27 = .ok (.areturn, 1) := by decide +kernel
theorem d23_28 : decode method_4_code 28 = .ok (.iload_n 0, 1) := by decide +kernel
theorem d23_29 : decode method_4_code 29 = .ok (.iconst 4, 1) := by decide +kernel
theorem d23_30 : decode method_4_code 30 = .ok (.if_icmp .ne 6, 3) := by decide +kernel
theorem d23_33 : decode method_4_code 33 = .ok (.aload 5, 2) := by decide +kernel
theorem d23_35 : decode method_4_code 35 = .ok (.areturn, 1) := by decide +kernel
theorem d23_36 : decode method_4_code 36 = .ok (.iload_n 0, 1) := by decide +kernel
theorem d23_37 : decode method_4_code 37 = .ok (.iconst 5, 1) := by decide +kernel
theorem d23_38 : decode method_4_code 38 = .ok (.if_icmp .ne 6, 3) := by decide +kernel
theorem d23_41 : decode method_4_code 41 = .ok (.aload 6, 2) := by decide +kernel
theorem d23_43 : decode method_4_code 43 = .ok (.areturn, 1) := by decide +kernel
theorem d23_44 : decode method_4_code 44 = .ok (.aload 7, 2) := by decide +kernel
theorem d23_46 : decode method_4_code 46 = .ok (.areturn, 1) := by decide +kernel
def Q_rpick (Z : State) (p1 : Int32) (c0 : Addr) (c1 : Addr) (c2 : Addr) (c3 : Addr) (c4 : Addr) (c5 : Addr) (c6 : Addr) (r : Addr) (h0 : Heap) (n0 : Nat) (v : Option Value) (h : Heap) (L : List Loc) : Prop := v = some (.ref r) ∧ Fr n0 L ∧ h = h0
set_option maxRecDepth 65536 in
set_option maxHeartbeats 40000000 in
theorem rpick (l : Launch) (Z : State) (a0 : Array Value) (hw : ∀ d ∈ tables_1, d.before a0 Z = true) (ws : List Jvm.Cond) (p1 : Int32) (c0 : Addr) (c1 : Addr) (c2 : Addr) (c3 : Addr) (c4 : Addr) (c5 : Addr) (c6 : Addr) (r : Addr) (h0 : Heap) (n0 : Nat) (O0 : Old Z n0 h0) (hp : (p1 = 0 ∧ r = c0) ∨ (p1 = 1 ∧ r = c1) ∨ (p1 = 2 ∧ r = c2) ∨ (p1 = 3 ∧ r = c3) ∨ (p1 = 4 ∧ r = c4) ∨ (p1 = 5 ∧ r = c5) ∨ (p1 = 6 ∧ r = c6)) :
    MetFree l y19 (head1 (Jvm.Cond.code y19 method_4_code 8 (some (.object "com/example/isogloss/isogloss/util/PersistentMap")) :: ws) ({ frames := 0, cells := 0, slots := 0, locals := 0 } : Room)) (fun a U => a = #[(.int p1), (.ref c0), (.ref c1), (.ref c2), (.ref c3), (.ref c4), (.ref c5), (.ref c6)] ∧ Z.Warmed39 U.vm ∧ U.heap = h0) (fun _ _ _ _ _ => True) (fun _ U o U' => ∃ v L, o = .returned v ∧ Q_rpick Z p1 c0 c1 c2 c3 c4 c5 c6 r h0 n0 v U'.heap L ∧ FrameEnd U o U' L ({ frames := 0, cells := 0, slots := 0, locals := 0 } : Room).cells ({ frames := 0, cells := 0, slots := 0, locals := 0 } : Room).slots) := by
  refine MetFree.of_bodySF (plainFor_of_name pn_com_example_isogloss_isogloss_util_PersistentMapIsMadeFromPinLaw) hisR ?_
  intro p e s m args below meth c s₁ Bd hml0 hP hK
  obtain ⟨rfl, hZ, hh⟩ := hP
  have hx := Bd.exec
  have hby := Bd.bytes
  have hml : c.maxLocals = 8 := hml0
  have hown : s.vm.findClass "com/example/isogloss/isogloss/util/PersistentMapIsMadeFromPinLaw" = some m.cls := findClass_of_methodNamed Bd.named
  have hnm := (name_of_methodNamed Bd.named Bd.method).1
  have X0 : Stand p l e ({ frames := 0, cells := 0, slots := 0, locals := 0 } : Room) s m #[(.int p1), (.ref c0), (.ref c1), (.ref c2), (.ref c3), (.ref c4), (.ref c5), (.ref c6)] below meth c s₁ [] 0 0 := Stand.of_body Bd
  have e0 : s₁.heap = h0 := by rw [← hh, Bd.state]; rfl
  have N0 := Fr.nil n0
  have K0 : Keep h0 h0 [] := Keep.refl h0 _
  have go : Gl p.tables e below (fun o U' => ∃ v L, o = .returned v ∧ Q_rpick Z p1 c0 c1 c2 c3 c4 c5 c6 r h0 n0 v U'.heap L ∧ FrameEnd s o U' L ({ frames := 0, cells := 0, slots := 0, locals := 0 } : Room).cells ({ frames := 0, cells := 0, slots := 0, locals := 0 } : Room).slots) (s₁.setTop (mkF m 0 #[.val (.int p1), .val (.ref c0), .val (.ref c1), .val (.ref c2), .val (.ref c3), .val (.ref c4), .val (.ref c5), .val (.ref c6)] [])) := by
    rcases hp with ⟨q, qr⟩ | ⟨q, qr⟩ | ⟨q, qr⟩ | ⟨q, qr⟩ | ⟨q, qr⟩ | ⟨q, qr⟩ | ⟨q, qr⟩
    · skip
      refine Gl.step (B := (s₁.setTop (mkF m 5 #[.val (.int p1), .val (.ref c0), .val (.ref c1), .val (.ref c2), .val (.ref c3), .val (.ref c4), .val (.ref c5), .val (.ref c6)] [(.ref c0)]))) (fun t k => XS.iloadN X0.here hx rfl (hb hby d23_0) rfl (XS.ifNo X0.here hx rfl (hb hby d23_1) rfl ((if0 _ _).trans (teq (q : p1 = (0 : Int32))).2) (XS.aloadN X0.here hx rfl (hb hby d23_4) rfl rfl k))) ?_
      obtain ⟨fs, hr, hrun, hended, hW, hsame⟩ := X0.leave (v := some (.ref c0)) (fun h => by rw [Bd.returns] at h; cases h)
      refine ⟨_, _, ?_, hrun, hended, _, _, rfl, ?_, ⟨_, rfl⟩, hW, hsame.mono (by decide) (by decide)⟩
      · show Steps p.tables e below (s₁.setTop (mkF m 5 #[.val (.int p1), .val (.ref c0), .val (.ref c1), .val (.ref c2), .val (.ref c3), .val (.ref c4), .val (.ref c5), .val (.ref c6)] [(.ref c0)])) _
        jvm_step X0.here [X0.here.top, hx, (hb hby d23_5), X0.method', Bd.returns, Value.isRef, FieldType.isReference]
        first | (intro acts; rw [hr _ acts rfl rfl rfl]) | rw [hr _ _ rfl rfl rfl]
        exact Steps.refl _
      · show Q_rpick Z p1 c0 c1 c2 c3 c4 c5 c6 r h0 n0 _ s₁.heap _
        rw [e0]
        exact ⟨(by rw [qr]), N0, rfl⟩
    · skip
      refine Gl.step (B := (s₁.setTop (mkF m 12 #[.val (.int p1), .val (.ref c0), .val (.ref c1), .val (.ref c2), .val (.ref c3), .val (.ref c4), .val (.ref c5), .val (.ref c6)] [(.ref c1)]))) (fun t k => XS.iloadN X0.here hx rfl (hb hby d23_0) rfl (XS.ifYes X0.here hx rfl (pc0 := 1) (pc' := 6) rfl (hb hby d23_1) rfl ((if0 _ _).trans (feq (by rw [q]; decide : ¬ (p1 = (0 : Int32)))).2) (by decide) (by decide) (XS.iloadN X0.here hx rfl (hb hby d23_6) rfl (XS.iconst X0.here hx rfl (hb hby d23_7) (XS.icmpNo X0.here hx rfl (hb hby d23_8) rfl (teq (q : p1 = (1 : Int32))).2 (XS.aloadN X0.here hx rfl (hb hby d23_11) rfl rfl k)))))) ?_
      obtain ⟨fs, hr, hrun, hended, hW, hsame⟩ := X0.leave (v := some (.ref c1)) (fun h => by rw [Bd.returns] at h; cases h)
      refine ⟨_, _, ?_, hrun, hended, _, _, rfl, ?_, ⟨_, rfl⟩, hW, hsame.mono (by decide) (by decide)⟩
      · show Steps p.tables e below (s₁.setTop (mkF m 12 #[.val (.int p1), .val (.ref c0), .val (.ref c1), .val (.ref c2), .val (.ref c3), .val (.ref c4), .val (.ref c5), .val (.ref c6)] [(.ref c1)])) _
        jvm_step X0.here [X0.here.top, hx, (hb hby d23_12), X0.method', Bd.returns, Value.isRef, FieldType.isReference]
        first | (intro acts; rw [hr _ acts rfl rfl rfl]) | rw [hr _ _ rfl rfl rfl]
        exact Steps.refl _
      · show Q_rpick Z p1 c0 c1 c2 c3 c4 c5 c6 r h0 n0 _ s₁.heap _
        rw [e0]
        exact ⟨(by rw [qr]), N0, rfl⟩
    · skip
      refine Gl.step (B := (s₁.setTop (mkF m 14 #[.val (.int p1), .val (.ref c0), .val (.ref c1), .val (.ref c2), .val (.ref c3), .val (.ref c4), .val (.ref c5), .val (.ref c6)] [(.int p1)]))) (fun t k => XS.iloadN X0.here hx rfl (hb hby d23_0) rfl (XS.ifYes X0.here hx rfl (pc0 := 1) (pc' := 6) rfl (hb hby d23_1) rfl ((if0 _ _).trans (feq (by rw [q]; decide : ¬ (p1 = (0 : Int32)))).2) (by decide) (by decide) (XS.iloadN X0.here hx rfl (hb hby d23_6) rfl (XS.iconst X0.here hx rfl (hb hby d23_7) (XS.icmpYes X0.here hx rfl (pc0 := 8) (pc' := 13) rfl (hb hby d23_8) rfl (feq (by rw [q]; decide : ¬ (p1 = (1 : Int32)))).2 (by decide) (by decide) (XS.iloadN X0.here hx rfl (hb hby d23_13) rfl k)))))) ?_
      refine Gl.step (B := (s₁.setTop (mkF m 19 #[.val (.int p1), .val (.ref c0), .val (.ref c1), .val (.ref c2), .val (.ref c3), .val (.ref c4), .val (.ref c5), .val (.ref c6)] [(.ref c2)]))) (fun t k => XS.iconst X0.here hx rfl (hb hby d23_14) (XS.icmpNo X0.here hx rfl (hb hby d23_15) rfl (teq (q : p1 = (2 : Int32))).2 (XS.aloadN X0.here hx rfl (hb hby d23_18) rfl rfl k))) ?_
      obtain ⟨fs, hr, hrun, hended, hW, hsame⟩ := X0.leave (v := some (.ref c2)) (fun h => by rw [Bd.returns] at h; cases h)
      refine ⟨_, _, ?_, hrun, hended, _, _, rfl, ?_, ⟨_, rfl⟩, hW, hsame.mono (by decide) (by decide)⟩
      · show Steps p.tables e below (s₁.setTop (mkF m 19 #[.val (.int p1), .val (.ref c0), .val (.ref c1), .val (.ref c2), .val (.ref c3), .val (.ref c4), .val (.ref c5), .val (.ref c6)] [(.ref c2)])) _
        jvm_step X0.here [X0.here.top, hx, (hb hby d23_19), X0.method', Bd.returns, Value.isRef, FieldType.isReference]
        first | (intro acts; rw [hr _ acts rfl rfl rfl]) | rw [hr _ _ rfl rfl rfl]
        exact Steps.refl _
      · show Q_rpick Z p1 c0 c1 c2 c3 c4 c5 c6 r h0 n0 _ s₁.heap _
        rw [e0]
        exact ⟨(by rw [qr]), N0, rfl⟩
    · skip
      refine Gl.step (B := (s₁.setTop (mkF m 14 #[.val (.int p1), .val (.ref c0), .val (.ref c1), .val (.ref c2), .val (.ref c3), .val (.ref c4), .val (.ref c5), .val (.ref c6)] [(.int p1)]))) (fun t k => XS.iloadN X0.here hx rfl (hb hby d23_0) rfl (XS.ifYes X0.here hx rfl (pc0 := 1) (pc' := 6) rfl (hb hby d23_1) rfl ((if0 _ _).trans (feq (by rw [q]; decide : ¬ (p1 = (0 : Int32)))).2) (by decide) (by decide) (XS.iloadN X0.here hx rfl (hb hby d23_6) rfl (XS.iconst X0.here hx rfl (hb hby d23_7) (XS.icmpYes X0.here hx rfl (pc0 := 8) (pc' := 13) rfl (hb hby d23_8) rfl (feq (by rw [q]; decide : ¬ (p1 = (1 : Int32)))).2 (by decide) (by decide) (XS.iloadN X0.here hx rfl (hb hby d23_13) rfl k)))))) ?_
      refine Gl.step (B := (s₁.setTop (mkF m 27 #[.val (.int p1), .val (.ref c0), .val (.ref c1), .val (.ref c2), .val (.ref c3), .val (.ref c4), .val (.ref c5), .val (.ref c6)] [(.ref c3)]))) (fun t k => XS.iconst X0.here hx rfl (hb hby d23_14) (XS.icmpYes X0.here hx rfl (pc0 := 15) (pc' := 20) rfl (hb hby d23_15) rfl (feq (by rw [q]; decide : ¬ (p1 = (2 : Int32)))).2 (by decide) (by decide) (XS.iloadN X0.here hx rfl (hb hby d23_20) rfl (XS.iconst X0.here hx rfl (hb hby d23_21) (XS.icmpNo X0.here hx rfl (hb hby d23_22) rfl (teq (q : p1 = (3 : Int32))).2 (XS.aload X0.here hx rfl (hb hby d23_25) rfl rfl k)))))) ?_
      obtain ⟨fs, hr, hrun, hended, hW, hsame⟩ := X0.leave (v := some (.ref c3)) (fun h => by rw [Bd.returns] at h; cases h)
      refine ⟨_, _, ?_, hrun, hended, _, _, rfl, ?_, ⟨_, rfl⟩, hW, hsame.mono (by decide) (by decide)⟩
      · show Steps p.tables e below (s₁.setTop (mkF m 27 #[.val (.int p1), .val (.ref c0), .val (.ref c1), .val (.ref c2), .val (.ref c3), .val (.ref c4), .val (.ref c5), .val (.ref c6)] [(.ref c3)])) _
        jvm_step X0.here [X0.here.top, hx, (hb hby d23_27), X0.method', Bd.returns, Value.isRef, FieldType.isReference]
        first | (intro acts; rw [hr _ acts rfl rfl rfl]) | rw [hr _ _ rfl rfl rfl]
        exact Steps.refl _
      · show Q_rpick Z p1 c0 c1 c2 c3 c4 c5 c6 r h0 n0 _ s₁.heap _
        rw [e0]
        exact ⟨(by rw [qr]), N0, rfl⟩
    · skip
      refine Gl.step (B := (s₁.setTop (mkF m 14 #[.val (.int p1), .val (.ref c0), .val (.ref c1), .val (.ref c2), .val (.ref c3), .val (.ref c4), .val (.ref c5), .val (.ref c6)] [(.int p1)]))) (fun t k => XS.iloadN X0.here hx rfl (hb hby d23_0) rfl (XS.ifYes X0.here hx rfl (pc0 := 1) (pc' := 6) rfl (hb hby d23_1) rfl ((if0 _ _).trans (feq (by rw [q]; decide : ¬ (p1 = (0 : Int32)))).2) (by decide) (by decide) (XS.iloadN X0.here hx rfl (hb hby d23_6) rfl (XS.iconst X0.here hx rfl (hb hby d23_7) (XS.icmpYes X0.here hx rfl (pc0 := 8) (pc' := 13) rfl (hb hby d23_8) rfl (feq (by rw [q]; decide : ¬ (p1 = (1 : Int32)))).2 (by decide) (by decide) (XS.iloadN X0.here hx rfl (hb hby d23_13) rfl k)))))) ?_
      refine Gl.step (B := (s₁.setTop (mkF m 29 #[.val (.int p1), .val (.ref c0), .val (.ref c1), .val (.ref c2), .val (.ref c3), .val (.ref c4), .val (.ref c5), .val (.ref c6)] [(.int p1)]))) (fun t k => XS.iconst X0.here hx rfl (hb hby d23_14) (XS.icmpYes X0.here hx rfl (pc0 := 15) (pc' := 20) rfl (hb hby d23_15) rfl (feq (by rw [q]; decide : ¬ (p1 = (2 : Int32)))).2 (by decide) (by decide) (XS.iloadN X0.here hx rfl (hb hby d23_20) rfl (XS.iconst X0.here hx rfl (hb hby d23_21) (XS.icmpYes X0.here hx rfl (pc0 := 22) (pc' := 28) rfl (hb hby d23_22) rfl (feq (by rw [q]; decide : ¬ (p1 = (3 : Int32)))).2 (by decide) (by decide) (XS.iloadN X0.here hx rfl (hb hby d23_28) rfl k)))))) ?_
      refine Gl.step (B := (s₁.setTop (mkF m 35 #[.val (.int p1), .val (.ref c0), .val (.ref c1), .val (.ref c2), .val (.ref c3), .val (.ref c4), .val (.ref c5), .val (.ref c6)] [(.ref c4)]))) (fun t k => XS.iconst X0.here hx rfl (hb hby d23_29) (XS.icmpNo X0.here hx rfl (hb hby d23_30) rfl (teq (q : p1 = (4 : Int32))).2 (XS.aload X0.here hx rfl (hb hby d23_33) rfl rfl k))) ?_
      obtain ⟨fs, hr, hrun, hended, hW, hsame⟩ := X0.leave (v := some (.ref c4)) (fun h => by rw [Bd.returns] at h; cases h)
      refine ⟨_, _, ?_, hrun, hended, _, _, rfl, ?_, ⟨_, rfl⟩, hW, hsame.mono (by decide) (by decide)⟩
      · show Steps p.tables e below (s₁.setTop (mkF m 35 #[.val (.int p1), .val (.ref c0), .val (.ref c1), .val (.ref c2), .val (.ref c3), .val (.ref c4), .val (.ref c5), .val (.ref c6)] [(.ref c4)])) _
        jvm_step X0.here [X0.here.top, hx, (hb hby d23_35), X0.method', Bd.returns, Value.isRef, FieldType.isReference]
        first | (intro acts; rw [hr _ acts rfl rfl rfl]) | rw [hr _ _ rfl rfl rfl]
        exact Steps.refl _
      · show Q_rpick Z p1 c0 c1 c2 c3 c4 c5 c6 r h0 n0 _ s₁.heap _
        rw [e0]
        exact ⟨(by rw [qr]), N0, rfl⟩
    · skip
      refine Gl.step (B := (s₁.setTop (mkF m 14 #[.val (.int p1), .val (.ref c0), .val (.ref c1), .val (.ref c2), .val (.ref c3), .val (.ref c4), .val (.ref c5), .val (.ref c6)] [(.int p1)]))) (fun t k => XS.iloadN X0.here hx rfl (hb hby d23_0) rfl (XS.ifYes X0.here hx rfl (pc0 := 1) (pc' := 6) rfl (hb hby d23_1) rfl ((if0 _ _).trans (feq (by rw [q]; decide : ¬ (p1 = (0 : Int32)))).2) (by decide) (by decide) (XS.iloadN X0.here hx rfl (hb hby d23_6) rfl (XS.iconst X0.here hx rfl (hb hby d23_7) (XS.icmpYes X0.here hx rfl (pc0 := 8) (pc' := 13) rfl (hb hby d23_8) rfl (feq (by rw [q]; decide : ¬ (p1 = (1 : Int32)))).2 (by decide) (by decide) (XS.iloadN X0.here hx rfl (hb hby d23_13) rfl k)))))) ?_
      refine Gl.step (B := (s₁.setTop (mkF m 29 #[.val (.int p1), .val (.ref c0), .val (.ref c1), .val (.ref c2), .val (.ref c3), .val (.ref c4), .val (.ref c5), .val (.ref c6)] [(.int p1)]))) (fun t k => XS.iconst X0.here hx rfl (hb hby d23_14) (XS.icmpYes X0.here hx rfl (pc0 := 15) (pc' := 20) rfl (hb hby d23_15) rfl (feq (by rw [q]; decide : ¬ (p1 = (2 : Int32)))).2 (by decide) (by decide) (XS.iloadN X0.here hx rfl (hb hby d23_20) rfl (XS.iconst X0.here hx rfl (hb hby d23_21) (XS.icmpYes X0.here hx rfl (pc0 := 22) (pc' := 28) rfl (hb hby d23_22) rfl (feq (by rw [q]; decide : ¬ (p1 = (3 : Int32)))).2 (by decide) (by decide) (XS.iloadN X0.here hx rfl (hb hby d23_28) rfl k)))))) ?_
      refine Gl.step (B := (s₁.setTop (mkF m 43 #[.val (.int p1), .val (.ref c0), .val (.ref c1), .val (.ref c2), .val (.ref c3), .val (.ref c4), .val (.ref c5), .val (.ref c6)] [(.ref c5)]))) (fun t k => XS.iconst X0.here hx rfl (hb hby d23_29) (XS.icmpYes X0.here hx rfl (pc0 := 30) (pc' := 36) rfl (hb hby d23_30) rfl (feq (by rw [q]; decide : ¬ (p1 = (4 : Int32)))).2 (by decide) (by decide) (XS.iloadN X0.here hx rfl (hb hby d23_36) rfl (XS.iconst X0.here hx rfl (hb hby d23_37) (XS.icmpNo X0.here hx rfl (hb hby d23_38) rfl (teq (q : p1 = (5 : Int32))).2 (XS.aload X0.here hx rfl (hb hby d23_41) rfl rfl k)))))) ?_
      obtain ⟨fs, hr, hrun, hended, hW, hsame⟩ := X0.leave (v := some (.ref c5)) (fun h => by rw [Bd.returns] at h; cases h)
      refine ⟨_, _, ?_, hrun, hended, _, _, rfl, ?_, ⟨_, rfl⟩, hW, hsame.mono (by decide) (by decide)⟩
      · show Steps p.tables e below (s₁.setTop (mkF m 43 #[.val (.int p1), .val (.ref c0), .val (.ref c1), .val (.ref c2), .val (.ref c3), .val (.ref c4), .val (.ref c5), .val (.ref c6)] [(.ref c5)])) _
        jvm_step X0.here [X0.here.top, hx, (hb hby d23_43), X0.method', Bd.returns, Value.isRef, FieldType.isReference]
        first | (intro acts; rw [hr _ acts rfl rfl rfl]) | rw [hr _ _ rfl rfl rfl]
        exact Steps.refl _
      · show Q_rpick Z p1 c0 c1 c2 c3 c4 c5 c6 r h0 n0 _ s₁.heap _
        rw [e0]
        exact ⟨(by rw [qr]), N0, rfl⟩
    · skip
      refine Gl.step (B := (s₁.setTop (mkF m 14 #[.val (.int p1), .val (.ref c0), .val (.ref c1), .val (.ref c2), .val (.ref c3), .val (.ref c4), .val (.ref c5), .val (.ref c6)] [(.int p1)]))) (fun t k => XS.iloadN X0.here hx rfl (hb hby d23_0) rfl (XS.ifYes X0.here hx rfl (pc0 := 1) (pc' := 6) rfl (hb hby d23_1) rfl ((if0 _ _).trans (feq (by rw [q]; decide : ¬ (p1 = (0 : Int32)))).2) (by decide) (by decide) (XS.iloadN X0.here hx rfl (hb hby d23_6) rfl (XS.iconst X0.here hx rfl (hb hby d23_7) (XS.icmpYes X0.here hx rfl (pc0 := 8) (pc' := 13) rfl (hb hby d23_8) rfl (feq (by rw [q]; decide : ¬ (p1 = (1 : Int32)))).2 (by decide) (by decide) (XS.iloadN X0.here hx rfl (hb hby d23_13) rfl k)))))) ?_
      refine Gl.step (B := (s₁.setTop (mkF m 29 #[.val (.int p1), .val (.ref c0), .val (.ref c1), .val (.ref c2), .val (.ref c3), .val (.ref c4), .val (.ref c5), .val (.ref c6)] [(.int p1)]))) (fun t k => XS.iconst X0.here hx rfl (hb hby d23_14) (XS.icmpYes X0.here hx rfl (pc0 := 15) (pc' := 20) rfl (hb hby d23_15) rfl (feq (by rw [q]; decide : ¬ (p1 = (2 : Int32)))).2 (by decide) (by decide) (XS.iloadN X0.here hx rfl (hb hby d23_20) rfl (XS.iconst X0.here hx rfl (hb hby d23_21) (XS.icmpYes X0.here hx rfl (pc0 := 22) (pc' := 28) rfl (hb hby d23_22) rfl (feq (by rw [q]; decide : ¬ (p1 = (3 : Int32)))).2 (by decide) (by decide) (XS.iloadN X0.here hx rfl (hb hby d23_28) rfl k)))))) ?_
      refine Gl.step (B := (s₁.setTop (mkF m 46 #[.val (.int p1), .val (.ref c0), .val (.ref c1), .val (.ref c2), .val (.ref c3), .val (.ref c4), .val (.ref c5), .val (.ref c6)] [(.ref c6)]))) (fun t k => XS.iconst X0.here hx rfl (hb hby d23_29) (XS.icmpYes X0.here hx rfl (pc0 := 30) (pc' := 36) rfl (hb hby d23_30) rfl (feq (by rw [q]; decide : ¬ (p1 = (4 : Int32)))).2 (by decide) (by decide) (XS.iloadN X0.here hx rfl (hb hby d23_36) rfl (XS.iconst X0.here hx rfl (hb hby d23_37) (XS.icmpYes X0.here hx rfl (pc0 := 38) (pc' := 44) rfl (hb hby d23_38) rfl (feq (by rw [q]; decide : ¬ (p1 = (5 : Int32)))).2 (by decide) (by decide) (XS.aload X0.here hx rfl (hb hby d23_44) rfl rfl k)))))) ?_
      obtain ⟨fs, hr, hrun, hended, hW, hsame⟩ := X0.leave (v := some (.ref c6)) (fun h => by rw [Bd.returns] at h; cases h)
      refine ⟨_, _, ?_, hrun, hended, _, _, rfl, ?_, ⟨_, rfl⟩, hW, hsame.mono (by decide) (by decide)⟩
      · show Steps p.tables e below (s₁.setTop (mkF m 46 #[.val (.int p1), .val (.ref c0), .val (.ref c1), .val (.ref c2), .val (.ref c3), .val (.ref c4), .val (.ref c5), .val (.ref c6)] [(.ref c6)])) _
        jvm_step X0.here [X0.here.top, hx, (hb hby d23_46), X0.method', Bd.returns, Value.isRef, FieldType.isReference]
        first | (intro acts; rw [hr _ acts rfl rfl rfl]) | rw [hr _ _ rfl rfl rfl]
        exact Steps.refl _
      · show Q_rpick Z p1 c0 c1 c2 c3 c4 c5 c6 r h0 n0 _ s₁.heap _
        rw [e0]
        exact ⟨(by rw [qr]), N0, rfl⟩
  obtain ⟨s₂, o, g1, g2, g3, g4⟩ := go
  exact ⟨s₂, o, castTop (ef_rpick m p1 c0 c1 c2 c3 c4 c5 c6) g1, g2, g3, g4⟩
theorem ef_rimA (m : MethodId) (x0 : Addr) (x1 : Addr) : entryFrame m #[(.ref x0), (.ref x1)] 5 = mkF m 0 #[.val (.ref x0), .val (.ref x1), .unset, .unset, .unset] [] := by first | (simp [entryFrame, mkF, argsToLocals, Value.category]; done) | rfl
abbrev y20 : MethodName := ⟨"com/example/isogloss/isogloss/util/PersistentMap", "isMadeFrom", "(Lcom/example/isogloss/isogloss/util/PersistentMap;)Z"⟩
theorem d24_0 : decode prog_164_method_6_code 0 = .ok (.aload_n 0, 1) := by decide +kernel
theorem d24_1 : decode prog_164_method_6_code 1 = .ok (.getfield 16, 3) := by decide +kernel
theorem d24_4 : decode prog_164_method_6_code 4 = .ok (.aload_n 1, 1) := by decide +kernel
theorem d24_5 : decode prog_164_method_6_code 5 = .ok (.getfield 16, 3) := by decide +kernel
theorem d24_8 : decode prog_164_method_6_code 8 = .ok (.isub, 1) := by decide +kernel
theorem d24_9 : decode prog_164_method_6_code 9 = .ok (.istore_n 2, 1) := by decide +kernel
theorem d24_10 : decode prog_164_method_6_code 10 = .ok (.iload_n 2, 1) := by decide +kernel
theorem d24_11 : decode prog_164_method_6_code 11 = .ok (.ifCond .lt 11, 3) := by decide +kernel
theorem d24_22 : decode prog_164_method_6_code 22 = .ok (.iconst 0, 1) := by decide +kernel
theorem d24_23 : decode prog_164_method_6_code 23 = .ok (.ireturn, 1) := by decide +kernel
def Q_rimA (Z : State) (a1 : Addr) (a2 : Addr) (s1 : Int32) (s2 : Int32) (h0 : Heap) (n0 : Nat) (v : Option Value) (h : Heap) (L : List Loc) : Prop := v = some (.int (0 : Int32)) ∧ Fr n0 L ∧ h = h0
set_option maxRecDepth 65536 in
set_option maxHeartbeats 40000000 in
theorem rimA (l : Launch) (Z : State) (a0 : Array Value) (hw : ∀ d ∈ tables_1, d.before a0 Z = true) (ws : List Jvm.Cond) (a1 : Addr) (a2 : Addr) (s1 : Int32) (s2 : Int32) (h0 : Heap) (n0 : Nat) (O0 : Old Z n0 h0) (pm0 : Fld Z h0 a1 own_PM "size" "I" (.int s1)) (pm1 : Fld Z h0 a2 own_PM "size" "I" (.int s2)) (hd : s1 - s2 < 0) :
    MetFree l y20 (head1 (Jvm.Cond.code y20 prog_164_method_6_code 5 (some .boolean) :: ws) ({ frames := 0, cells := 0, slots := 0, locals := 0 } : Room)) (fun a U => a = #[(.ref a1), (.ref a2)] ∧ Z.Warmed39 U.vm ∧ U.heap = h0) (fun _ _ _ _ _ => True) (fun _ U o U' => ∃ v L, o = .returned v ∧ Q_rimA Z a1 a2 s1 s2 h0 n0 v U'.heap L ∧ FrameEnd U o U' L ({ frames := 0, cells := 0, slots := 0, locals := 0 } : Room).cells ({ frames := 0, cells := 0, slots := 0, locals := 0 } : Room).slots) := by
  refine MetFree.of_bodySF (plainFor_of_name pn_com_example_isogloss_isogloss_util_PersistentMap) hisR ?_
  intro p e s m args below meth c s₁ Bd hml0 hP hK
  obtain ⟨rfl, hZ, hh⟩ := hP
  have hx := Bd.exec
  have hby := Bd.bytes
  have hml : c.maxLocals = 5 := hml0
  have hown : s.vm.findClass own_PM = some m.cls := findClass_of_methodNamed Bd.named
  have hnm := (name_of_methodNamed Bd.named Bd.method).1
  have X0 : Stand p l e ({ frames := 0, cells := 0, slots := 0, locals := 0 } : Room) s m #[(.ref a1), (.ref a2)] below meth c s₁ [] 0 0 := Stand.of_body Bd
  have e0 : s₁.heap = h0 := by rw [← hh, Bd.state]; rfl
  have N0 := Fr.nil n0
  have K0 : Keep h0 h0 [] := Keep.refl h0 _
  have go : Gl p.tables e below (fun o U' => ∃ v L, o = .returned v ∧ Q_rimA Z a1 a2 s1 s2 h0 n0 v U'.heap L ∧ FrameEnd s o U' L ({ frames := 0, cells := 0, slots := 0, locals := 0 } : Room).cells ({ frames := 0, cells := 0, slots := 0, locals := 0 } : Room).slots) (s₁.setTop (mkF m 0 #[.val (.ref a1), .val (.ref a2), .unset, .unset, .unset] [])) := by
    refine Gl.step (B := (s₁.setTop (mkF m 1 #[.val (.ref a1), .val (.ref a2), .unset, .unset, .unset] [(.ref a1)]))) (fun t k => XS.aloadN X0.here hx rfl (hb hby d24_0) rfl rfl k) ?_
    obtain ⟨T1, X1, e1, st1⟩ := getF X0 hx hZ hown (host := "") (Or.inl (t46 hw)) Via.refl e0 pm0 (g := (mkF m 1 #[.val (.ref a1), .val (.ref a2), .unset, .unset, .unset] [(.ref a1)])) rfl rfl (hb hby d24_1)
    refine Gl.step (B := (T1.setTop (mkF m 4 #[.val (.ref a1), .val (.ref a2), .unset, .unset, .unset] [(.int s1)]))) st1 ?_
    refine Gl.step (B := (T1.setTop (mkF m 5 #[.val (.ref a1), .val (.ref a2), .unset, .unset, .unset] [(.ref a2), (.int s1)]))) (fun t k => XS.aloadN X1.here hx rfl (hb hby d24_4) rfl rfl k) ?_
    obtain ⟨T2, X2, e2, st2⟩ := getF X1 hx hZ hown (host := "") (Or.inl (t46 hw)) Via.refl e1 pm1 (g := (mkF m 5 #[.val (.ref a1), .val (.ref a2), .unset, .unset, .unset] [(.ref a2), (.int s1)])) rfl rfl (hb hby d24_5)
    refine Gl.step (B := (T2.setTop (mkF m 8 #[.val (.ref a1), .val (.ref a2), .unset, .unset, .unset] [(.int s2), (.int s1)]))) st2 ?_
    refine Gl.step (B := (T2.setTop (mkF m 23 #[.val (.ref a1), .val (.ref a2), .val (.int (s1 - s2)), .unset, .unset] [(.int (0 : Int32))]))) (fun t k => XS.isub X2.here hx rfl (hb hby d24_8) rfl (XS.istoreN X2.here hx rfl (hb hby d24_9) rfl (l' := #[.val (.ref a1), .val (.ref a2), .val (.int (s1 - s2)), .unset, .unset]) rfl (XS.iloadN X2.here hx rfl (hb hby d24_10) rfl (XS.ifYes X2.here hx rfl (pc0 := 11) (pc' := 22) rfl (hb hby d24_11) rfl ((if0 _ _).trans (tlt (hd : (s1 - s2) < (0 : Int32))).1) (by decide) (by decide) (XS.iconst X2.here hx rfl (hb hby d24_22) k))))) ?_
    obtain ⟨fs, hr, hrun, hended, hW, hsame⟩ := X2.leave (v := some (.int (0 : Int32))) (fun h => by rw [Bd.returns] at h; cases h)
    refine ⟨_, _, ?_, hrun, hended, _, _, rfl, ?_, ⟨_, rfl⟩, hW, hsame.mono (by decide) (by decide)⟩
    · show Steps p.tables e below (T2.setTop (mkF m 23 #[.val (.ref a1), .val (.ref a2), .val (.int (s1 - s2)), .unset, .unset] [(.int (0 : Int32))])) _
      exact retN X2 hx (t := .boolean) Bd.returns (by simp) (hb hby d24_23) hr
    · show Q_rimA Z a1 a2 s1 s2 h0 n0 _ T2.heap _
      rw [e2]
      exact ⟨rfl, N0, rfl⟩
  obtain ⟨s₂, o, g1, g2, g3, g4⟩ := go
  exact ⟨s₂, o, castTop (ef_rimA m a1 a2) g1, g2, g3, g4⟩
theorem ef_rimB (m : MethodId) (x0 : Addr) (x1 : Addr) : entryFrame m #[(.ref x0), (.ref x1)] 5 = mkF m 0 #[.val (.ref x0), .val (.ref x1), .unset, .unset, .unset] [] := by first | (simp [entryFrame, mkF, argsToLocals, Value.category]; done) | rfl
theorem d24_14 : decode prog_164_method_6_code 14 = .ok (.iload_n 2, 1) := by decide +kernel
theorem d24_15 : decode prog_164_method_6_code 15 = .ok (.aload_n 1, 1) := by decide +kernel
theorem d24_16 : decode prog_164_method_6_code 16 = .ok (.getfield 16, 3) := by decide +kernel
theorem d24_19 : decode prog_164_method_6_code 19 = .ok (.if_icmp .le 5, 3) := by decide +kernel
def Q_rimB (Z : State) (a1 : Addr) (a2 : Addr) (s1 : Int32) (s2 : Int32) (h0 : Heap) (n0 : Nat) (v : Option Value) (h : Heap) (L : List Loc) : Prop := v = some (.int (0 : Int32)) ∧ Fr n0 L ∧ h = h0
set_option maxRecDepth 65536 in
set_option maxHeartbeats 40000000 in
theorem rimB (l : Launch) (Z : State) (a0 : Array Value) (hw : ∀ d ∈ tables_1, d.before a0 Z = true) (ws : List Jvm.Cond) (a1 : Addr) (a2 : Addr) (s1 : Int32) (s2 : Int32) (h0 : Heap) (n0 : Nat) (O0 : Old Z n0 h0) (pm0 : Fld Z h0 a1 own_PM "size" "I" (.int s1)) (pm1 : Fld Z h0 a2 own_PM "size" "I" (.int s2)) (hd : ¬ (s1 - s2 < 0)) (he : s2 < s1 - s2) :
    MetFree l y20 (head1 (Jvm.Cond.code y20 prog_164_method_6_code 5 (some .boolean) :: ws) ({ frames := 0, cells := 0, slots := 0, locals := 0 } : Room)) (fun a U => a = #[(.ref a1), (.ref a2)] ∧ Z.Warmed39 U.vm ∧ U.heap = h0) (fun _ _ _ _ _ => True) (fun _ U o U' => ∃ v L, o = .returned v ∧ Q_rimB Z a1 a2 s1 s2 h0 n0 v U'.heap L ∧ FrameEnd U o U' L ({ frames := 0, cells := 0, slots := 0, locals := 0 } : Room).cells ({ frames := 0, cells := 0, slots := 0, locals := 0 } : Room).slots) := by
  refine MetFree.of_bodySF (plainFor_of_name pn_com_example_isogloss_isogloss_util_PersistentMap) hisR ?_
  intro p e s m args below meth c s₁ Bd hml0 hP hK
  obtain ⟨rfl, hZ, hh⟩ := hP
  have hx := Bd.exec
  have hby := Bd.bytes
  have hml : c.maxLocals = 5 := hml0
  have hown : s.vm.findClass own_PM = some m.cls := findClass_of_methodNamed Bd.named
  have hnm := (name_of_methodNamed Bd.named Bd.method).1
  have X0 : Stand p l e ({ frames := 0, cells := 0, slots := 0, locals := 0 } : Room) s m #[(.ref a1), (.ref a2)] below meth c s₁ [] 0 0 := Stand.of_body Bd
  have e0 : s₁.heap = h0 := by rw [← hh, Bd.state]; rfl
  have N0 := Fr.nil n0
  have K0 : Keep h0 h0 [] := Keep.refl h0 _
  have go : Gl p.tables e below (fun o U' => ∃ v L, o = .returned v ∧ Q_rimB Z a1 a2 s1 s2 h0 n0 v U'.heap L ∧ FrameEnd s o U' L ({ frames := 0, cells := 0, slots := 0, locals := 0 } : Room).cells ({ frames := 0, cells := 0, slots := 0, locals := 0 } : Room).slots) (s₁.setTop (mkF m 0 #[.val (.ref a1), .val (.ref a2), .unset, .unset, .unset] [])) := by
    refine Gl.step (B := (s₁.setTop (mkF m 1 #[.val (.ref a1), .val (.ref a2), .unset, .unset, .unset] [(.ref a1)]))) (fun t k => XS.aloadN X0.here hx rfl (hb hby d24_0) rfl rfl k) ?_
    obtain ⟨T1, X1, e1, st1⟩ := getF X0 hx hZ hown (host := "") (Or.inl (t46 hw)) Via.refl e0 pm0 (g := (mkF m 1 #[.val (.ref a1), .val (.ref a2), .unset, .unset, .unset] [(.ref a1)])) rfl rfl (hb hby d24_1)
    refine Gl.step (B := (T1.setTop (mkF m 4 #[.val (.ref a1), .val (.ref a2), .unset, .unset, .unset] [(.int s1)]))) st1 ?_
    refine Gl.step (B := (T1.setTop (mkF m 5 #[.val (.ref a1), .val (.ref a2), .unset, .unset, .unset] [(.ref a2), (.int s1)]))) (fun t k => XS.aloadN X1.here hx rfl (hb hby d24_4) rfl rfl k) ?_
    obtain ⟨T2, X2, e2, st2⟩ := getF X1 hx hZ hown (host := "") (Or.inl (t46 hw)) Via.refl e1 pm1 (g := (mkF m 5 #[.val (.ref a1), .val (.ref a2), .unset, .unset, .unset] [(.ref a2), (.int s1)])) rfl rfl (hb hby d24_5)
    refine Gl.step (B := (T2.setTop (mkF m 8 #[.val (.ref a1), .val (.ref a2), .unset, .unset, .unset] [(.int s2), (.int s1)]))) st2 ?_
    refine Gl.step (B := (T2.setTop (mkF m 16 #[.val (.ref a1), .val (.ref a2), .val (.int (s1 - s2)), .unset, .unset] [(.ref a2), (.int (s1 - s2))]))) (fun t k => XS.isub X2.here hx rfl (hb hby d24_8) rfl (XS.istoreN X2.here hx rfl (hb hby d24_9) rfl (l' := #[.val (.ref a1), .val (.ref a2), .val (.int (s1 - s2)), .unset, .unset]) rfl (XS.iloadN X2.here hx rfl (hb hby d24_10) rfl (XS.ifNo X2.here hx rfl (hb hby d24_11) rfl ((if0 _ _).trans (flt (hd : ¬ ((s1 - s2) < (0 : Int32)))).1) (XS.iloadN X2.here hx rfl (hb hby d24_14) rfl (XS.aloadN X2.here hx rfl (hb hby d24_15) rfl rfl k)))))) ?_
    obtain ⟨T3, X3, e3, st3⟩ := getF X2 hx hZ hown (host := "") (Or.inl (t46 hw)) Via.refl e2 pm1 (g := (mkF m 16 #[.val (.ref a1), .val (.ref a2), .val (.int (s1 - s2)), .unset, .unset] [(.ref a2), (.int (s1 - s2))])) rfl rfl (hb hby d24_16)
    refine Gl.step (B := (T3.setTop (mkF m 19 #[.val (.ref a1), .val (.ref a2), .val (.int (s1 - s2)), .unset, .unset] [(.int s2), (.int (s1 - s2))]))) st3 ?_
    refine Gl.step (B := (T3.setTop (mkF m 23 #[.val (.ref a1), .val (.ref a2), .val (.int (s1 - s2)), .unset, .unset] [(.int (0 : Int32))]))) (fun t k => XS.icmpNo X3.here hx rfl (hb hby d24_19) rfl (tlt (he : s2 < (s1 - s2))).2.2.2 (XS.iconst X3.here hx rfl (hb hby d24_22) k)) ?_
    obtain ⟨fs, hr, hrun, hended, hW, hsame⟩ := X3.leave (v := some (.int (0 : Int32))) (fun h => by rw [Bd.returns] at h; cases h)
    refine ⟨_, _, ?_, hrun, hended, _, _, rfl, ?_, ⟨_, rfl⟩, hW, hsame.mono (by decide) (by decide)⟩
    · show Steps p.tables e below (T3.setTop (mkF m 23 #[.val (.ref a1), .val (.ref a2), .val (.int (s1 - s2)), .unset, .unset] [(.int (0 : Int32))])) _
      exact retN X3 hx (t := .boolean) Bd.returns (by simp) (hb hby d24_23) hr
    · show Q_rimB Z a1 a2 s1 s2 h0 n0 _ T3.heap _
      rw [e3]
      exact ⟨rfl, N0, rfl⟩
  obtain ⟨s₂, o, g1, g2, g3, g4⟩ := go
  exact ⟨s₂, o, castTop (ef_rimB m a1 a2) g1, g2, g3, g4⟩
theorem ef_rim0 (m : MethodId) (x0 : Addr) (x1 : Addr) : entryFrame m #[(.ref x0), (.ref x1)] 5 = mkF m 0 #[.val (.ref x0), .val (.ref x1), .unset, .unset, .unset] [] := by first | (simp [entryFrame, mkF, argsToLocals, Value.category]; done) | rfl
theorem d24_24 : decode prog_164_method_6_code 24 = .ok (.aload_n 0, 1) := by decide +kernel
theorem d24_25 : decode prog_164_method_6_code 25 = .ok (.astore_n 3, 1) := by decide +kernel
theorem d24_26 : decode prog_164_method_6_code 26 = .ok (.iconst 0, 1) := by decide +kernel
theorem d24_27 : decode prog_164_method_6_code 27 = .ok (.istore 4, 2) := by decide +kernel
theorem d24_29 : decode prog_164_method_6_code 29 = .ok (.iload 4, 2) := by decide +kernel
theorem d24_31 : decode prog_164_method_6_code 31 = .ok (.iload_n 2, 1) := by decide +kernel
theorem d24_32 : decode prog_164_method_6_code 32 = .ok (.if_icmp .ge 18, 3) := by decide +kernel
theorem d24_50 : decode prog_164_method_6_code 50 = .ok (.aload_n 3, 1) := by decide +kernel
theorem d24_51 : decode prog_164_method_6_code 51 = .ok (.aload_n 1, 1) := by decide +kernel
theorem d24_52 : decode prog_164_method_6_code 52 = .ok (.if_acmp .ne 7, 3) := by decide +kernel
theorem d24_55 : decode prog_164_method_6_code 55 = .ok (.iconst 1, 1) := by decide +kernel
theorem d24_56 : decode prog_164_method_6_code 56 = .ok (.goto 4, 3) := by decide +kernel
theorem d24_60 : decode prog_164_method_6_code 60 = .ok (.ireturn, 1) := by decide +kernel
theorem d24_59 : decode prog_164_method_6_code 59 = .ok (.iconst 0, 1) := by decide +kernel
def Q_rim0 (Z : State) (a1 : Addr) (a2 : Addr) (s1 : Int32) (s2 : Int32) (r : Int32) (h0 : Heap) (n0 : Nat) (v : Option Value) (h : Heap) (L : List Loc) : Prop := v = some (.int r) ∧ Fr n0 L ∧ h = h0
set_option maxRecDepth 65536 in
set_option maxHeartbeats 40000000 in
theorem rim0 (l : Launch) (Z : State) (a0 : Array Value) (hw : ∀ d ∈ tables_1, d.before a0 Z = true) (ws : List Jvm.Cond) (a1 : Addr) (a2 : Addr) (s1 : Int32) (s2 : Int32) (r : Int32) (h0 : Heap) (n0 : Nat) (O0 : Old Z n0 h0) (pm0 : Fld Z h0 a1 own_PM "size" "I" (.int s1)) (pm1 : Fld Z h0 a2 own_PM "size" "I" (.int s2)) (hd : s1 - s2 = (0 : Int32)) (he : ¬ (s2 < s1 - s2)) (hr : (a1 = a2 ∧ r = 1) ∨ (¬ (a1 = a2) ∧ r = 0)) :
    MetFree l y20 (head1 (Jvm.Cond.code y20 prog_164_method_6_code 5 (some .boolean) :: ws) ({ frames := 0, cells := 0, slots := 0, locals := 0 } : Room)) (fun a U => a = #[(.ref a1), (.ref a2)] ∧ Z.Warmed39 U.vm ∧ U.heap = h0) (fun _ _ _ _ _ => True) (fun _ U o U' => ∃ v L, o = .returned v ∧ Q_rim0 Z a1 a2 s1 s2 r h0 n0 v U'.heap L ∧ FrameEnd U o U' L ({ frames := 0, cells := 0, slots := 0, locals := 0 } : Room).cells ({ frames := 0, cells := 0, slots := 0, locals := 0 } : Room).slots) := by
  refine MetFree.of_bodySF (plainFor_of_name pn_com_example_isogloss_isogloss_util_PersistentMap) hisR ?_
  intro p e s m args below meth c s₁ Bd hml0 hP hK
  obtain ⟨rfl, hZ, hh⟩ := hP
  have hx := Bd.exec
  have hby := Bd.bytes
  have hml : c.maxLocals = 5 := hml0
  have hown : s.vm.findClass own_PM = some m.cls := findClass_of_methodNamed Bd.named
  have hnm := (name_of_methodNamed Bd.named Bd.method).1
  have X0 : Stand p l e ({ frames := 0, cells := 0, slots := 0, locals := 0 } : Room) s m #[(.ref a1), (.ref a2)] below meth c s₁ [] 0 0 := Stand.of_body Bd
  have e0 : s₁.heap = h0 := by rw [← hh, Bd.state]; rfl
  have N0 := Fr.nil n0
  have K0 : Keep h0 h0 [] := Keep.refl h0 _
  have go : Gl p.tables e below (fun o U' => ∃ v L, o = .returned v ∧ Q_rim0 Z a1 a2 s1 s2 r h0 n0 v U'.heap L ∧ FrameEnd s o U' L ({ frames := 0, cells := 0, slots := 0, locals := 0 } : Room).cells ({ frames := 0, cells := 0, slots := 0, locals := 0 } : Room).slots) (s₁.setTop (mkF m 0 #[.val (.ref a1), .val (.ref a2), .unset, .unset, .unset] [])) := by
    refine Gl.step (B := (s₁.setTop (mkF m 1 #[.val (.ref a1), .val (.ref a2), .unset, .unset, .unset] [(.ref a1)]))) (fun t k => XS.aloadN X0.here hx rfl (hb hby d24_0) rfl rfl k) ?_
    obtain ⟨T1, X1, e1, st1⟩ := getF X0 hx hZ hown (host := "") (Or.inl (t46 hw)) Via.refl e0 pm0 (g := (mkF m 1 #[.val (.ref a1), .val (.ref a2), .unset, .unset, .unset] [(.ref a1)])) rfl rfl (hb hby d24_1)
    refine Gl.step (B := (T1.setTop (mkF m 4 #[.val (.ref a1), .val (.ref a2), .unset, .unset, .unset] [(.int s1)]))) st1 ?_
    refine Gl.step (B := (T1.setTop (mkF m 5 #[.val (.ref a1), .val (.ref a2), .unset, .unset, .unset] [(.ref a2), (.int s1)]))) (fun t k => XS.aloadN X1.here hx rfl (hb hby d24_4) rfl rfl k) ?_
    obtain ⟨T2, X2, e2, st2⟩ := getF X1 hx hZ hown (host := "") (Or.inl (t46 hw)) Via.refl e1 pm1 (g := (mkF m 5 #[.val (.ref a1), .val (.ref a2), .unset, .unset, .unset] [(.ref a2), (.int s1)])) rfl rfl (hb hby d24_5)
    refine Gl.step (B := (T2.setTop (mkF m 8 #[.val (.ref a1), .val (.ref a2), .unset, .unset, .unset] [(.int s2), (.int s1)]))) st2 ?_
    refine Gl.step (B := (T2.setTop (mkF m 16 #[.val (.ref a1), .val (.ref a2), .val (.int (s1 - s2)), .unset, .unset] [(.ref a2), (.int (s1 - s2))]))) (fun t k => XS.isub X2.here hx rfl (hb hby d24_8) rfl (XS.istoreN X2.here hx rfl (hb hby d24_9) rfl (l' := #[.val (.ref a1), .val (.ref a2), .val (.int (s1 - s2)), .unset, .unset]) rfl (XS.iloadN X2.here hx rfl (hb hby d24_10) rfl (XS.ifNo X2.here hx rfl (hb hby d24_11) rfl ((if0 _ _).trans (flt (by rw [hd]; decide : ¬ ((s1 - s2) < (0 : Int32)))).1) (XS.iloadN X2.here hx rfl (hb hby d24_14) rfl (XS.aloadN X2.here hx rfl (hb hby d24_15) rfl rfl k)))))) ?_
    obtain ⟨T3, X3, e3, st3⟩ := getF X2 hx hZ hown (host := "") (Or.inl (t46 hw)) Via.refl e2 pm1 (g := (mkF m 16 #[.val (.ref a1), .val (.ref a2), .val (.int (s1 - s2)), .unset, .unset] [(.ref a2), (.int (s1 - s2))])) rfl rfl (hb hby d24_16)
    refine Gl.step (B := (T3.setTop (mkF m 19 #[.val (.ref a1), .val (.ref a2), .val (.int (s1 - s2)), .unset, .unset] [(.int s2), (.int (s1 - s2))]))) st3 ?_
    refine Gl.step (B := (T3.setTop (mkF m 31 #[.val (.ref a1), .val (.ref a2), .val (.int (s1 - s2)), .val (.ref a1), .val (.int (0 : Int32))] [(.int (0 : Int32))]))) (fun t k => XS.icmpYes X3.here hx rfl (pc0 := 19) (pc' := 24) rfl (hb hby d24_19) rfl (flt (he : ¬ (s2 < (s1 - s2)))).2.2.2 (by decide) (by decide) (XS.aloadN X3.here hx rfl (hb hby d24_24) rfl rfl (XS.astoreN X3.here hx rfl (hb hby d24_25) rfl rfl (l' := #[.val (.ref a1), .val (.ref a2), .val (.int (s1 - s2)), .val (.ref a1), .unset]) rfl (XS.iconst X3.here hx rfl (hb hby d24_26) (XS.istore X3.here hx rfl (hb hby d24_27) rfl (l' := #[.val (.ref a1), .val (.ref a2), .val (.int (s1 - s2)), .val (.ref a1), .val (.int (0 : Int32))]) rfl (XS.iload X3.here hx rfl (hb hby d24_29) rfl k)))))) ?_
    refine Gl.step (B := (T3.setTop (mkF m 52 #[.val (.ref a1), .val (.ref a2), .val (.int (s1 - s2)), .val (.ref a1), .val (.int (0 : Int32))] [(.ref a2), (.ref a1)]))) (fun t k => XS.iloadN X3.here hx rfl (hb hby d24_31) rfl (XS.icmpYes X3.here hx rfl (pc0 := 32) (pc' := 50) rfl (hb hby d24_32) rfl (flt (by rw [hd]; decide : ¬ ((0 : Int32) < (s1 - s2)))).2.1 (by decide) (by decide) (XS.aloadN X3.here hx rfl (hb hby d24_50) rfl rfl (XS.aloadN X3.here hx rfl (hb hby d24_51) rfl rfl k)))) ?_
    rcases hr with ⟨qe, qr⟩ | ⟨qe, qr⟩
    · skip
      refine Gl.step (B := (T3.setTop (mkF m 60 #[.val (.ref a1), .val (.ref a2), .val (.int (s1 - s2)), .val (.ref a1), .val (.int (0 : Int32))] [(.int (1 : Int32))]))) (fun t k => Jvm.RoadKit.acmp (g := (mkF m 52 #[.val (.ref a1), .val (.ref a2), .val (.int (s1 - s2)), .val (.ref a1), .val (.int (0 : Int32))] [(.ref a2), (.ref a1)])) X3 hx rfl rfl rfl (pc0 := 52) (pc' := 55) (same := true) rfl (hb hby d24_52) rfl (decide_eq_true (congrArg Value.ref qe)) (by decide) (by decide) (XS.iconst X3.here hx rfl (hb hby d24_55) (XS.goto X3.here hx rfl (pc0 := 56) (pc' := 60) rfl (hb hby d24_56) (by decide) (by decide) k))) ?_
      obtain ⟨fs, hr, hrun, hended, hW, hsame⟩ := X3.leave (v := some (.int (1 : Int32))) (fun h => by rw [Bd.returns] at h; cases h)
      refine ⟨_, _, ?_, hrun, hended, _, _, rfl, ?_, ⟨_, rfl⟩, hW, hsame.mono (by decide) (by decide)⟩
      · show Steps p.tables e below (T3.setTop (mkF m 60 #[.val (.ref a1), .val (.ref a2), .val (.int (s1 - s2)), .val (.ref a1), .val (.int (0 : Int32))] [(.int (1 : Int32))])) _
        exact retN X3 hx (t := .boolean) Bd.returns (by simp) (hb hby d24_60) hr
      · show Q_rim0 Z a1 a2 s1 s2 r h0 n0 _ T3.heap _
        rw [e3]
        exact ⟨(by rw [qr]), N0, rfl⟩
    · skip
      refine Gl.step (B := (T3.setTop (mkF m 60 #[.val (.ref a1), .val (.ref a2), .val (.int (s1 - s2)), .val (.ref a1), .val (.int (0 : Int32))] [(.int (0 : Int32))]))) (fun t k => Jvm.RoadKit.acmp (g := (mkF m 52 #[.val (.ref a1), .val (.ref a2), .val (.int (s1 - s2)), .val (.ref a1), .val (.int (0 : Int32))] [(.ref a2), (.ref a1)])) X3 hx rfl rfl rfl (pc0 := 52) (pc' := 59) (same := false) rfl (hb hby d24_52) rfl (decide_eq_false fun q => qe (Value.ref.inj q)) (by decide) (by decide) (XS.iconst X3.here hx rfl (hb hby d24_59) k)) ?_
      obtain ⟨fs, hr, hrun, hended, hW, hsame⟩ := X3.leave (v := some (.int (0 : Int32))) (fun h => by rw [Bd.returns] at h; cases h)
      refine ⟨_, _, ?_, hrun, hended, _, _, rfl, ?_, ⟨_, rfl⟩, hW, hsame.mono (by decide) (by decide)⟩
      · show Steps p.tables e below (T3.setTop (mkF m 60 #[.val (.ref a1), .val (.ref a2), .val (.int (s1 - s2)), .val (.ref a1), .val (.int (0 : Int32))] [(.int (0 : Int32))])) _
        exact retN X3 hx (t := .boolean) Bd.returns (by simp) (hb hby d24_60) hr
      · show Q_rim0 Z a1 a2 s1 s2 r h0 n0 _ T3.heap _
        rw [e3]
        exact ⟨(by rw [qr]), N0, rfl⟩
  obtain ⟨s₂, o, g1, g2, g3, g4⟩ := go
  exact ⟨s₂, o, castTop (ef_rim0 m a1 a2) g1, g2, g3, g4⟩
theorem ef_rim1N (m : MethodId) (x0 : Addr) (x1 : Addr) : entryFrame m #[(.ref x0), (.ref x1)] 5 = mkF m 0 #[.val (.ref x0), .val (.ref x1), .unset, .unset, .unset] [] := by first | (simp [entryFrame, mkF, argsToLocals, Value.category]; done) | rfl
theorem d24_35 : decode prog_164_method_6_code 35 = .ok (.aload_n 3, 1) := by decide +kernel
theorem d24_36 : decode prog_164_method_6_code 36 = .ok (.ifnull 14, 3) := by decide +kernel
theorem d24_39 : decode prog_164_method_6_code 39 = .ok (.aload_n 3, 1) := by decide +kernel
theorem d24_40 : decode prog_164_method_6_code 40 = .ok (.getfield 20, 3) := by decide +kernel
theorem d24_43 : decode prog_164_method_6_code 43 = .ok (.astore_n 3, 1) := by decide +kernel
theorem d24_44 : decode prog_164_method_6_code 44 = .ok (.iinc 4 1, 3) := by decide +kernel
theorem d24_47 : decode prog_164_method_6_code 47 = .ok (.goto (-18), 3) := by decide +kernel
def Q_rim1N (Z : State) (a1 : Addr) (a2 : Addr) (s1 : Int32) (s2 : Int32) (h0 : Heap) (n0 : Nat) (v : Option Value) (h : Heap) (L : List Loc) : Prop := v = some (.int (0 : Int32)) ∧ Fr n0 L ∧ h = h0
set_option maxRecDepth 65536 in
set_option maxHeartbeats 40000000 in
theorem rim1N (l : Launch) (Z : State) (a0 : Array Value) (hw : ∀ d ∈ tables_1, d.before a0 Z = true) (ws : List Jvm.Cond) (a1 : Addr) (a2 : Addr) (s1 : Int32) (s2 : Int32) (h0 : Heap) (n0 : Nat) (O0 : Old Z n0 h0) (pm0 : Fld Z h0 a1 own_PM "size" "I" (.int s1)) (pm1 : Fld Z h0 a2 own_PM "size" "I" (.int s2)) (hd : s1 - s2 = (1 : Int32)) (he : ¬ (s2 < s1 - s2)) (pm4 : Fld Z h0 a1 own_PM "base" own_LP .null) :
    MetFree l y20 (head1 (Jvm.Cond.code y20 prog_164_method_6_code 5 (some .boolean) :: ws) ({ frames := 0, cells := 0, slots := 0, locals := 0 } : Room)) (fun a U => a = #[(.ref a1), (.ref a2)] ∧ Z.Warmed39 U.vm ∧ U.heap = h0) (fun _ _ _ _ _ => True) (fun _ U o U' => ∃ v L, o = .returned v ∧ Q_rim1N Z a1 a2 s1 s2 h0 n0 v U'.heap L ∧ FrameEnd U o U' L ({ frames := 0, cells := 0, slots := 0, locals := 0 } : Room).cells ({ frames := 0, cells := 0, slots := 0, locals := 0 } : Room).slots) := by
  refine MetFree.of_bodySF (plainFor_of_name pn_com_example_isogloss_isogloss_util_PersistentMap) hisR ?_
  intro p e s m args below meth c s₁ Bd hml0 hP hK
  obtain ⟨rfl, hZ, hh⟩ := hP
  have hx := Bd.exec
  have hby := Bd.bytes
  have hml : c.maxLocals = 5 := hml0
  have hown : s.vm.findClass own_PM = some m.cls := findClass_of_methodNamed Bd.named
  have hnm := (name_of_methodNamed Bd.named Bd.method).1
  have X0 : Stand p l e ({ frames := 0, cells := 0, slots := 0, locals := 0 } : Room) s m #[(.ref a1), (.ref a2)] below meth c s₁ [] 0 0 := Stand.of_body Bd
  have e0 : s₁.heap = h0 := by rw [← hh, Bd.state]; rfl
  have N0 := Fr.nil n0
  have K0 : Keep h0 h0 [] := Keep.refl h0 _
  have go : Gl p.tables e below (fun o U' => ∃ v L, o = .returned v ∧ Q_rim1N Z a1 a2 s1 s2 h0 n0 v U'.heap L ∧ FrameEnd s o U' L ({ frames := 0, cells := 0, slots := 0, locals := 0 } : Room).cells ({ frames := 0, cells := 0, slots := 0, locals := 0 } : Room).slots) (s₁.setTop (mkF m 0 #[.val (.ref a1), .val (.ref a2), .unset, .unset, .unset] [])) := by
    refine Gl.step (B := (s₁.setTop (mkF m 1 #[.val (.ref a1), .val (.ref a2), .unset, .unset, .unset] [(.ref a1)]))) (fun t k => XS.aloadN X0.here hx rfl (hb hby d24_0) rfl rfl k) ?_
    obtain ⟨T1, X1, e1, st1⟩ := getF X0 hx hZ hown (host := "") (Or.inl (t46 hw)) Via.refl e0 pm0 (g := (mkF m 1 #[.val (.ref a1), .val (.ref a2), .unset, .unset, .unset] [(.ref a1)])) rfl rfl (hb hby d24_1)
    refine Gl.step (B := (T1.setTop (mkF m 4 #[.val (.ref a1), .val (.ref a2), .unset, .unset, .unset] [(.int s1)]))) st1 ?_
    refine Gl.step (B := (T1.setTop (mkF m 5 #[.val (.ref a1), .val (.ref a2), .unset, .unset, .unset] [(.ref a2), (.int s1)]))) (fun t k => XS.aloadN X1.here hx rfl (hb hby d24_4) rfl rfl k) ?_
    obtain ⟨T2, X2, e2, st2⟩ := getF X1 hx hZ hown (host := "") (Or.inl (t46 hw)) Via.refl e1 pm1 (g := (mkF m 5 #[.val (.ref a1), .val (.ref a2), .unset, .unset, .unset] [(.ref a2), (.int s1)])) rfl rfl (hb hby d24_5)
    refine Gl.step (B := (T2.setTop (mkF m 8 #[.val (.ref a1), .val (.ref a2), .unset, .unset, .unset] [(.int s2), (.int s1)]))) st2 ?_
    refine Gl.step (B := (T2.setTop (mkF m 16 #[.val (.ref a1), .val (.ref a2), .val (.int (s1 - s2)), .unset, .unset] [(.ref a2), (.int (s1 - s2))]))) (fun t k => XS.isub X2.here hx rfl (hb hby d24_8) rfl (XS.istoreN X2.here hx rfl (hb hby d24_9) rfl (l' := #[.val (.ref a1), .val (.ref a2), .val (.int (s1 - s2)), .unset, .unset]) rfl (XS.iloadN X2.here hx rfl (hb hby d24_10) rfl (XS.ifNo X2.here hx rfl (hb hby d24_11) rfl ((if0 _ _).trans (flt (by rw [hd]; decide : ¬ ((s1 - s2) < (0 : Int32)))).1) (XS.iloadN X2.here hx rfl (hb hby d24_14) rfl (XS.aloadN X2.here hx rfl (hb hby d24_15) rfl rfl k)))))) ?_
    obtain ⟨T3, X3, e3, st3⟩ := getF X2 hx hZ hown (host := "") (Or.inl (t46 hw)) Via.refl e2 pm1 (g := (mkF m 16 #[.val (.ref a1), .val (.ref a2), .val (.int (s1 - s2)), .unset, .unset] [(.ref a2), (.int (s1 - s2))])) rfl rfl (hb hby d24_16)
    refine Gl.step (B := (T3.setTop (mkF m 19 #[.val (.ref a1), .val (.ref a2), .val (.int (s1 - s2)), .unset, .unset] [(.int s2), (.int (s1 - s2))]))) st3 ?_
    refine Gl.step (B := (T3.setTop (mkF m 31 #[.val (.ref a1), .val (.ref a2), .val (.int (s1 - s2)), .val (.ref a1), .val (.int (0 : Int32))] [(.int (0 : Int32))]))) (fun t k => XS.icmpYes X3.here hx rfl (pc0 := 19) (pc' := 24) rfl (hb hby d24_19) rfl (flt (he : ¬ (s2 < (s1 - s2)))).2.2.2 (by decide) (by decide) (XS.aloadN X3.here hx rfl (hb hby d24_24) rfl rfl (XS.astoreN X3.here hx rfl (hb hby d24_25) rfl rfl (l' := #[.val (.ref a1), .val (.ref a2), .val (.int (s1 - s2)), .val (.ref a1), .unset]) rfl (XS.iconst X3.here hx rfl (hb hby d24_26) (XS.istore X3.here hx rfl (hb hby d24_27) rfl (l' := #[.val (.ref a1), .val (.ref a2), .val (.int (s1 - s2)), .val (.ref a1), .val (.int (0 : Int32))]) rfl (XS.iload X3.here hx rfl (hb hby d24_29) rfl k)))))) ?_
    refine Gl.step (B := (T3.setTop (mkF m 40 #[.val (.ref a1), .val (.ref a2), .val (.int (s1 - s2)), .val (.ref a1), .val (.int (0 : Int32))] [(.ref a1)]))) (fun t k => XS.iloadN X3.here hx rfl (hb hby d24_31) rfl (XS.icmpNo X3.here hx rfl (hb hby d24_32) rfl (tlt (by rw [hd]; decide : (0 : Int32) < (s1 - s2))).2.1 (XS.aloadN X3.here hx rfl (hb hby d24_35) rfl rfl (XS.ifnullNo X3.here hx rfl (hb hby d24_36) rfl (XS.aloadN X3.here hx rfl (hb hby d24_39) rfl rfl k))))) ?_
    obtain ⟨T4, X4, e4, st4⟩ := getF X3 hx hZ hown (host := "") (Or.inl (t48 hw)) Via.refl e3 pm4 (g := (mkF m 40 #[.val (.ref a1), .val (.ref a2), .val (.int (s1 - s2)), .val (.ref a1), .val (.int (0 : Int32))] [(.ref a1)])) rfl rfl (hb hby d24_40)
    refine Gl.step (B := (T4.setTop (mkF m 43 #[.val (.ref a1), .val (.ref a2), .val (.int (s1 - s2)), .val (.ref a1), .val (.int (0 : Int32))] [.null]))) st4 ?_
    refine Gl.step (B := (T4.setTop (mkF m 50 #[.val (.ref a1), .val (.ref a2), .val (.int (s1 - s2)), .val .null, .val (.int ((0 : Int32) + (1 : Int32)))] []))) (fun t k => XS.astoreN X4.here hx rfl (hb hby d24_43) rfl rfl (l' := #[.val (.ref a1), .val (.ref a2), .val (.int (s1 - s2)), .val .null, .val (.int (0 : Int32))]) rfl (XS.iinc X4.here hx rfl (hb hby d24_44) rfl (l' := #[.val (.ref a1), .val (.ref a2), .val (.int (s1 - s2)), .val .null, .val (.int ((0 : Int32) + (1 : Int32)))]) rfl (XS.goto X4.here hx rfl (pc0 := 47) (pc' := 29) rfl (hb hby d24_47) (by decide) (by decide) (XS.iload X4.here hx rfl (hb hby d24_29) rfl (XS.iloadN X4.here hx rfl (hb hby d24_31) rfl (XS.icmpYes X4.here hx rfl (pc0 := 32) (pc' := 50) rfl (hb hby d24_32) rfl (flt (by rw [hd]; decide : ¬ (((0 : Int32) + (1 : Int32)) < (s1 - s2)))).2.1 (by decide) (by decide) k)))))) ?_
    refine Gl.step (B := (T4.setTop (mkF m 60 #[.val (.ref a1), .val (.ref a2), .val (.int (s1 - s2)), .val .null, .val (.int ((0 : Int32) + (1 : Int32)))] [(.int (0 : Int32))]))) (fun t k => XS.aloadN X4.here hx rfl (hb hby d24_50) rfl rfl (XS.aloadN X4.here hx rfl (hb hby d24_51) rfl rfl (Jvm.RoadKit.acmp (g := (mkF m 52 #[.val (.ref a1), .val (.ref a2), .val (.int (s1 - s2)), .val .null, .val (.int ((0 : Int32) + (1 : Int32)))] [(.ref a2), .null])) X4 hx rfl rfl rfl (pc0 := 52) (pc' := 59) (same := false) rfl (hb hby d24_52) rfl (decide_eq_false nofun) (by decide) (by decide) (XS.iconst X4.here hx rfl (hb hby d24_59) k)))) ?_
    obtain ⟨fs, hr, hrun, hended, hW, hsame⟩ := X4.leave (v := some (.int (0 : Int32))) (fun h => by rw [Bd.returns] at h; cases h)
    refine ⟨_, _, ?_, hrun, hended, _, _, rfl, ?_, ⟨_, rfl⟩, hW, hsame.mono (by decide) (by decide)⟩
    · show Steps p.tables e below (T4.setTop (mkF m 60 #[.val (.ref a1), .val (.ref a2), .val (.int (s1 - s2)), .val .null, .val (.int ((0 : Int32) + (1 : Int32)))] [(.int (0 : Int32))])) _
      exact retN X4 hx (t := .boolean) Bd.returns (by simp) (hb hby d24_60) hr
    · show Q_rim1N Z a1 a2 s1 s2 h0 n0 _ T4.heap _
      rw [e4]
      exact ⟨rfl, N0, rfl⟩
  obtain ⟨s₂, o, g1, g2, g3, g4⟩ := go
  exact ⟨s₂, o, castTop (ef_rim1N m a1 a2) g1, g2, g3, g4⟩
theorem ef_rim1R (m : MethodId) (x0 : Addr) (x1 : Addr) : entryFrame m #[(.ref x0), (.ref x1)] 5 = mkF m 0 #[.val (.ref x0), .val (.ref x1), .unset, .unset, .unset] [] := by first | (simp [entryFrame, mkF, argsToLocals, Value.category]; done) | rfl
def Q_rim1R (Z : State) (a1 : Addr) (a2 : Addr) (s1 : Int32) (s2 : Int32) (b1 : Addr) (r : Int32) (h0 : Heap) (n0 : Nat) (v : Option Value) (h : Heap) (L : List Loc) : Prop := v = some (.int r) ∧ Fr n0 L ∧ h = h0
set_option maxRecDepth 65536 in
set_option maxHeartbeats 40000000 in
theorem rim1R (l : Launch) (Z : State) (a0 : Array Value) (hw : ∀ d ∈ tables_1, d.before a0 Z = true) (ws : List Jvm.Cond) (a1 : Addr) (a2 : Addr) (s1 : Int32) (s2 : Int32) (b1 : Addr) (r : Int32) (h0 : Heap) (n0 : Nat) (O0 : Old Z n0 h0) (pm0 : Fld Z h0 a1 own_PM "size" "I" (.int s1)) (pm1 : Fld Z h0 a2 own_PM "size" "I" (.int s2)) (hd : s1 - s2 = (1 : Int32)) (he : ¬ (s2 < s1 - s2)) (pm4 : Fld Z h0 a1 own_PM "base" own_LP (.ref b1)) (hr : (b1 = a2 ∧ r = 1) ∨ (¬ (b1 = a2) ∧ r = 0)) :
    MetFree l y20 (head1 (Jvm.Cond.code y20 prog_164_method_6_code 5 (some .boolean) :: ws) ({ frames := 0, cells := 0, slots := 0, locals := 0 } : Room)) (fun a U => a = #[(.ref a1), (.ref a2)] ∧ Z.Warmed39 U.vm ∧ U.heap = h0) (fun _ _ _ _ _ => True) (fun _ U o U' => ∃ v L, o = .returned v ∧ Q_rim1R Z a1 a2 s1 s2 b1 r h0 n0 v U'.heap L ∧ FrameEnd U o U' L ({ frames := 0, cells := 0, slots := 0, locals := 0 } : Room).cells ({ frames := 0, cells := 0, slots := 0, locals := 0 } : Room).slots) := by
  refine MetFree.of_bodySF (plainFor_of_name pn_com_example_isogloss_isogloss_util_PersistentMap) hisR ?_
  intro p e s m args below meth c s₁ Bd hml0 hP hK
  obtain ⟨rfl, hZ, hh⟩ := hP
  have hx := Bd.exec
  have hby := Bd.bytes
  have hml : c.maxLocals = 5 := hml0
  have hown : s.vm.findClass own_PM = some m.cls := findClass_of_methodNamed Bd.named
  have hnm := (name_of_methodNamed Bd.named Bd.method).1
  have X0 : Stand p l e ({ frames := 0, cells := 0, slots := 0, locals := 0 } : Room) s m #[(.ref a1), (.ref a2)] below meth c s₁ [] 0 0 := Stand.of_body Bd
  have e0 : s₁.heap = h0 := by rw [← hh, Bd.state]; rfl
  have N0 := Fr.nil n0
  have K0 : Keep h0 h0 [] := Keep.refl h0 _
  have go : Gl p.tables e below (fun o U' => ∃ v L, o = .returned v ∧ Q_rim1R Z a1 a2 s1 s2 b1 r h0 n0 v U'.heap L ∧ FrameEnd s o U' L ({ frames := 0, cells := 0, slots := 0, locals := 0 } : Room).cells ({ frames := 0, cells := 0, slots := 0, locals := 0 } : Room).slots) (s₁.setTop (mkF m 0 #[.val (.ref a1), .val (.ref a2), .unset, .unset, .unset] [])) := by
    refine Gl.step (B := (s₁.setTop (mkF m 1 #[.val (.ref a1), .val (.ref a2), .unset, .unset, .unset] [(.ref a1)]))) (fun t k => XS.aloadN X0.here hx rfl (hb hby d24_0) rfl rfl k) ?_
    obtain ⟨T1, X1, e1, st1⟩ := getF X0 hx hZ hown (host := "") (Or.inl (t46 hw)) Via.refl e0 pm0 (g := (mkF m 1 #[.val (.ref a1), .val (.ref a2), .unset, .unset, .unset] [(.ref a1)])) rfl rfl (hb hby d24_1)
    refine Gl.step (B := (T1.setTop (mkF m 4 #[.val (.ref a1), .val (.ref a2), .unset, .unset, .unset] [(.int s1)]))) st1 ?_
    refine Gl.step (B := (T1.setTop (mkF m 5 #[.val (.ref a1), .val (.ref a2), .unset, .unset, .unset] [(.ref a2), (.int s1)]))) (fun t k => XS.aloadN X1.here hx rfl (hb hby d24_4) rfl rfl k) ?_
    obtain ⟨T2, X2, e2, st2⟩ := getF X1 hx hZ hown (host := "") (Or.inl (t46 hw)) Via.refl e1 pm1 (g := (mkF m 5 #[.val (.ref a1), .val (.ref a2), .unset, .unset, .unset] [(.ref a2), (.int s1)])) rfl rfl (hb hby d24_5)
    refine Gl.step (B := (T2.setTop (mkF m 8 #[.val (.ref a1), .val (.ref a2), .unset, .unset, .unset] [(.int s2), (.int s1)]))) st2 ?_
    refine Gl.step (B := (T2.setTop (mkF m 16 #[.val (.ref a1), .val (.ref a2), .val (.int (s1 - s2)), .unset, .unset] [(.ref a2), (.int (s1 - s2))]))) (fun t k => XS.isub X2.here hx rfl (hb hby d24_8) rfl (XS.istoreN X2.here hx rfl (hb hby d24_9) rfl (l' := #[.val (.ref a1), .val (.ref a2), .val (.int (s1 - s2)), .unset, .unset]) rfl (XS.iloadN X2.here hx rfl (hb hby d24_10) rfl (XS.ifNo X2.here hx rfl (hb hby d24_11) rfl ((if0 _ _).trans (flt (by rw [hd]; decide : ¬ ((s1 - s2) < (0 : Int32)))).1) (XS.iloadN X2.here hx rfl (hb hby d24_14) rfl (XS.aloadN X2.here hx rfl (hb hby d24_15) rfl rfl k)))))) ?_
    obtain ⟨T3, X3, e3, st3⟩ := getF X2 hx hZ hown (host := "") (Or.inl (t46 hw)) Via.refl e2 pm1 (g := (mkF m 16 #[.val (.ref a1), .val (.ref a2), .val (.int (s1 - s2)), .unset, .unset] [(.ref a2), (.int (s1 - s2))])) rfl rfl (hb hby d24_16)
    refine Gl.step (B := (T3.setTop (mkF m 19 #[.val (.ref a1), .val (.ref a2), .val (.int (s1 - s2)), .unset, .unset] [(.int s2), (.int (s1 - s2))]))) st3 ?_
    refine Gl.step (B := (T3.setTop (mkF m 31 #[.val (.ref a1), .val (.ref a2), .val (.int (s1 - s2)), .val (.ref a1), .val (.int (0 : Int32))] [(.int (0 : Int32))]))) (fun t k => XS.icmpYes X3.here hx rfl (pc0 := 19) (pc' := 24) rfl (hb hby d24_19) rfl (flt (he : ¬ (s2 < (s1 - s2)))).2.2.2 (by decide) (by decide) (XS.aloadN X3.here hx rfl (hb hby d24_24) rfl rfl (XS.astoreN X3.here hx rfl (hb hby d24_25) rfl rfl (l' := #[.val (.ref a1), .val (.ref a2), .val (.int (s1 - s2)), .val (.ref a1), .unset]) rfl (XS.iconst X3.here hx rfl (hb hby d24_26) (XS.istore X3.here hx rfl (hb hby d24_27) rfl (l' := #[.val (.ref a1), .val (.ref a2), .val (.int (s1 - s2)), .val (.ref a1), .val (.int (0 : Int32))]) rfl (XS.iload X3.here hx rfl (hb hby d24_29) rfl k)))))) ?_
    refine Gl.step (B := (T3.setTop (mkF m 40 #[.val (.ref a1), .val (.ref a2), .val (.int (s1 - s2)), .val (.ref a1), .val (.int (0 : Int32))] [(.ref a1)]))) (fun t k => XS.iloadN X3.here hx rfl (hb hby d24_31) rfl (XS.icmpNo X3.here hx rfl (hb hby d24_32) rfl (tlt (by rw [hd]; decide : (0 : Int32) < (s1 - s2))).2.1 (XS.aloadN X3.here hx rfl (hb hby d24_35) rfl rfl (XS.ifnullNo X3.here hx rfl (hb hby d24_36) rfl (XS.aloadN X3.here hx rfl (hb hby d24_39) rfl rfl k))))) ?_
    obtain ⟨T4, X4, e4, st4⟩ := getF X3 hx hZ hown (host := "") (Or.inl (t48 hw)) Via.refl e3 pm4 (g := (mkF m 40 #[.val (.ref a1), .val (.ref a2), .val (.int (s1 - s2)), .val (.ref a1), .val (.int (0 : Int32))] [(.ref a1)])) rfl rfl (hb hby d24_40)
    refine Gl.step (B := (T4.setTop (mkF m 43 #[.val (.ref a1), .val (.ref a2), .val (.int (s1 - s2)), .val (.ref a1), .val (.int (0 : Int32))] [(.ref b1)]))) st4 ?_
    refine Gl.step (B := (T4.setTop (mkF m 50 #[.val (.ref a1), .val (.ref a2), .val (.int (s1 - s2)), .val (.ref b1), .val (.int ((0 : Int32) + (1 : Int32)))] []))) (fun t k => XS.astoreN X4.here hx rfl (hb hby d24_43) rfl rfl (l' := #[.val (.ref a1), .val (.ref a2), .val (.int (s1 - s2)), .val (.ref b1), .val (.int (0 : Int32))]) rfl (XS.iinc X4.here hx rfl (hb hby d24_44) rfl (l' := #[.val (.ref a1), .val (.ref a2), .val (.int (s1 - s2)), .val (.ref b1), .val (.int ((0 : Int32) + (1 : Int32)))]) rfl (XS.goto X4.here hx rfl (pc0 := 47) (pc' := 29) rfl (hb hby d24_47) (by decide) (by decide) (XS.iload X4.here hx rfl (hb hby d24_29) rfl (XS.iloadN X4.here hx rfl (hb hby d24_31) rfl (XS.icmpYes X4.here hx rfl (pc0 := 32) (pc' := 50) rfl (hb hby d24_32) rfl (flt (by rw [hd]; decide : ¬ (((0 : Int32) + (1 : Int32)) < (s1 - s2)))).2.1 (by decide) (by decide) k)))))) ?_
    refine Gl.step (B := (T4.setTop (mkF m 52 #[.val (.ref a1), .val (.ref a2), .val (.int (s1 - s2)), .val (.ref b1), .val (.int ((0 : Int32) + (1 : Int32)))] [(.ref a2), (.ref b1)]))) (fun t k => XS.aloadN X4.here hx rfl (hb hby d24_50) rfl rfl (XS.aloadN X4.here hx rfl (hb hby d24_51) rfl rfl k)) ?_
    rcases hr with ⟨qe, qr⟩ | ⟨qe, qr⟩
    · skip
      refine Gl.step (B := (T4.setTop (mkF m 60 #[.val (.ref a1), .val (.ref a2), .val (.int (s1 - s2)), .val (.ref b1), .val (.int ((0 : Int32) + (1 : Int32)))] [(.int (1 : Int32))]))) (fun t k => Jvm.RoadKit.acmp (g := (mkF m 52 #[.val (.ref a1), .val (.ref a2), .val (.int (s1 - s2)), .val (.ref b1), .val (.int ((0 : Int32) + (1 : Int32)))] [(.ref a2), (.ref b1)])) X4 hx rfl rfl rfl (pc0 := 52) (pc' := 55) (same := true) rfl (hb hby d24_52) rfl (decide_eq_true (congrArg Value.ref qe)) (by decide) (by decide) (XS.iconst X4.here hx rfl (hb hby d24_55) (XS.goto X4.here hx rfl (pc0 := 56) (pc' := 60) rfl (hb hby d24_56) (by decide) (by decide) k))) ?_
      obtain ⟨fs, hr, hrun, hended, hW, hsame⟩ := X4.leave (v := some (.int (1 : Int32))) (fun h => by rw [Bd.returns] at h; cases h)
      refine ⟨_, _, ?_, hrun, hended, _, _, rfl, ?_, ⟨_, rfl⟩, hW, hsame.mono (by decide) (by decide)⟩
      · show Steps p.tables e below (T4.setTop (mkF m 60 #[.val (.ref a1), .val (.ref a2), .val (.int (s1 - s2)), .val (.ref b1), .val (.int ((0 : Int32) + (1 : Int32)))] [(.int (1 : Int32))])) _
        exact retN X4 hx (t := .boolean) Bd.returns (by simp) (hb hby d24_60) hr
      · show Q_rim1R Z a1 a2 s1 s2 b1 r h0 n0 _ T4.heap _
        rw [e4]
        exact ⟨(by rw [qr]), N0, rfl⟩
    · skip
      refine Gl.step (B := (T4.setTop (mkF m 60 #[.val (.ref a1), .val (.ref a2), .val (.int (s1 - s2)), .val (.ref b1), .val (.int ((0 : Int32) + (1 : Int32)))] [(.int (0 : Int32))]))) (fun t k => Jvm.RoadKit.acmp (g := (mkF m 52 #[.val (.ref a1), .val (.ref a2), .val (.int (s1 - s2)), .val (.ref b1), .val (.int ((0 : Int32) + (1 : Int32)))] [(.ref a2), (.ref b1)])) X4 hx rfl rfl rfl (pc0 := 52) (pc' := 59) (same := false) rfl (hb hby d24_52) rfl (decide_eq_false fun q => qe (Value.ref.inj q)) (by decide) (by decide) (XS.iconst X4.here hx rfl (hb hby d24_59) k)) ?_
      obtain ⟨fs, hr, hrun, hended, hW, hsame⟩ := X4.leave (v := some (.int (0 : Int32))) (fun h => by rw [Bd.returns] at h; cases h)
      refine ⟨_, _, ?_, hrun, hended, _, _, rfl, ?_, ⟨_, rfl⟩, hW, hsame.mono (by decide) (by decide)⟩
      · show Steps p.tables e below (T4.setTop (mkF m 60 #[.val (.ref a1), .val (.ref a2), .val (.int (s1 - s2)), .val (.ref b1), .val (.int ((0 : Int32) + (1 : Int32)))] [(.int (0 : Int32))])) _
        exact retN X4 hx (t := .boolean) Bd.returns (by simp) (hb hby d24_60) hr
      · show Q_rim1R Z a1 a2 s1 s2 b1 r h0 n0 _ T4.heap _
        rw [e4]
        exact ⟨(by rw [qr]), N0, rfl⟩
  obtain ⟨s₂, o, g1, g2, g3, g4⟩ := go
  exact ⟨s₂, o, castTop (ef_rim1R m a1 a2) g1, g2, g3, g4⟩
theorem ef_rim2N (m : MethodId) (x0 : Addr) (x1 : Addr) : entryFrame m #[(.ref x0), (.ref x1)] 5 = mkF m 0 #[.val (.ref x0), .val (.ref x1), .unset, .unset, .unset] [] := by first | (simp [entryFrame, mkF, argsToLocals, Value.category]; done) | rfl
def Q_rim2N (Z : State) (a1 : Addr) (a2 : Addr) (s1 : Int32) (s2 : Int32) (h0 : Heap) (n0 : Nat) (v : Option Value) (h : Heap) (L : List Loc) : Prop := v = some (.int (0 : Int32)) ∧ Fr n0 L ∧ h = h0
set_option maxRecDepth 65536 in
set_option maxHeartbeats 40000000 in
theorem rim2N (l : Launch) (Z : State) (a0 : Array Value) (hw : ∀ d ∈ tables_1, d.before a0 Z = true) (ws : List Jvm.Cond) (a1 : Addr) (a2 : Addr) (s1 : Int32) (s2 : Int32) (h0 : Heap) (n0 : Nat) (O0 : Old Z n0 h0) (pm0 : Fld Z h0 a1 own_PM "size" "I" (.int s1)) (pm1 : Fld Z h0 a2 own_PM "size" "I" (.int s2)) (hd : s1 - s2 = (2 : Int32)) (he : ¬ (s2 < s1 - s2)) (pm4 : Fld Z h0 a1 own_PM "base" own_LP .null) :
    MetFree l y20 (head1 (Jvm.Cond.code y20 prog_164_method_6_code 5 (some .boolean) :: ws) ({ frames := 0, cells := 0, slots := 0, locals := 0 } : Room)) (fun a U => a = #[(.ref a1), (.ref a2)] ∧ Z.Warmed39 U.vm ∧ U.heap = h0) (fun _ _ _ _ _ => True) (fun _ U o U' => ∃ v L, o = .returned v ∧ Q_rim2N Z a1 a2 s1 s2 h0 n0 v U'.heap L ∧ FrameEnd U o U' L ({ frames := 0, cells := 0, slots := 0, locals := 0 } : Room).cells ({ frames := 0, cells := 0, slots := 0, locals := 0 } : Room).slots) := by
  refine MetFree.of_bodySF (plainFor_of_name pn_com_example_isogloss_isogloss_util_PersistentMap) hisR ?_
  intro p e s m args below meth c s₁ Bd hml0 hP hK
  obtain ⟨rfl, hZ, hh⟩ := hP
  have hx := Bd.exec
  have hby := Bd.bytes
  have hml : c.maxLocals = 5 := hml0
  have hown : s.vm.findClass own_PM = some m.cls := findClass_of_methodNamed Bd.named
  have hnm := (name_of_methodNamed Bd.named Bd.method).1
  have X0 : Stand p l e ({ frames := 0, cells := 0, slots := 0, locals := 0 } : Room) s m #[(.ref a1), (.ref a2)] below meth c s₁ [] 0 0 := Stand.of_body Bd
  have e0 : s₁.heap = h0 := by rw [← hh, Bd.state]; rfl
  have N0 := Fr.nil n0
  have K0 : Keep h0 h0 [] := Keep.refl h0 _
  have go : Gl p.tables e below (fun o U' => ∃ v L, o = .returned v ∧ Q_rim2N Z a1 a2 s1 s2 h0 n0 v U'.heap L ∧ FrameEnd s o U' L ({ frames := 0, cells := 0, slots := 0, locals := 0 } : Room).cells ({ frames := 0, cells := 0, slots := 0, locals := 0 } : Room).slots) (s₁.setTop (mkF m 0 #[.val (.ref a1), .val (.ref a2), .unset, .unset, .unset] [])) := by
    refine Gl.step (B := (s₁.setTop (mkF m 1 #[.val (.ref a1), .val (.ref a2), .unset, .unset, .unset] [(.ref a1)]))) (fun t k => XS.aloadN X0.here hx rfl (hb hby d24_0) rfl rfl k) ?_
    obtain ⟨T1, X1, e1, st1⟩ := getF X0 hx hZ hown (host := "") (Or.inl (t46 hw)) Via.refl e0 pm0 (g := (mkF m 1 #[.val (.ref a1), .val (.ref a2), .unset, .unset, .unset] [(.ref a1)])) rfl rfl (hb hby d24_1)
    refine Gl.step (B := (T1.setTop (mkF m 4 #[.val (.ref a1), .val (.ref a2), .unset, .unset, .unset] [(.int s1)]))) st1 ?_
    refine Gl.step (B := (T1.setTop (mkF m 5 #[.val (.ref a1), .val (.ref a2), .unset, .unset, .unset] [(.ref a2), (.int s1)]))) (fun t k => XS.aloadN X1.here hx rfl (hb hby d24_4) rfl rfl k) ?_
    obtain ⟨T2, X2, e2, st2⟩ := getF X1 hx hZ hown (host := "") (Or.inl (t46 hw)) Via.refl e1 pm1 (g := (mkF m 5 #[.val (.ref a1), .val (.ref a2), .unset, .unset, .unset] [(.ref a2), (.int s1)])) rfl rfl (hb hby d24_5)
    refine Gl.step (B := (T2.setTop (mkF m 8 #[.val (.ref a1), .val (.ref a2), .unset, .unset, .unset] [(.int s2), (.int s1)]))) st2 ?_
    refine Gl.step (B := (T2.setTop (mkF m 16 #[.val (.ref a1), .val (.ref a2), .val (.int (s1 - s2)), .unset, .unset] [(.ref a2), (.int (s1 - s2))]))) (fun t k => XS.isub X2.here hx rfl (hb hby d24_8) rfl (XS.istoreN X2.here hx rfl (hb hby d24_9) rfl (l' := #[.val (.ref a1), .val (.ref a2), .val (.int (s1 - s2)), .unset, .unset]) rfl (XS.iloadN X2.here hx rfl (hb hby d24_10) rfl (XS.ifNo X2.here hx rfl (hb hby d24_11) rfl ((if0 _ _).trans (flt (by rw [hd]; decide : ¬ ((s1 - s2) < (0 : Int32)))).1) (XS.iloadN X2.here hx rfl (hb hby d24_14) rfl (XS.aloadN X2.here hx rfl (hb hby d24_15) rfl rfl k)))))) ?_
    obtain ⟨T3, X3, e3, st3⟩ := getF X2 hx hZ hown (host := "") (Or.inl (t46 hw)) Via.refl e2 pm1 (g := (mkF m 16 #[.val (.ref a1), .val (.ref a2), .val (.int (s1 - s2)), .unset, .unset] [(.ref a2), (.int (s1 - s2))])) rfl rfl (hb hby d24_16)
    refine Gl.step (B := (T3.setTop (mkF m 19 #[.val (.ref a1), .val (.ref a2), .val (.int (s1 - s2)), .unset, .unset] [(.int s2), (.int (s1 - s2))]))) st3 ?_
    refine Gl.step (B := (T3.setTop (mkF m 31 #[.val (.ref a1), .val (.ref a2), .val (.int (s1 - s2)), .val (.ref a1), .val (.int (0 : Int32))] [(.int (0 : Int32))]))) (fun t k => XS.icmpYes X3.here hx rfl (pc0 := 19) (pc' := 24) rfl (hb hby d24_19) rfl (flt (he : ¬ (s2 < (s1 - s2)))).2.2.2 (by decide) (by decide) (XS.aloadN X3.here hx rfl (hb hby d24_24) rfl rfl (XS.astoreN X3.here hx rfl (hb hby d24_25) rfl rfl (l' := #[.val (.ref a1), .val (.ref a2), .val (.int (s1 - s2)), .val (.ref a1), .unset]) rfl (XS.iconst X3.here hx rfl (hb hby d24_26) (XS.istore X3.here hx rfl (hb hby d24_27) rfl (l' := #[.val (.ref a1), .val (.ref a2), .val (.int (s1 - s2)), .val (.ref a1), .val (.int (0 : Int32))]) rfl (XS.iload X3.here hx rfl (hb hby d24_29) rfl k)))))) ?_
    refine Gl.step (B := (T3.setTop (mkF m 40 #[.val (.ref a1), .val (.ref a2), .val (.int (s1 - s2)), .val (.ref a1), .val (.int (0 : Int32))] [(.ref a1)]))) (fun t k => XS.iloadN X3.here hx rfl (hb hby d24_31) rfl (XS.icmpNo X3.here hx rfl (hb hby d24_32) rfl (tlt (by rw [hd]; decide : (0 : Int32) < (s1 - s2))).2.1 (XS.aloadN X3.here hx rfl (hb hby d24_35) rfl rfl (XS.ifnullNo X3.here hx rfl (hb hby d24_36) rfl (XS.aloadN X3.here hx rfl (hb hby d24_39) rfl rfl k))))) ?_
    obtain ⟨T4, X4, e4, st4⟩ := getF X3 hx hZ hown (host := "") (Or.inl (t48 hw)) Via.refl e3 pm4 (g := (mkF m 40 #[.val (.ref a1), .val (.ref a2), .val (.int (s1 - s2)), .val (.ref a1), .val (.int (0 : Int32))] [(.ref a1)])) rfl rfl (hb hby d24_40)
    refine Gl.step (B := (T4.setTop (mkF m 43 #[.val (.ref a1), .val (.ref a2), .val (.int (s1 - s2)), .val (.ref a1), .val (.int (0 : Int32))] [.null]))) st4 ?_
    refine Gl.step (B := (T4.setTop (mkF m 35 #[.val (.ref a1), .val (.ref a2), .val (.int (s1 - s2)), .val .null, .val (.int ((0 : Int32) + (1 : Int32)))] []))) (fun t k => XS.astoreN X4.here hx rfl (hb hby d24_43) rfl rfl (l' := #[.val (.ref a1), .val (.ref a2), .val (.int (s1 - s2)), .val .null, .val (.int (0 : Int32))]) rfl (XS.iinc X4.here hx rfl (hb hby d24_44) rfl (l' := #[.val (.ref a1), .val (.ref a2), .val (.int (s1 - s2)), .val .null, .val (.int ((0 : Int32) + (1 : Int32)))]) rfl (XS.goto X4.here hx rfl (pc0 := 47) (pc' := 29) rfl (hb hby d24_47) (by decide) (by decide) (XS.iload X4.here hx rfl (hb hby d24_29) rfl (XS.iloadN X4.here hx rfl (hb hby d24_31) rfl (XS.icmpNo X4.here hx rfl (hb hby d24_32) rfl (tlt (by rw [hd]; decide : ((0 : Int32) + (1 : Int32)) < (s1 - s2))).2.1 k)))))) ?_
    refine Gl.step (B := (T4.setTop (mkF m 60 #[.val (.ref a1), .val (.ref a2), .val (.int (s1 - s2)), .val .null, .val (.int ((0 : Int32) + (1 : Int32)))] [(.int (0 : Int32))]))) (fun t k => XS.aloadN X4.here hx rfl (hb hby d24_35) rfl rfl (XS.ifnullYes X4.here hx rfl (pc0 := 36) (pc' := 50) rfl (hb hby d24_36) rfl (by decide) (by decide) (XS.aloadN X4.here hx rfl (hb hby d24_50) rfl rfl (XS.aloadN X4.here hx rfl (hb hby d24_51) rfl rfl (Jvm.RoadKit.acmp (g := (mkF m 52 #[.val (.ref a1), .val (.ref a2), .val (.int (s1 - s2)), .val .null, .val (.int ((0 : Int32) + (1 : Int32)))] [(.ref a2), .null])) X4 hx rfl rfl rfl (pc0 := 52) (pc' := 59) (same := false) rfl (hb hby d24_52) rfl (decide_eq_false nofun) (by decide) (by decide) (XS.iconst X4.here hx rfl (hb hby d24_59) k)))))) ?_
    obtain ⟨fs, hr, hrun, hended, hW, hsame⟩ := X4.leave (v := some (.int (0 : Int32))) (fun h => by rw [Bd.returns] at h; cases h)
    refine ⟨_, _, ?_, hrun, hended, _, _, rfl, ?_, ⟨_, rfl⟩, hW, hsame.mono (by decide) (by decide)⟩
    · show Steps p.tables e below (T4.setTop (mkF m 60 #[.val (.ref a1), .val (.ref a2), .val (.int (s1 - s2)), .val .null, .val (.int ((0 : Int32) + (1 : Int32)))] [(.int (0 : Int32))])) _
      exact retN X4 hx (t := .boolean) Bd.returns (by simp) (hb hby d24_60) hr
    · show Q_rim2N Z a1 a2 s1 s2 h0 n0 _ T4.heap _
      rw [e4]
      exact ⟨rfl, N0, rfl⟩
  obtain ⟨s₂, o, g1, g2, g3, g4⟩ := go
  exact ⟨s₂, o, castTop (ef_rim2N m a1 a2) g1, g2, g3, g4⟩
theorem ef_rim2RN (m : MethodId) (x0 : Addr) (x1 : Addr) : entryFrame m #[(.ref x0), (.ref x1)] 5 = mkF m 0 #[.val (.ref x0), .val (.ref x1), .unset, .unset, .unset] [] := by first | (simp [entryFrame, mkF, argsToLocals, Value.category]; done) | rfl
def Q_rim2RN (Z : State) (a1 : Addr) (a2 : Addr) (s1 : Int32) (s2 : Int32) (b1 : Addr) (h0 : Heap) (n0 : Nat) (v : Option Value) (h : Heap) (L : List Loc) : Prop := v = some (.int (0 : Int32)) ∧ Fr n0 L ∧ h = h0
set_option maxRecDepth 65536 in
set_option maxHeartbeats 40000000 in
theorem rim2RN (l : Launch) (Z : State) (a0 : Array Value) (hw : ∀ d ∈ tables_1, d.before a0 Z = true) (ws : List Jvm.Cond) (a1 : Addr) (a2 : Addr) (s1 : Int32) (s2 : Int32) (b1 : Addr) (h0 : Heap) (n0 : Nat) (O0 : Old Z n0 h0) (pm0 : Fld Z h0 a1 own_PM "size" "I" (.int s1)) (pm1 : Fld Z h0 a2 own_PM "size" "I" (.int s2)) (hd : s1 - s2 = (2 : Int32)) (he : ¬ (s2 < s1 - s2)) (pm4 : Fld Z h0 a1 own_PM "base" own_LP (.ref b1)) (pm5 : Fld Z h0 b1 own_PM "base" own_LP .null) :
    MetFree l y20 (head1 (Jvm.Cond.code y20 prog_164_method_6_code 5 (some .boolean) :: ws) ({ frames := 0, cells := 0, slots := 0, locals := 0 } : Room)) (fun a U => a = #[(.ref a1), (.ref a2)] ∧ Z.Warmed39 U.vm ∧ U.heap = h0) (fun _ _ _ _ _ => True) (fun _ U o U' => ∃ v L, o = .returned v ∧ Q_rim2RN Z a1 a2 s1 s2 b1 h0 n0 v U'.heap L ∧ FrameEnd U o U' L ({ frames := 0, cells := 0, slots := 0, locals := 0 } : Room).cells ({ frames := 0, cells := 0, slots := 0, locals := 0 } : Room).slots) := by
  refine MetFree.of_bodySF (plainFor_of_name pn_com_example_isogloss_isogloss_util_PersistentMap) hisR ?_
  intro p e s m args below meth c s₁ Bd hml0 hP hK
  obtain ⟨rfl, hZ, hh⟩ := hP
  have hx := Bd.exec
  have hby := Bd.bytes
  have hml : c.maxLocals = 5 := hml0
  have hown : s.vm.findClass own_PM = some m.cls := findClass_of_methodNamed Bd.named
  have hnm := (name_of_methodNamed Bd.named Bd.method).1
  have X0 : Stand p l e ({ frames := 0, cells := 0, slots := 0, locals := 0 } : Room) s m #[(.ref a1), (.ref a2)] below meth c s₁ [] 0 0 := Stand.of_body Bd
  have e0 : s₁.heap = h0 := by rw [← hh, Bd.state]; rfl
  have N0 := Fr.nil n0
  have K0 : Keep h0 h0 [] := Keep.refl h0 _
  have go : Gl p.tables e below (fun o U' => ∃ v L, o = .returned v ∧ Q_rim2RN Z a1 a2 s1 s2 b1 h0 n0 v U'.heap L ∧ FrameEnd s o U' L ({ frames := 0, cells := 0, slots := 0, locals := 0 } : Room).cells ({ frames := 0, cells := 0, slots := 0, locals := 0 } : Room).slots) (s₁.setTop (mkF m 0 #[.val (.ref a1), .val (.ref a2), .unset, .unset, .unset] [])) := by
    refine Gl.step (B := (s₁.setTop (mkF m 1 #[.val (.ref a1), .val (.ref a2), .unset, .unset, .unset] [(.ref a1)]))) (fun t k => XS.aloadN X0.here hx rfl (hb hby d24_0) rfl rfl k) ?_
    obtain ⟨T1, X1, e1, st1⟩ := getF X0 hx hZ hown (host := "") (Or.inl (t46 hw)) Via.refl e0 pm0 (g := (mkF m 1 #[.val (.ref a1), .val (.ref a2), .unset, .unset, .unset] [(.ref a1)])) rfl rfl (hb hby d24_1)
    refine Gl.step (B := (T1.setTop (mkF m 4 #[.val (.ref a1), .val (.ref a2), .unset, .unset, .unset] [(.int s1)]))) st1 ?_
    refine Gl.step (B := (T1.setTop (mkF m 5 #[.val (.ref a1), .val (.ref a2), .unset, .unset, .unset] [(.ref a2), (.int s1)]))) (fun t k => XS.aloadN X1.here hx rfl (hb hby d24_4) rfl rfl k) ?_
    obtain ⟨T2, X2, e2, st2⟩ := getF X1 hx hZ hown (host := "") (Or.inl (t46 hw)) Via.refl e1 pm1 (g := (mkF m 5 #[.val (.ref a1), .val (.ref a2), .unset, .unset, .unset] [(.ref a2), (.int s1)])) rfl rfl (hb hby d24_5)
    refine Gl.step (B := (T2.setTop (mkF m 8 #[.val (.ref a1), .val (.ref a2), .unset, .unset, .unset] [(.int s2), (.int s1)]))) st2 ?_
    refine Gl.step (B := (T2.setTop (mkF m 16 #[.val (.ref a1), .val (.ref a2), .val (.int (s1 - s2)), .unset, .unset] [(.ref a2), (.int (s1 - s2))]))) (fun t k => XS.isub X2.here hx rfl (hb hby d24_8) rfl (XS.istoreN X2.here hx rfl (hb hby d24_9) rfl (l' := #[.val (.ref a1), .val (.ref a2), .val (.int (s1 - s2)), .unset, .unset]) rfl (XS.iloadN X2.here hx rfl (hb hby d24_10) rfl (XS.ifNo X2.here hx rfl (hb hby d24_11) rfl ((if0 _ _).trans (flt (by rw [hd]; decide : ¬ ((s1 - s2) < (0 : Int32)))).1) (XS.iloadN X2.here hx rfl (hb hby d24_14) rfl (XS.aloadN X2.here hx rfl (hb hby d24_15) rfl rfl k)))))) ?_
    obtain ⟨T3, X3, e3, st3⟩ := getF X2 hx hZ hown (host := "") (Or.inl (t46 hw)) Via.refl e2 pm1 (g := (mkF m 16 #[.val (.ref a1), .val (.ref a2), .val (.int (s1 - s2)), .unset, .unset] [(.ref a2), (.int (s1 - s2))])) rfl rfl (hb hby d24_16)
    refine Gl.step (B := (T3.setTop (mkF m 19 #[.val (.ref a1), .val (.ref a2), .val (.int (s1 - s2)), .unset, .unset] [(.int s2), (.int (s1 - s2))]))) st3 ?_
    refine Gl.step (B := (T3.setTop (mkF m 31 #[.val (.ref a1), .val (.ref a2), .val (.int (s1 - s2)), .val (.ref a1), .val (.int (0 : Int32))] [(.int (0 : Int32))]))) (fun t k => XS.icmpYes X3.here hx rfl (pc0 := 19) (pc' := 24) rfl (hb hby d24_19) rfl (flt (he : ¬ (s2 < (s1 - s2)))).2.2.2 (by decide) (by decide) (XS.aloadN X3.here hx rfl (hb hby d24_24) rfl rfl (XS.astoreN X3.here hx rfl (hb hby d24_25) rfl rfl (l' := #[.val (.ref a1), .val (.ref a2), .val (.int (s1 - s2)), .val (.ref a1), .unset]) rfl (XS.iconst X3.here hx rfl (hb hby d24_26) (XS.istore X3.here hx rfl (hb hby d24_27) rfl (l' := #[.val (.ref a1), .val (.ref a2), .val (.int (s1 - s2)), .val (.ref a1), .val (.int (0 : Int32))]) rfl (XS.iload X3.here hx rfl (hb hby d24_29) rfl k)))))) ?_
    refine Gl.step (B := (T3.setTop (mkF m 40 #[.val (.ref a1), .val (.ref a2), .val (.int (s1 - s2)), .val (.ref a1), .val (.int (0 : Int32))] [(.ref a1)]))) (fun t k => XS.iloadN X3.here hx rfl (hb hby d24_31) rfl (XS.icmpNo X3.here hx rfl (hb hby d24_32) rfl (tlt (by rw [hd]; decide : (0 : Int32) < (s1 - s2))).2.1 (XS.aloadN X3.here hx rfl (hb hby d24_35) rfl rfl (XS.ifnullNo X3.here hx rfl (hb hby d24_36) rfl (XS.aloadN X3.here hx rfl (hb hby d24_39) rfl rfl k))))) ?_
    obtain ⟨T4, X4, e4, st4⟩ := getF X3 hx hZ hown (host := "") (Or.inl (t48 hw)) Via.refl e3 pm4 (g := (mkF m 40 #[.val (.ref a1), .val (.ref a2), .val (.int (s1 - s2)), .val (.ref a1), .val (.int (0 : Int32))] [(.ref a1)])) rfl rfl (hb hby d24_40)
    refine Gl.step (B := (T4.setTop (mkF m 43 #[.val (.ref a1), .val (.ref a2), .val (.int (s1 - s2)), .val (.ref a1), .val (.int (0 : Int32))] [(.ref b1)]))) st4 ?_
    refine Gl.step (B := (T4.setTop (mkF m 35 #[.val (.ref a1), .val (.ref a2), .val (.int (s1 - s2)), .val (.ref b1), .val (.int ((0 : Int32) + (1 : Int32)))] []))) (fun t k => XS.astoreN X4.here hx rfl (hb hby d24_43) rfl rfl (l' := #[.val (.ref a1), .val (.ref a2), .val (.int (s1 - s2)), .val (.ref b1), .val (.int (0 : Int32))]) rfl (XS.iinc X4.here hx rfl (hb hby d24_44) rfl (l' := #[.val (.ref a1), .val (.ref a2), .val (.int (s1 - s2)), .val (.ref b1), .val (.int ((0 : Int32) + (1 : Int32)))]) rfl (XS.goto X4.here hx rfl (pc0 := 47) (pc' := 29) rfl (hb hby d24_47) (by decide) (by decide) (XS.iload X4.here hx rfl (hb hby d24_29) rfl (XS.iloadN X4.here hx rfl (hb hby d24_31) rfl (XS.icmpNo X4.here hx rfl (hb hby d24_32) rfl (tlt (by rw [hd]; decide : ((0 : Int32) + (1 : Int32)) < (s1 - s2))).2.1 k)))))) ?_
    refine Gl.step (B := (T4.setTop (mkF m 40 #[.val (.ref a1), .val (.ref a2), .val (.int (s1 - s2)), .val (.ref b1), .val (.int ((0 : Int32) + (1 : Int32)))] [(.ref b1)]))) (fun t k => XS.aloadN X4.here hx rfl (hb hby d24_35) rfl rfl (XS.ifnullNo X4.here hx rfl (hb hby d24_36) rfl (XS.aloadN X4.here hx rfl (hb hby d24_39) rfl rfl k))) ?_
    obtain ⟨T5, X5, e5, st5⟩ := getF X4 hx hZ hown (host := "") (Or.inl (t48 hw)) Via.refl e4 pm5 (g := (mkF m 40 #[.val (.ref a1), .val (.ref a2), .val (.int (s1 - s2)), .val (.ref b1), .val (.int ((0 : Int32) + (1 : Int32)))] [(.ref b1)])) rfl rfl (hb hby d24_40)
    refine Gl.step (B := (T5.setTop (mkF m 43 #[.val (.ref a1), .val (.ref a2), .val (.int (s1 - s2)), .val (.ref b1), .val (.int ((0 : Int32) + (1 : Int32)))] [.null]))) st5 ?_
    refine Gl.step (B := (T5.setTop (mkF m 50 #[.val (.ref a1), .val (.ref a2), .val (.int (s1 - s2)), .val .null, .val (.int (((0 : Int32) + (1 : Int32)) + (1 : Int32)))] []))) (fun t k => XS.astoreN X5.here hx rfl (hb hby d24_43) rfl rfl (l' := #[.val (.ref a1), .val (.ref a2), .val (.int (s1 - s2)), .val .null, .val (.int ((0 : Int32) + (1 : Int32)))]) rfl (XS.iinc X5.here hx rfl (hb hby d24_44) rfl (l' := #[.val (.ref a1), .val (.ref a2), .val (.int (s1 - s2)), .val .null, .val (.int (((0 : Int32) + (1 : Int32)) + (1 : Int32)))]) rfl (XS.goto X5.here hx rfl (pc0 := 47) (pc' := 29) rfl (hb hby d24_47) (by decide) (by decide) (XS.iload X5.here hx rfl (hb hby d24_29) rfl (XS.iloadN X5.here hx rfl (hb hby d24_31) rfl (XS.icmpYes X5.here hx rfl (pc0 := 32) (pc' := 50) rfl (hb hby d24_32) rfl (flt (by rw [hd]; decide : ¬ ((((0 : Int32) + (1 : Int32)) + (1 : Int32)) < (s1 - s2)))).2.1 (by decide) (by decide) k)))))) ?_
    refine Gl.step (B := (T5.setTop (mkF m 60 #[.val (.ref a1), .val (.ref a2), .val (.int (s1 - s2)), .val .null, .val (.int (((0 : Int32) + (1 : Int32)) + (1 : Int32)))] [(.int (0 : Int32))]))) (fun t k => XS.aloadN X5.here hx rfl (hb hby d24_50) rfl rfl (XS.aloadN X5.here hx rfl (hb hby d24_51) rfl rfl (Jvm.RoadKit.acmp (g := (mkF m 52 #[.val (.ref a1), .val (.ref a2), .val (.int (s1 - s2)), .val .null, .val (.int (((0 : Int32) + (1 : Int32)) + (1 : Int32)))] [(.ref a2), .null])) X5 hx rfl rfl rfl (pc0 := 52) (pc' := 59) (same := false) rfl (hb hby d24_52) rfl (decide_eq_false nofun) (by decide) (by decide) (XS.iconst X5.here hx rfl (hb hby d24_59) k)))) ?_
    obtain ⟨fs, hr, hrun, hended, hW, hsame⟩ := X5.leave (v := some (.int (0 : Int32))) (fun h => by rw [Bd.returns] at h; cases h)
    refine ⟨_, _, ?_, hrun, hended, _, _, rfl, ?_, ⟨_, rfl⟩, hW, hsame.mono (by decide) (by decide)⟩
    · show Steps p.tables e below (T5.setTop (mkF m 60 #[.val (.ref a1), .val (.ref a2), .val (.int (s1 - s2)), .val .null, .val (.int (((0 : Int32) + (1 : Int32)) + (1 : Int32)))] [(.int (0 : Int32))])) _
      exact retN X5 hx (t := .boolean) Bd.returns (by simp) (hb hby d24_60) hr
    · show Q_rim2RN Z a1 a2 s1 s2 b1 h0 n0 _ T5.heap _
      rw [e5]
      exact ⟨rfl, N0, rfl⟩
  obtain ⟨s₂, o, g1, g2, g3, g4⟩ := go
  exact ⟨s₂, o, castTop (ef_rim2RN m a1 a2) g1, g2, g3, g4⟩
theorem ef_rim2RR (m : MethodId) (x0 : Addr) (x1 : Addr) : entryFrame m #[(.ref x0), (.ref x1)] 5 = mkF m 0 #[.val (.ref x0), .val (.ref x1), .unset, .unset, .unset] [] := by first | (simp [entryFrame, mkF, argsToLocals, Value.category]; done) | rfl
def Q_rim2RR (Z : State) (a1 : Addr) (a2 : Addr) (s1 : Int32) (s2 : Int32) (b1 : Addr) (b2 : Addr) (r : Int32) (h0 : Heap) (n0 : Nat) (v : Option Value) (h : Heap) (L : List Loc) : Prop := v = some (.int r) ∧ Fr n0 L ∧ h = h0
set_option maxRecDepth 65536 in
set_option maxHeartbeats 40000000 in
theorem rim2RR (l : Launch) (Z : State) (a0 : Array Value) (hw : ∀ d ∈ tables_1, d.before a0 Z = true) (ws : List Jvm.Cond) (a1 : Addr) (a2 : Addr) (s1 : Int32) (s2 : Int32) (b1 : Addr) (b2 : Addr) (r : Int32) (h0 : Heap) (n0 : Nat) (O0 : Old Z n0 h0) (pm0 : Fld Z h0 a1 own_PM "size" "I" (.int s1)) (pm1 : Fld Z h0 a2 own_PM "size" "I" (.int s2)) (hd : s1 - s2 = (2 : Int32)) (he : ¬ (s2 < s1 - s2)) (pm4 : Fld Z h0 a1 own_PM "base" own_LP (.ref b1)) (pm5 : Fld Z h0 b1 own_PM "base" own_LP (.ref b2)) (hr : (b2 = a2 ∧ r = 1) ∨ (¬ (b2 = a2) ∧ r = 0)) :
    MetFree l y20 (head1 (Jvm.Cond.code y20 prog_164_method_6_code 5 (some .boolean) :: ws) ({ frames := 0, cells := 0, slots := 0, locals := 0 } : Room)) (fun a U => a = #[(.ref a1), (.ref a2)] ∧ Z.Warmed39 U.vm ∧ U.heap = h0) (fun _ _ _ _ _ => True) (fun _ U o U' => ∃ v L, o = .returned v ∧ Q_rim2RR Z a1 a2 s1 s2 b1 b2 r h0 n0 v U'.heap L ∧ FrameEnd U o U' L ({ frames := 0, cells := 0, slots := 0, locals := 0 } : Room).cells ({ frames := 0, cells := 0, slots := 0, locals := 0 } : Room).slots) := by
  refine MetFree.of_bodySF (plainFor_of_name pn_com_example_isogloss_isogloss_util_PersistentMap) hisR ?_
  intro p e s m args below meth c s₁ Bd hml0 hP hK
  obtain ⟨rfl, hZ, hh⟩ := hP
  have hx := Bd.exec
  have hby := Bd.bytes
  have hml : c.maxLocals = 5 := hml0
  have hown : s.vm.findClass own_PM = some m.cls := findClass_of_methodNamed Bd.named
  have hnm := (name_of_methodNamed Bd.named Bd.method).1
  have X0 : Stand p l e ({ frames := 0, cells := 0, slots := 0, locals := 0 } : Room) s m #[(.ref a1), (.ref a2)] below meth c s₁ [] 0 0 := Stand.of_body Bd
  have e0 : s₁.heap = h0 := by rw [← hh, Bd.state]; rfl
  have N0 := Fr.nil n0
  have K0 : Keep h0 h0 [] := Keep.refl h0 _
  have go : Gl p.tables e below (fun o U' => ∃ v L, o = .returned v ∧ Q_rim2RR Z a1 a2 s1 s2 b1 b2 r h0 n0 v U'.heap L ∧ FrameEnd s o U' L ({ frames := 0, cells := 0, slots := 0, locals := 0 } : Room).cells ({ frames := 0, cells := 0, slots := 0, locals := 0 } : Room).slots) (s₁.setTop (mkF m 0 #[.val (.ref a1), .val (.ref a2), .unset, .unset, .unset] [])) := by
    refine Gl.step (B := (s₁.setTop (mkF m 1 #[.val (.ref a1), .val (.ref a2), .unset, .unset, .unset] [(.ref a1)]))) (fun t k => XS.aloadN X0.here hx rfl (hb hby d24_0) rfl rfl k) ?_
    obtain ⟨T1, X1, e1, st1⟩ := getF X0 hx hZ hown (host := "") (Or.inl (t46 hw)) Via.refl e0 pm0 (g := (mkF m 1 #[.val (.ref a1), .val (.ref a2), .unset, .unset, .unset] [(.ref a1)])) rfl rfl (hb hby d24_1)
    refine Gl.step (B := (T1.setTop (mkF m 4 #[.val (.ref a1), .val (.ref a2), .unset, .unset, .unset] [(.int s1)]))) st1 ?_
    refine Gl.step (B := (T1.setTop (mkF m 5 #[.val (.ref a1), .val (.ref a2), .unset, .unset, .unset] [(.ref a2), (.int s1)]))) (fun t k => XS.aloadN X1.here hx rfl (hb hby d24_4) rfl rfl k) ?_
    obtain ⟨T2, X2, e2, st2⟩ := getF X1 hx hZ hown (host := "") (Or.inl (t46 hw)) Via.refl e1 pm1 (g := (mkF m 5 #[.val (.ref a1), .val (.ref a2), .unset, .unset, .unset] [(.ref a2), (.int s1)])) rfl rfl (hb hby d24_5)
    refine Gl.step (B := (T2.setTop (mkF m 8 #[.val (.ref a1), .val (.ref a2), .unset, .unset, .unset] [(.int s2), (.int s1)]))) st2 ?_
    refine Gl.step (B := (T2.setTop (mkF m 16 #[.val (.ref a1), .val (.ref a2), .val (.int (s1 - s2)), .unset, .unset] [(.ref a2), (.int (s1 - s2))]))) (fun t k => XS.isub X2.here hx rfl (hb hby d24_8) rfl (XS.istoreN X2.here hx rfl (hb hby d24_9) rfl (l' := #[.val (.ref a1), .val (.ref a2), .val (.int (s1 - s2)), .unset, .unset]) rfl (XS.iloadN X2.here hx rfl (hb hby d24_10) rfl (XS.ifNo X2.here hx rfl (hb hby d24_11) rfl ((if0 _ _).trans (flt (by rw [hd]; decide : ¬ ((s1 - s2) < (0 : Int32)))).1) (XS.iloadN X2.here hx rfl (hb hby d24_14) rfl (XS.aloadN X2.here hx rfl (hb hby d24_15) rfl rfl k)))))) ?_
    obtain ⟨T3, X3, e3, st3⟩ := getF X2 hx hZ hown (host := "") (Or.inl (t46 hw)) Via.refl e2 pm1 (g := (mkF m 16 #[.val (.ref a1), .val (.ref a2), .val (.int (s1 - s2)), .unset, .unset] [(.ref a2), (.int (s1 - s2))])) rfl rfl (hb hby d24_16)
    refine Gl.step (B := (T3.setTop (mkF m 19 #[.val (.ref a1), .val (.ref a2), .val (.int (s1 - s2)), .unset, .unset] [(.int s2), (.int (s1 - s2))]))) st3 ?_
    refine Gl.step (B := (T3.setTop (mkF m 31 #[.val (.ref a1), .val (.ref a2), .val (.int (s1 - s2)), .val (.ref a1), .val (.int (0 : Int32))] [(.int (0 : Int32))]))) (fun t k => XS.icmpYes X3.here hx rfl (pc0 := 19) (pc' := 24) rfl (hb hby d24_19) rfl (flt (he : ¬ (s2 < (s1 - s2)))).2.2.2 (by decide) (by decide) (XS.aloadN X3.here hx rfl (hb hby d24_24) rfl rfl (XS.astoreN X3.here hx rfl (hb hby d24_25) rfl rfl (l' := #[.val (.ref a1), .val (.ref a2), .val (.int (s1 - s2)), .val (.ref a1), .unset]) rfl (XS.iconst X3.here hx rfl (hb hby d24_26) (XS.istore X3.here hx rfl (hb hby d24_27) rfl (l' := #[.val (.ref a1), .val (.ref a2), .val (.int (s1 - s2)), .val (.ref a1), .val (.int (0 : Int32))]) rfl (XS.iload X3.here hx rfl (hb hby d24_29) rfl k)))))) ?_
    refine Gl.step (B := (T3.setTop (mkF m 40 #[.val (.ref a1), .val (.ref a2), .val (.int (s1 - s2)), .val (.ref a1), .val (.int (0 : Int32))] [(.ref a1)]))) (fun t k => XS.iloadN X3.here hx rfl (hb hby d24_31) rfl (XS.icmpNo X3.here hx rfl (hb hby d24_32) rfl (tlt (by rw [hd]; decide : (0 : Int32) < (s1 - s2))).2.1 (XS.aloadN X3.here hx rfl (hb hby d24_35) rfl rfl (XS.ifnullNo X3.here hx rfl (hb hby d24_36) rfl (XS.aloadN X3.here hx rfl (hb hby d24_39) rfl rfl k))))) ?_
    obtain ⟨T4, X4, e4, st4⟩ := getF X3 hx hZ hown (host := "") (Or.inl (t48 hw)) Via.refl e3 pm4 (g := (mkF m 40 #[.val (.ref a1), .val (.ref a2), .val (.int (s1 - s2)), .val (.ref a1), .val (.int (0 : Int32))] [(.ref a1)])) rfl rfl (hb hby d24_40)
    refine Gl.step (B := (T4.setTop (mkF m 43 #[.val (.ref a1), .val (.ref a2), .val (.int (s1 - s2)), .val (.ref a1), .val (.int (0 : Int32))] [(.ref b1)]))) st4 ?_
    refine Gl.step (B := (T4.setTop (mkF m 35 #[.val (.ref a1), .val (.ref a2), .val (.int (s1 - s2)), .val (.ref b1), .val (.int ((0 : Int32) + (1 : Int32)))] []))) (fun t k => XS.astoreN X4.here hx rfl (hb hby d24_43) rfl rfl (l' := #[.val (.ref a1), .val (.ref a2), .val (.int (s1 - s2)), .val (.ref b1), .val (.int (0 : Int32))]) rfl (XS.iinc X4.here hx rfl (hb hby d24_44) rfl (l' := #[.val (.ref a1), .val (.ref a2), .val (.int (s1 - s2)), .val (.ref b1), .val (.int ((0 : Int32) + (1 : Int32)))]) rfl (XS.goto X4.here hx rfl (pc0 := 47) (pc' := 29) rfl (hb hby d24_47) (by decide) (by decide) (XS.iload X4.here hx rfl (hb hby d24_29) rfl (XS.iloadN X4.here hx rfl (hb hby d24_31) rfl (XS.icmpNo X4.here hx rfl (hb hby d24_32) rfl (tlt (by rw [hd]; decide : ((0 : Int32) + (1 : Int32)) < (s1 - s2))).2.1 k)))))) ?_
    refine Gl.step (B := (T4.setTop (mkF m 40 #[.val (.ref a1), .val (.ref a2), .val (.int (s1 - s2)), .val (.ref b1), .val (.int ((0 : Int32) + (1 : Int32)))] [(.ref b1)]))) (fun t k => XS.aloadN X4.here hx rfl (hb hby d24_35) rfl rfl (XS.ifnullNo X4.here hx rfl (hb hby d24_36) rfl (XS.aloadN X4.here hx rfl (hb hby d24_39) rfl rfl k))) ?_
    obtain ⟨T5, X5, e5, st5⟩ := getF X4 hx hZ hown (host := "") (Or.inl (t48 hw)) Via.refl e4 pm5 (g := (mkF m 40 #[.val (.ref a1), .val (.ref a2), .val (.int (s1 - s2)), .val (.ref b1), .val (.int ((0 : Int32) + (1 : Int32)))] [(.ref b1)])) rfl rfl (hb hby d24_40)
    refine Gl.step (B := (T5.setTop (mkF m 43 #[.val (.ref a1), .val (.ref a2), .val (.int (s1 - s2)), .val (.ref b1), .val (.int ((0 : Int32) + (1 : Int32)))] [(.ref b2)]))) st5 ?_
    refine Gl.step (B := (T5.setTop (mkF m 50 #[.val (.ref a1), .val (.ref a2), .val (.int (s1 - s2)), .val (.ref b2), .val (.int (((0 : Int32) + (1 : Int32)) + (1 : Int32)))] []))) (fun t k => XS.astoreN X5.here hx rfl (hb hby d24_43) rfl rfl (l' := #[.val (.ref a1), .val (.ref a2), .val (.int (s1 - s2)), .val (.ref b2), .val (.int ((0 : Int32) + (1 : Int32)))]) rfl (XS.iinc X5.here hx rfl (hb hby d24_44) rfl (l' := #[.val (.ref a1), .val (.ref a2), .val (.int (s1 - s2)), .val (.ref b2), .val (.int (((0 : Int32) + (1 : Int32)) + (1 : Int32)))]) rfl (XS.goto X5.here hx rfl (pc0 := 47) (pc' := 29) rfl (hb hby d24_47) (by decide) (by decide) (XS.iload X5.here hx rfl (hb hby d24_29) rfl (XS.iloadN X5.here hx rfl (hb hby d24_31) rfl (XS.icmpYes X5.here hx rfl (pc0 := 32) (pc' := 50) rfl (hb hby d24_32) rfl (flt (by rw [hd]; decide : ¬ ((((0 : Int32) + (1 : Int32)) + (1 : Int32)) < (s1 - s2)))).2.1 (by decide) (by decide) k)))))) ?_
    refine Gl.step (B := (T5.setTop (mkF m 52 #[.val (.ref a1), .val (.ref a2), .val (.int (s1 - s2)), .val (.ref b2), .val (.int (((0 : Int32) + (1 : Int32)) + (1 : Int32)))] [(.ref a2), (.ref b2)]))) (fun t k => XS.aloadN X5.here hx rfl (hb hby d24_50) rfl rfl (XS.aloadN X5.here hx rfl (hb hby d24_51) rfl rfl k)) ?_
    rcases hr with ⟨qe, qr⟩ | ⟨qe, qr⟩
    · skip
      refine Gl.step (B := (T5.setTop (mkF m 60 #[.val (.ref a1), .val (.ref a2), .val (.int (s1 - s2)), .val (.ref b2), .val (.int (((0 : Int32) + (1 : Int32)) + (1 : Int32)))] [(.int (1 : Int32))]))) (fun t k => Jvm.RoadKit.acmp (g := (mkF m 52 #[.val (.ref a1), .val (.ref a2), .val (.int (s1 - s2)), .val (.ref b2), .val (.int (((0 : Int32) + (1 : Int32)) + (1 : Int32)))] [(.ref a2), (.ref b2)])) X5 hx rfl rfl rfl (pc0 := 52) (pc' := 55) (same := true) rfl (hb hby d24_52) rfl (decide_eq_true (congrArg Value.ref qe)) (by decide) (by decide) (XS.iconst X5.here hx rfl (hb hby d24_55) (XS.goto X5.here hx rfl (pc0 := 56) (pc' := 60) rfl (hb hby d24_56) (by decide) (by decide) k))) ?_
      obtain ⟨fs, hr, hrun, hended, hW, hsame⟩ := X5.leave (v := some (.int (1 : Int32))) (fun h => by rw [Bd.returns] at h; cases h)
      refine ⟨_, _, ?_, hrun, hended, _, _, rfl, ?_, ⟨_, rfl⟩, hW, hsame.mono (by decide) (by decide)⟩
      · show Steps p.tables e below (T5.setTop (mkF m 60 #[.val (.ref a1), .val (.ref a2), .val (.int (s1 - s2)), .val (.ref b2), .val (.int (((0 : Int32) + (1 : Int32)) + (1 : Int32)))] [(.int (1 : Int32))])) _
        exact retN X5 hx (t := .boolean) Bd.returns (by simp) (hb hby d24_60) hr
      · show Q_rim2RR Z a1 a2 s1 s2 b1 b2 r h0 n0 _ T5.heap _
        rw [e5]
        exact ⟨(by rw [qr]), N0, rfl⟩
    · skip
      refine Gl.step (B := (T5.setTop (mkF m 60 #[.val (.ref a1), .val (.ref a2), .val (.int (s1 - s2)), .val (.ref b2), .val (.int (((0 : Int32) + (1 : Int32)) + (1 : Int32)))] [(.int (0 : Int32))]))) (fun t k => Jvm.RoadKit.acmp (g := (mkF m 52 #[.val (.ref a1), .val (.ref a2), .val (.int (s1 - s2)), .val (.ref b2), .val (.int (((0 : Int32) + (1 : Int32)) + (1 : Int32)))] [(.ref a2), (.ref b2)])) X5 hx rfl rfl rfl (pc0 := 52) (pc' := 59) (same := false) rfl (hb hby d24_52) rfl (decide_eq_false fun q => qe (Value.ref.inj q)) (by decide) (by decide) (XS.iconst X5.here hx rfl (hb hby d24_59) k)) ?_
      obtain ⟨fs, hr, hrun, hended, hW, hsame⟩ := X5.leave (v := some (.int (0 : Int32))) (fun h => by rw [Bd.returns] at h; cases h)
      refine ⟨_, _, ?_, hrun, hended, _, _, rfl, ?_, ⟨_, rfl⟩, hW, hsame.mono (by decide) (by decide)⟩
      · show Steps p.tables e below (T5.setTop (mkF m 60 #[.val (.ref a1), .val (.ref a2), .val (.int (s1 - s2)), .val (.ref b2), .val (.int (((0 : Int32) + (1 : Int32)) + (1 : Int32)))] [(.int (0 : Int32))])) _
        exact retN X5 hx (t := .boolean) Bd.returns (by simp) (hb hby d24_60) hr
      · show Q_rim2RR Z a1 a2 s1 s2 b1 b2 r h0 n0 _ T5.heap _
        rw [e5]
        exact ⟨(by rw [qr]), N0, rfl⟩
  obtain ⟨s₂, o, g1, g2, g3, g4⟩ := go
  exact ⟨s₂, o, castTop (ef_rim2RR m a1 a2) g1, g2, g3, g4⟩
def Q_rim (Z : State) (a1 : Addr) (a2 : Addr) (i : Nat) (j : Nat) (ad : Nat → Addr) (c2 : Bool) (c3 : Bool) (c4 : Bool) (h0 : Heap) (n0 : Nat) (v : Option Value) (h : Heap) (L : List Loc) : Prop := v = some (.int (md c2 c3 c4 i j)) ∧ Fr n0 L ∧ h = h0
set_option maxRecDepth 65536 in
set_option maxHeartbeats 40000000 in
theorem rim (l : Launch) (Z : State) (a0 : Array Value) (hw : ∀ d ∈ tables_1, d.before a0 Z = true) (ws : List Jvm.Cond) (a1 : Addr) (a2 : Addr) (i : Nat) (j : Nat) (ad : Nat → Addr) (c2 : Bool) (c3 : Bool) (c4 : Bool) (h0 : Heap) (n0 : Nat) (O0 : Old Z n0 h0) (g_Maps_ : Maps Z h0 ad c2 c3 c4) (hi : i < 7) (hj : j < 7) (ea : a1 = ad i) (eb : a2 = ad j) (inj : ∀ i j, i < 7 → j < 7 → ad i = ad j → i = j) :
    MetFree l y20 (head1 (Jvm.Cond.code y20 prog_164_method_6_code 5 (some .boolean) :: ws) ({ frames := 0, cells := 0, slots := 0, locals := 0 } : Room)) (fun a U => a = #[(.ref a1), (.ref a2)] ∧ Z.Warmed39 U.vm ∧ U.heap = h0) (fun _ _ _ _ _ => True) (fun _ U o U' => ∃ v L, o = .returned v ∧ Q_rim Z a1 a2 i j ad c2 c3 c4 h0 n0 v U'.heap L ∧ FrameEnd U o U' L ({ frames := 0, cells := 0, slots := 0, locals := 0 } : Room).cells ({ frames := 0, cells := 0, slots := 0, locals := 0 } : Room).slots) := by
  subst ea eb
  obtain ⟨E1, S1, B1⟩ := g_Maps_ i hi
  obtain ⟨E2, S2, B2⟩ := g_Maps_ j hj
  have t1 := own_siz i hi c2 c3 c4
  have t2 := own_siz j hj c2 c3 c4
  obtain ⟨u1, u2⟩ := own_sub (siz c2 c3 c4 i) (by omega) (siz c2 c3 c4 j) (by omega)
  by_cases q1 : siz c2 c3 c4 i < siz c2 c3 c4 j
  · have e : md c2 c3 c4 i j = 0 := by unfold md; rw [if_pos q1]
    unfold Q_rim
    rw [e]
    exact rimA l Z a0 hw ws (ad i) (ad j) _ _ h0 n0 O0 S1 S2 (u1 q1)
  have d := u2 q1
  have nn : ¬ (Int32.ofNat (siz c2 c3 c4 i) - Int32.ofNat (siz c2 c3 c4 j) < 0) := by
    rw [d]; exact fun z => absurd ((own_olt (m := 0) (by omega) (by omega)).mp z) (Nat.not_lt_zero _)
  by_cases q2 : siz c2 c3 c4 j < siz c2 c3 c4 i - siz c2 c3 c4 j
  · have e : md c2 c3 c4 i j = 0 := by unfold md; rw [if_neg q1, if_pos q2]
    unfold Q_rim
    rw [e]
    exact rimB l Z a0 hw ws (ad i) (ad j) _ _ h0 n0 O0 S1 S2 nn (by rw [d]; exact (own_olt (by omega) (by omega)).mpr q2)
  have he : ¬ (Int32.ofNat (siz c2 c3 c4 j) < Int32.ofNat (siz c2 c3 c4 i) - Int32.ofNat (siz c2 c3 c4 j)) := by
    rw [d]; exact fun z => q2 ((own_olt (by omega) (by omega)).mp z)
  have hk : siz c2 c3 c4 i - siz c2 c3 c4 j = 0 ∨ siz c2 c3 c4 i - siz c2 c3 c4 j = 1 ∨ siz c2 c3 c4 i - siz c2 c3 c4 j = 2 := by omega
  rcases hk with hk | hk | hk
  · have e : md c2 c3 c4 i j = if i = j then 1 else 0 := by unfold md; rw [if_neg q1, if_neg q2]; simp only [hk]
    refine rim0 l Z a0 hw ws (ad i) (ad j) _ _ (md c2 c3 c4 i j) h0 n0 O0 S1 S2 (by rw [d, hk]; rfl) he ?_
    by_cases z : i = j
    · exact Or.inl ⟨by rw [z], by rw [e, if_pos z]⟩
    · exact Or.inr ⟨fun w => z (inj i j hi hj w), by rw [e, if_neg z]⟩
  · have e : md c2 c3 c4 i j = if bas c2 c3 c4 i = some j then 1 else 0 := by unfold md; rw [if_neg q1, if_neg q2]; simp only [hk]
    cases hb1 : bas c2 c3 c4 i with
    | none =>
      rw [hb1] at B1 e
      have e0 : md c2 c3 c4 i j = 0 := by rw [e, if_neg (by simp)]
      unfold Q_rim
      rw [e0]
      exact rim1N l Z a0 hw ws (ad i) (ad j) _ _ h0 n0 O0 S1 S2 (by rw [d, hk]; rfl) he B1
    | some b =>
      have hbl := own_bas i hi c2 c3 c4 b hb1
      rw [hb1] at B1 e
      refine rim1R l Z a0 hw ws (ad i) (ad j) _ _ (ad b) (md c2 c3 c4 i j) h0 n0 O0 S1 S2 (by rw [d, hk]; rfl) he B1 ?_
      by_cases z : b = j
      · exact Or.inl ⟨by rw [z], by rw [e, if_pos (by rw [z])]⟩
      · exact Or.inr ⟨fun w => z (inj b j hbl hj w), by rw [e, if_neg (fun w => z (Option.some.inj w))]⟩
  · have e : md c2 c3 c4 i j = if (bas c2 c3 c4 i).bind (bas c2 c3 c4) = some j then 1 else 0 := by unfold md; rw [if_neg q1, if_neg q2]; simp only [hk]
    cases hb1 : bas c2 c3 c4 i with
    | none =>
      rw [hb1] at B1 e
      have e0 : md c2 c3 c4 i j = 0 := by rw [e, if_neg (by simp)]
      unfold Q_rim
      rw [e0]
      exact rim2N l Z a0 hw ws (ad i) (ad j) _ _ h0 n0 O0 S1 S2 (by rw [d, hk]; rfl) he B1
    | some b =>
      have hbl := own_bas i hi c2 c3 c4 b hb1
      obtain ⟨E3, S3, B3⟩ := g_Maps_ b hbl
      rw [hb1] at B1 e
      have e' : md c2 c3 c4 i j = if bas c2 c3 c4 b = some j then 1 else 0 := e
      cases hb2 : bas c2 c3 c4 b with
      | none =>
        rw [hb2] at B3 e'
        have e0 : md c2 c3 c4 i j = 0 := by rw [e', if_neg (by simp)]
        unfold Q_rim
        rw [e0]
        exact rim2RN l Z a0 hw ws (ad i) (ad j) _ _ (ad b) h0 n0 O0 S1 S2 (by rw [d, hk]; rfl) he B1 B3
      | some b2 =>
        have hbl2 := own_bas b hbl c2 c3 c4 b2 hb2
        rw [hb2] at B3 e'
        refine rim2RR l Z a0 hw ws (ad i) (ad j) _ _ (ad b) (ad b2) (md c2 c3 c4 i j) h0 n0 O0 S1 S2 (by rw [d, hk]; rfl) he B1 B3 ?_
        by_cases z : b2 = j
        · exact Or.inl ⟨by rw [z], by rw [e', if_pos (by rw [z])]⟩
        · exact Or.inr ⟨fun w => z (inj b2 j hbl2 hj w), by rw [e', if_neg (fun w => z (Option.some.inj w))]⟩
theorem ef_rm0 (m : MethodId) (x0 : Int32) (x1 : Int32) (x2 : Int32) : entryFrame m #[(.int x0), (.int x1), (.int x2)] maxLocals = mkF m 0 #[.val (.int x0), .val (.int x1), .val (.int x2), .unset, .unset, .unset, .unset, .unset, .unset, .unset, .unset, .unset, .unset, .unset, .unset, .unset, .unset, .unset, .unset, .unset, .unset, .unset, .unset, .unset, .unset, .unset, .unset, .unset, .unset, .unset] [] := by first | (simp [entryFrame, mkF, argsToLocals, Value.category, maxLocals]; done) | rfl
theorem pd__I_Ljava_lang_String_ : parseMethodDescriptor "(I)Ljava/lang/String;" = some ⟨[.int], some (.object "java/lang/String")⟩ := by decide +kernel
theorem pd___V : parseMethodDescriptor "()V" = some ⟨[], none⟩ := by decide +kernel
theorem pd__I_Ljava_lang_Integer_ : parseMethodDescriptor "(I)Ljava/lang/Integer;" = some ⟨[.int], some (.object "java/lang/Integer")⟩ := by decide +kernel
theorem pd__Ljava_lang_String_Ljava_lang_Object__Lcom_example_isogloss_isogloss_util_PersistentMap_ : parseMethodDescriptor "(Ljava/lang/String;Ljava/lang/Object;)Lcom/example/isogloss/isogloss/util/PersistentMap;" = some ⟨[(.object "java/lang/String"), (.object "java/lang/Object")], some (.object "com/example/isogloss/isogloss/util/PersistentMap")⟩ := by decide +kernel
theorem pd__ILcom_example_isogloss_isogloss_util_PersistentMap_Lcom_example_isogloss_isogloss_util_PersistentMap_Lcom_example_isogloss_isogloss_util_PersistentMap_Lcom_example_isogloss_isogloss_util_PersistentMap_Lcom_example_isogloss_isogloss_util_PersistentMap_Lcom_example_isogloss_isogloss_util_PersistentMap_Lcom_example_isogloss_isogloss_util_PersistentMap__Lcom_example_isogloss_isogloss_util_PersistentMap_ : parseMethodDescriptor "(ILcom/example/isogloss/isogloss/util/PersistentMap;Lcom/example/isogloss/isogloss/util/PersistentMap;Lcom/example/isogloss/isogloss/util/PersistentMap;Lcom/example/isogloss/isogloss/util/PersistentMap;Lcom/example/isogloss/isogloss/util/PersistentMap;Lcom/example/isogloss/isogloss/util/PersistentMap;Lcom/example/isogloss/isogloss/util/PersistentMap;)Lcom/example/isogloss/isogloss/util/PersistentMap;" = some ⟨[.int, (.object "com/example/isogloss/isogloss/util/PersistentMap"), (.object "com/example/isogloss/isogloss/util/PersistentMap"), (.object "com/example/isogloss/isogloss/util/PersistentMap"), (.object "com/example/isogloss/isogloss/util/PersistentMap"), (.object "com/example/isogloss/isogloss/util/PersistentMap"), (.object "com/example/isogloss/isogloss/util/PersistentMap"), (.object "com/example/isogloss/isogloss/util/PersistentMap")], some (.object "com/example/isogloss/isogloss/util/PersistentMap")⟩ := by decide +kernel
theorem pd__Lcom_example_isogloss_isogloss_util_PersistentMap__Z : parseMethodDescriptor "(Lcom/example/isogloss/isogloss/util/PersistentMap;)Z" = some ⟨[(.object "com/example/isogloss/isogloss/util/PersistentMap")], some .boolean⟩ := by decide +kernel
def Q_rm0 (Z : State) (p1 : Int32) (p2 : Int32) (p3 : Int32) (zc : Int32) (ca : Addr) (cl : Cell) (va1 : Addr) (va2 : Addr) (va3 : Addr) (va4 : Addr) (h0 : Heap) (n0 : Nat) (v : Option Value) (h : Heap) (L : List Loc) : Prop := v = some (.int (1 : Int32)) ∧ Fr n0 L
set_option maxRecDepth 65536 in
set_option maxHeartbeats 40000000 in
theorem rm0 (l : Launch) (Z : State) (a0 : Array Value) (hw : ∀ d ∈ tables_1, d.before a0 Z = true) (ws : List Jvm.Cond) (p1 : Int32) (p2 : Int32) (p3 : Int32) (zc : Int32) (ca : Addr) (cl : Cell) (va1 : Addr) (va2 : Addr) (va3 : Addr) (va4 : Addr) (h0 : Heap) (n0 : Nat) (O0 : Old Z n0 h0) (pm0 : Sta Z Z.heap "java/lang/String" "COMPACT_STRINGS" "Z" (.int zc)) (hz : ¬ (zc = (0 : Int32))) (pm2 : Sta Z Z.heap "java/lang/Integer$IntegerCache" "high" "I" (.int (127 : Int32))) (pm3 : Sta Z Z.heap "java/lang/Integer$IntegerCache" "cache" "[Ljava/lang/Integer;" (.ref ca)) (hA : Arr Z Z.heap ca cl (.object "java/lang/Integer")) (hin1 : ¬ (((1 : Int32) + (128 : Int32)) < 0 ∨ cl.slots.size ≤ ((1 : Int32) + (128 : Int32)).toNatClampNeg)) (hin2 : ¬ (((2 : Int32) + (128 : Int32)) < 0 ∨ cl.slots.size ≤ ((2 : Int32) + (128 : Int32)).toNatClampNeg)) (hin3 : ¬ (((3 : Int32) + (128 : Int32)) < 0 ∨ cl.slots.size ≤ ((3 : Int32) + (128 : Int32)).toNatClampNeg)) (hin4 : ¬ (((4 : Int32) + (128 : Int32)) < 0 ∨ cl.slots.size ≤ ((4 : Int32) + (128 : Int32)).toNatClampNeg)) (hat1 : cl.slots[((1 : Int32) + (128 : Int32)).toNatClampNeg]? = some (.ref va1)) (hat2 : cl.slots[((2 : Int32) + (128 : Int32)).toNatClampNeg]? = some (.ref va2)) (hat3 : cl.slots[((3 : Int32) + (128 : Int32)).toNatClampNeg]? = some (.ref va3)) (hat4 : cl.slots[((4 : Int32) + (128 : Int32)).toNatClampNeg]? = some (.ref va4)) :
    MetFree l x (head1 (Jvm.Cond.code x code maxLocals ret :: ws) room_1) (fun a U => a = #[(.int p1), (.int p2), (.int p3)] ∧ Z.Warmed39 U.vm ∧ U.heap = h0) (fun _ _ _ _ _ => True) (fun _ U o U' => ∃ v L, o = .returned v ∧ Q_rm0 Z p1 p2 p3 zc ca cl va1 va2 va3 va4 h0 n0 v U'.heap L ∧ FrameEnd U o U' L room_1.cells room_1.slots) := by
  refine MetFree.of_bodySF (plainFor_of_name pn_com_example_isogloss_isogloss_util_PersistentMapIsMadeFromPinLaw) hisR ?_
  intro p e s m args below meth c s₁ Bd hml0 hP hK
  obtain ⟨rfl, hZ, hh⟩ := hP
  have hx := Bd.exec
  have hby := Bd.bytes
  have hml : c.maxLocals = 30 := hml0
  have hown : s.vm.findClass "com/example/isogloss/isogloss/util/PersistentMapIsMadeFromPinLaw" = some m.cls := findClass_of_methodNamed Bd.named
  have hnm := (name_of_methodNamed Bd.named Bd.method).1
  have X0 : Stand p l e room_1 s m #[(.int p1), (.int p2), (.int p3)] below meth c s₁ [] 0 0 := Stand.of_body Bd
  have e0 : s₁.heap = h0 := by rw [← hh, Bd.state]; rfl
  have N0 := Fr.nil n0
  have K0 : Keep h0 h0 [] := Keep.refl h0 _
  have go : Gl p.tables e below (fun o U' => ∃ v L, o = .returned v ∧ Q_rm0 Z p1 p2 p3 zc ca cl va1 va2 va3 va4 h0 n0 v U'.heap L ∧ FrameEnd s o U' L room_1.cells room_1.slots) (s₁.setTop (mkF m 0 #[.val (.int p1), .val (.int p2), .val (.int p3), .unset, .unset, .unset, .unset, .unset, .unset, .unset, .unset, .unset, .unset, .unset, .unset, .unset, .unset, .unset, .unset, .unset, .unset, .unset, .unset, .unset, .unset, .unset, .unset, .unset, .unset, .unset] [])) := by
    refine Gl.step (B := (s₁.setTop (mkF m 7 #[.val (.int p1), .val (.int p2), .val (.int p3), .val (.int (p1 &&& (3 : Int32))), .unset, .unset, .unset, .unset, .unset, .unset, .unset, .unset, .unset, .unset, .unset, .unset, .unset, .unset, .unset, .unset, .unset, .unset, .unset, .unset, .unset, .unset, .unset, .unset, .unset, .unset] [(.int (8 : Int32)), (.int p1)]))) (fun t k => XS.iloadN X0.here hx rfl (hb hby at_0) rfl (XS.iconst X0.here hx rfl (hb hby at_1) (XS.iand X0.here hx rfl (hb hby at_2) rfl (XS.istoreN X0.here hx rfl (hb hby at_3) rfl (l' := #[.val (.int p1), .val (.int p2), .val (.int p3), .val (.int (p1 &&& (3 : Int32))), .unset, .unset, .unset, .unset, .unset, .unset, .unset, .unset, .unset, .unset, .unset, .unset, .unset, .unset, .unset, .unset, .unset, .unset, .unset, .unset, .unset, .unset, .unset, .unset, .unset, .unset]) rfl (XS.iloadN X0.here hx rfl (hb hby at_4) rfl (XS.bipush X0.here hx rfl (hb hby at_5) k)))))) ?_
    refine Gl.step (B := (s₁.setTop (mkF m 15 #[.val (.int p1), .val (.int p2), .val (.int p3), .val (.int (p1 &&& (3 : Int32))), .val (.int (((p1.toUInt32 >>> ((8 : Int32) &&& 31).toUInt32).toInt32) &&& (3 : Int32))), .unset, .unset, .unset, .unset, .unset, .unset, .unset, .unset, .unset, .unset, .unset, .unset, .unset, .unset, .unset, .unset, .unset, .unset, .unset, .unset, .unset, .unset, .unset, .unset, .unset] [(.int (16 : Int32)), (.int p1)]))) (fun t k => XS.iushr X0.here hx rfl (hb hby at_7) rfl (XS.iconst X0.here hx rfl (hb hby at_8) (XS.iand X0.here hx rfl (hb hby at_9) rfl (XS.istore X0.here hx rfl (hb hby at_10) rfl (l' := #[.val (.int p1), .val (.int p2), .val (.int p3), .val (.int (p1 &&& (3 : Int32))), .val (.int (((p1.toUInt32 >>> ((8 : Int32) &&& 31).toUInt32).toInt32) &&& (3 : Int32))), .unset, .unset, .unset, .unset, .unset, .unset, .unset, .unset, .unset, .unset, .unset, .unset, .unset, .unset, .unset, .unset, .unset, .unset, .unset, .unset, .unset, .unset, .unset, .unset, .unset]) rfl (XS.iloadN X0.here hx rfl (hb hby at_12) rfl (XS.bipush X0.here hx rfl (hb hby at_13) k)))))) ?_
    refine Gl.step (B := (s₁.setTop (mkF m 23 #[.val (.int p1), .val (.int p2), .val (.int p3), .val (.int (p1 &&& (3 : Int32))), .val (.int (((p1.toUInt32 >>> ((8 : Int32) &&& 31).toUInt32).toInt32) &&& (3 : Int32))), .val (.int (((p1.toUInt32 >>> ((16 : Int32) &&& 31).toUInt32).toInt32) &&& (3 : Int32))), .unset, .unset, .unset, .unset, .unset, .unset, .unset, .unset, .unset, .unset, .unset, .unset, .unset, .unset, .unset, .unset, .unset, .unset, .unset, .unset, .unset, .unset, .unset, .unset] [(.int (24 : Int32)), (.int p1)]))) (fun t k => XS.iushr X0.here hx rfl (hb hby at_15) rfl (XS.iconst X0.here hx rfl (hb hby at_16) (XS.iand X0.here hx rfl (hb hby at_17) rfl (XS.istore X0.here hx rfl (hb hby at_18) rfl (l' := #[.val (.int p1), .val (.int p2), .val (.int p3), .val (.int (p1 &&& (3 : Int32))), .val (.int (((p1.toUInt32 >>> ((8 : Int32) &&& 31).toUInt32).toInt32) &&& (3 : Int32))), .val (.int (((p1.toUInt32 >>> ((16 : Int32) &&& 31).toUInt32).toInt32) &&& (3 : Int32))), .unset, .unset, .unset, .unset, .unset, .unset, .unset, .unset, .unset, .unset, .unset, .unset, .unset, .unset, .unset, .unset, .unset, .unset, .unset, .unset, .unset, .unset, .unset, .unset]) rfl (XS.iloadN X0.here hx rfl (hb hby at_20) rfl (XS.bipush X0.here hx rfl (hb hby at_21) k)))))) ?_
    refine Gl.step (B := (s₁.setTop (mkF m 28 #[.val (.int p1), .val (.int p2), .val (.int p3), .val (.int (p1 &&& (3 : Int32))), .val (.int (((p1.toUInt32 >>> ((8 : Int32) &&& 31).toUInt32).toInt32) &&& (3 : Int32))), .val (.int (((p1.toUInt32 >>> ((16 : Int32) &&& 31).toUInt32).toInt32) &&& (3 : Int32))), .val (.int (((p1.toUInt32 >>> ((24 : Int32) &&& 31).toUInt32).toInt32) &&& (3 : Int32))), .unset, .unset, .unset, .unset, .unset, .unset, .unset, .unset, .unset, .unset, .unset, .unset, .unset, .unset, .unset, .unset, .unset, .unset, .unset, .unset, .unset, .unset, .unset] []))) (fun t k => XS.iushr X0.here hx rfl (hb hby at_23) rfl (XS.iconst X0.here hx rfl (hb hby at_24) (XS.iand X0.here hx rfl (hb hby at_25) rfl (XS.istore X0.here hx rfl (hb hby at_26) rfl (l' := #[.val (.int p1), .val (.int p2), .val (.int p3), .val (.int (p1 &&& (3 : Int32))), .val (.int (((p1.toUInt32 >>> ((8 : Int32) &&& 31).toUInt32).toInt32) &&& (3 : Int32))), .val (.int (((p1.toUInt32 >>> ((16 : Int32) &&& 31).toUInt32).toInt32) &&& (3 : Int32))), .val (.int (((p1.toUInt32 >>> ((24 : Int32) &&& 31).toUInt32).toInt32) &&& (3 : Int32))), .unset, .unset, .unset, .unset, .unset, .unset, .unset, .unset, .unset, .unset, .unset, .unset, .unset, .unset, .unset, .unset, .unset, .unset, .unset, .unset, .unset, .unset, .unset]) rfl k)))) ?_
    obtain ⟨k1, hk1⟩ : ∃ z, z = (p1 &&& (3 : Int32)) := ⟨_, rfl⟩
    rw [← hk1]
    have hr1 : k1 = 0 ∨ k1 = 1 ∨ k1 = 2 ∨ k1 = 3 := by rw [hk1]; exact own_and3 _
    obtain ⟨k2, hk2⟩ : ∃ z, z = (((p1.toUInt32 >>> ((8 : Int32) &&& 31).toUInt32).toInt32) &&& (3 : Int32)) := ⟨_, rfl⟩
    rw [← hk2]
    have hr2 : k2 = 0 ∨ k2 = 1 ∨ k2 = 2 ∨ k2 = 3 := by rw [hk2]; exact own_and3 _
    obtain ⟨k3, hk3⟩ : ∃ z, z = (((p1.toUInt32 >>> ((16 : Int32) &&& 31).toUInt32).toInt32) &&& (3 : Int32)) := ⟨_, rfl⟩
    rw [← hk3]
    have hr3 : k3 = 0 ∨ k3 = 1 ∨ k3 = 2 ∨ k3 = 3 := by rw [hk3]; exact own_and3 _
    obtain ⟨k4, hk4⟩ : ∃ z, z = (((p1.toUInt32 >>> ((24 : Int32) &&& 31).toUInt32).toInt32) &&& (3 : Int32)) := ⟨_, rfl⟩
    rw [← hk4]
    have hr4 : k4 = 0 ∨ k4 = 1 ∨ k4 = 2 ∨ k4 = 3 := by rw [hk4]; exact own_and3 _
    refine Gl.step (B := (s₁.setTop (mkF m 29 #[.val (.int p1), .val (.int p2), .val (.int p3), .val (.int k1), .val (.int k2), .val (.int k3), .val (.int k4), .unset, .unset, .unset, .unset, .unset, .unset, .unset, .unset, .unset, .unset, .unset, .unset, .unset, .unset, .unset, .unset, .unset, .unset, .unset, .unset, .unset, .unset, .unset] [(.int k1)]))) (fun t k => XS.iloadN X0.here hx rfl (hb hby at_28) rfl k) ?_
    obtain ⟨_, _, ⟨T1, L1, c1, z1⟩, -, X1, ⟨Lc1, hQ1, l1, y1, zz1⟩, st1⟩ := Jvm.LawKit.callS X0 hx (y := y5) hown (mvT hZ (t0 hw)) (mvT hZ (t1 hw)) (mvT hZ (t2 hw)) (mvT hZ (t3 hw)) (by decide) (backOf (W := 0) (rkey l Z a0 hw [] k1 zc h0 n0 O0 pm0 (hz) (hr1)) hZ (t3 hw) (t2 hw) (by decide) (by decide)) (g := (mkF m 29 #[.val (.int p1), .val (.int p2), .val (.int p3), .val (.int k1), .val (.int k2), .val (.int k3), .val (.int k4), .unset, .unset, .unset, .unset, .unset, .unset, .unset, .unset, .unset, .unset, .unset, .unset, .unset, .unset, .unset, .unset, .unset, .unset, .unset, .unset, .unset, .unset, .unset] [(.int k1)])) rfl (by rw [hml]; rfl) (argsL := [(.int k1)]) (rest := []) (lenOf pd__I_Ljava_lang_String_ rfl) rfl (by show 2 * 0 + _ ≤ _; exact Nat.le_of_eq rfl) (hb hby at_29) (fun _ _ => ⟨rfl, e0, (by decide : 0 + 3 ≤ _), (by decide : 0 + 6 ≤ _)⟩)
    dsimp only [Pt.U, Pt.locs, Pt.cells, Pt.slots] at X1 l1 y1 zz1 st1 hQ1
    subst y1 zz1
    obtain ⟨b_1, rfl, N1q, Kc1, r0_1, r1_1⟩ := hQ1
    have N1 : Fr n0 L1 := Eq.mpr (congrArg (Fr n0) l1) (Fr.app N0 N1q)
    have ge_b_1 : n0 ≤ b_1 := Nat.le_trans (own_oz O0) r0_1
    have sz_b_1 : h0.size ≤ b_1 := Nat.le_trans K0.1 r0_1
    have O2 : Old Z n0 T1.heap := O0.keep Kc1 all0
    have K2 : Keep h0 T1.heap [] := K0.trans Kc1 all0
    refine Gl.step (B := (T1.setTop (mkF m 32 #[.val (.int p1), .val (.int p2), .val (.int p3), .val (.int k1), .val (.int k2), .val (.int k3), .val (.int k4), .unset, .unset, .unset, .unset, .unset, .unset, .unset, .unset, .unset, .unset, .unset, .unset, .unset, .unset, .unset, .unset, .unset, .unset, .unset, .unset, .unset, .unset, .unset] [(.ref b_1)]))) st1 ?_
    refine Gl.step (B := (T1.setTop (mkF m 36 #[.val (.int p1), .val (.int p2), .val (.int p3), .val (.int k1), .val (.int k2), .val (.int k3), .val (.int k4), .val (.ref b_1), .unset, .unset, .unset, .unset, .unset, .unset, .unset, .unset, .unset, .unset, .unset, .unset, .unset, .unset, .unset, .unset, .unset, .unset, .unset, .unset, .unset, .unset] [(.int k2)]))) (fun t k => XS.astore X1.here hx rfl (hb hby at_32) rfl rfl (l' := #[.val (.int p1), .val (.int p2), .val (.int p3), .val (.int k1), .val (.int k2), .val (.int k3), .val (.int k4), .val (.ref b_1), .unset, .unset, .unset, .unset, .unset, .unset, .unset, .unset, .unset, .unset, .unset, .unset, .unset, .unset, .unset, .unset, .unset, .unset, .unset, .unset, .unset, .unset]) rfl (XS.iload X1.here hx rfl (hb hby at_34) rfl k)) ?_
    obtain ⟨_, _, ⟨T3, L3, c3, z3⟩, -, X3, ⟨Lc3, hQ3, l3, y3, zz3⟩, st3⟩ := Jvm.LawKit.callS X1 hx (y := y5) hown (mvT hZ (t0 hw)) (mvT hZ (t1 hw)) (mvT hZ (t2 hw)) (mvT hZ (t3 hw)) (by decide) (backOf (W := 0) (rkey l Z a0 hw [] k2 zc T1.heap n0 O2 pm0 (hz) (hr2)) hZ (t3 hw) (t2 hw) (by decide) (by decide)) (g := (mkF m 36 #[.val (.int p1), .val (.int p2), .val (.int p3), .val (.int k1), .val (.int k2), .val (.int k3), .val (.int k4), .val (.ref b_1), .unset, .unset, .unset, .unset, .unset, .unset, .unset, .unset, .unset, .unset, .unset, .unset, .unset, .unset, .unset, .unset, .unset, .unset, .unset, .unset, .unset, .unset] [(.int k2)])) rfl (by rw [hml]; rfl) (argsL := [(.int k2)]) (rest := []) (lenOf pd__I_Ljava_lang_String_ rfl) rfl (by show 2 * 0 + _ ≤ _; exact Nat.le_of_eq rfl) (hb hby at_36) (fun _ _ => ⟨rfl, rfl, (by decide : 3 + 3 ≤ _), (by decide : 6 + 6 ≤ _)⟩)
    dsimp only [Pt.U, Pt.locs, Pt.cells, Pt.slots] at X3 l3 y3 zz3 st3 hQ3
    subst y3 zz3
    obtain ⟨b_3, rfl, N3q, Kc3, r0_3, r1_3⟩ := hQ3
    have N3 : Fr n0 L3 := Eq.mpr (congrArg (Fr n0) l3) (Fr.app N1 N3q)
    have ge_b_3 : n0 ≤ b_3 := Nat.le_trans (own_oz O2) r0_3
    have sz_b_3 : h0.size ≤ b_3 := Nat.le_trans K2.1 r0_3
    have O4 : Old Z n0 T3.heap := O2.keep Kc3 all0
    have K4 : Keep h0 T3.heap [] := K2.trans Kc3 all0
    refine Gl.step (B := (T3.setTop (mkF m 39 #[.val (.int p1), .val (.int p2), .val (.int p3), .val (.int k1), .val (.int k2), .val (.int k3), .val (.int k4), .val (.ref b_1), .unset, .unset, .unset, .unset, .unset, .unset, .unset, .unset, .unset, .unset, .unset, .unset, .unset, .unset, .unset, .unset, .unset, .unset, .unset, .unset, .unset, .unset] [(.ref b_3)]))) st3 ?_
    refine Gl.step (B := (T3.setTop (mkF m 43 #[.val (.int p1), .val (.int p2), .val (.int p3), .val (.int k1), .val (.int k2), .val (.int k3), .val (.int k4), .val (.ref b_1), .val (.ref b_3), .unset, .unset, .unset, .unset, .unset, .unset, .unset, .unset, .unset, .unset, .unset, .unset, .unset, .unset, .unset, .unset, .unset, .unset, .unset, .unset, .unset] [(.int k3)]))) (fun t k => XS.astore X3.here hx rfl (hb hby at_39) rfl rfl (l' := #[.val (.int p1), .val (.int p2), .val (.int p3), .val (.int k1), .val (.int k2), .val (.int k3), .val (.int k4), .val (.ref b_1), .val (.ref b_3), .unset, .unset, .unset, .unset, .unset, .unset, .unset, .unset, .unset, .unset, .unset, .unset, .unset, .unset, .unset, .unset, .unset, .unset, .unset, .unset, .unset]) rfl (XS.iload X3.here hx rfl (hb hby at_41) rfl k)) ?_
    obtain ⟨_, _, ⟨T5, L5, c5, z5⟩, -, X5, ⟨Lc5, hQ5, l5, y5, zz5⟩, st5⟩ := Jvm.LawKit.callS X3 hx (y := y5) hown (mvT hZ (t0 hw)) (mvT hZ (t1 hw)) (mvT hZ (t2 hw)) (mvT hZ (t3 hw)) (by decide) (backOf (W := 0) (rkey l Z a0 hw [] k3 zc T3.heap n0 O4 pm0 (hz) (hr3)) hZ (t3 hw) (t2 hw) (by decide) (by decide)) (g := (mkF m 43 #[.val (.int p1), .val (.int p2), .val (.int p3), .val (.int k1), .val (.int k2), .val (.int k3), .val (.int k4), .val (.ref b_1), .val (.ref b_3), .unset, .unset, .unset, .unset, .unset, .unset, .unset, .unset, .unset, .unset, .unset, .unset, .unset, .unset, .unset, .unset, .unset, .unset, .unset, .unset, .unset] [(.int k3)])) rfl (by rw [hml]; rfl) (argsL := [(.int k3)]) (rest := []) (lenOf pd__I_Ljava_lang_String_ rfl) rfl (by show 2 * 0 + _ ≤ _; exact Nat.le_of_eq rfl) (hb hby at_43) (fun _ _ => ⟨rfl, rfl, (by decide : 6 + 3 ≤ _), (by decide : 12 + 6 ≤ _)⟩)
    dsimp only [Pt.U, Pt.locs, Pt.cells, Pt.slots] at X5 l5 y5 zz5 st5 hQ5
    subst y5 zz5
    obtain ⟨b_5, rfl, N5q, Kc5, r0_5, r1_5⟩ := hQ5
    have N5 : Fr n0 L5 := Eq.mpr (congrArg (Fr n0) l5) (Fr.app N3 N5q)
    have ge_b_5 : n0 ≤ b_5 := Nat.le_trans (own_oz O4) r0_5
    have sz_b_5 : h0.size ≤ b_5 := Nat.le_trans K4.1 r0_5
    have O6 : Old Z n0 T5.heap := O4.keep Kc5 all0
    have K6 : Keep h0 T5.heap [] := K4.trans Kc5 all0
    refine Gl.step (B := (T5.setTop (mkF m 46 #[.val (.int p1), .val (.int p2), .val (.int p3), .val (.int k1), .val (.int k2), .val (.int k3), .val (.int k4), .val (.ref b_1), .val (.ref b_3), .unset, .unset, .unset, .unset, .unset, .unset, .unset, .unset, .unset, .unset, .unset, .unset, .unset, .unset, .unset, .unset, .unset, .unset, .unset, .unset, .unset] [(.ref b_5)]))) st5 ?_
    refine Gl.step (B := (T5.setTop (mkF m 50 #[.val (.int p1), .val (.int p2), .val (.int p3), .val (.int k1), .val (.int k2), .val (.int k3), .val (.int k4), .val (.ref b_1), .val (.ref b_3), .val (.ref b_5), .unset, .unset, .unset, .unset, .unset, .unset, .unset, .unset, .unset, .unset, .unset, .unset, .unset, .unset, .unset, .unset, .unset, .unset, .unset, .unset] [(.int k4)]))) (fun t k => XS.astore X5.here hx rfl (hb hby at_46) rfl rfl (l' := #[.val (.int p1), .val (.int p2), .val (.int p3), .val (.int k1), .val (.int k2), .val (.int k3), .val (.int k4), .val (.ref b_1), .val (.ref b_3), .val (.ref b_5), .unset, .unset, .unset, .unset, .unset, .unset, .unset, .unset, .unset, .unset, .unset, .unset, .unset, .unset, .unset, .unset, .unset, .unset, .unset, .unset]) rfl (XS.iload X5.here hx rfl (hb hby at_48) rfl k)) ?_
    obtain ⟨_, _, ⟨T7, L7, c7, z7⟩, -, X7, ⟨Lc7, hQ7, l7, y7, zz7⟩, st7⟩ := Jvm.LawKit.callS X5 hx (y := y5) hown (mvT hZ (t0 hw)) (mvT hZ (t1 hw)) (mvT hZ (t2 hw)) (mvT hZ (t3 hw)) (by decide) (backOf (W := 0) (rkey l Z a0 hw [] k4 zc T5.heap n0 O6 pm0 (hz) (hr4)) hZ (t3 hw) (t2 hw) (by decide) (by decide)) (g := (mkF m 50 #[.val (.int p1), .val (.int p2), .val (.int p3), .val (.int k1), .val (.int k2), .val (.int k3), .val (.int k4), .val (.ref b_1), .val (.ref b_3), .val (.ref b_5), .unset, .unset, .unset, .unset, .unset, .unset, .unset, .unset, .unset, .unset, .unset, .unset, .unset, .unset, .unset, .unset, .unset, .unset, .unset, .unset] [(.int k4)])) rfl (by rw [hml]; rfl) (argsL := [(.int k4)]) (rest := []) (lenOf pd__I_Ljava_lang_String_ rfl) rfl (by show 2 * 0 + _ ≤ _; exact Nat.le_of_eq rfl) (hb hby at_50) (fun _ _ => ⟨rfl, rfl, (by decide : 9 + 3 ≤ _), (by decide : 18 + 6 ≤ _)⟩)
    dsimp only [Pt.U, Pt.locs, Pt.cells, Pt.slots] at X7 l7 y7 zz7 st7 hQ7
    subst y7 zz7
    obtain ⟨b_7, rfl, N7q, Kc7, r0_7, r1_7⟩ := hQ7
    have N7 : Fr n0 L7 := Eq.mpr (congrArg (Fr n0) l7) (Fr.app N5 N7q)
    have ge_b_7 : n0 ≤ b_7 := Nat.le_trans (own_oz O6) r0_7
    have sz_b_7 : h0.size ≤ b_7 := Nat.le_trans K6.1 r0_7
    have O8 : Old Z n0 T7.heap := O6.keep Kc7 all0
    have K8 : Keep h0 T7.heap [] := K6.trans Kc7 all0
    refine Gl.step (B := (T7.setTop (mkF m 53 #[.val (.int p1), .val (.int p2), .val (.int p3), .val (.int k1), .val (.int k2), .val (.int k3), .val (.int k4), .val (.ref b_1), .val (.ref b_3), .val (.ref b_5), .unset, .unset, .unset, .unset, .unset, .unset, .unset, .unset, .unset, .unset, .unset, .unset, .unset, .unset, .unset, .unset, .unset, .unset, .unset, .unset] [(.ref b_7)]))) st7 ?_
    refine Gl.step (B := (T7.setTop (mkF m 55 #[.val (.int p1), .val (.int p2), .val (.int p3), .val (.int k1), .val (.int k2), .val (.int k3), .val (.int k4), .val (.ref b_1), .val (.ref b_3), .val (.ref b_5), .val (.ref b_7), .unset, .unset, .unset, .unset, .unset, .unset, .unset, .unset, .unset, .unset, .unset, .unset, .unset, .unset, .unset, .unset, .unset, .unset, .unset] []))) (fun t k => XS.astore X7.here hx rfl (hb hby at_53) rfl rfl (l' := #[.val (.int p1), .val (.int p2), .val (.int p3), .val (.int k1), .val (.int k2), .val (.int k3), .val (.int k4), .val (.ref b_1), .val (.ref b_3), .val (.ref b_5), .val (.ref b_7), .unset, .unset, .unset, .unset, .unset, .unset, .unset, .unset, .unset, .unset, .unset, .unset, .unset, .unset, .unset, .unset, .unset, .unset, .unset]) rfl k) ?_
    obtain ⟨T9, h9, X9, e9, E9, A9, D9, -, st9⟩ := newO X7 hx hZ hown (t34 hw) (t35 hw) (t36 hw) rfl (g := (mkF m 55 #[.val (.int p1), .val (.int p2), .val (.int p3), .val (.int k1), .val (.int k2), .val (.int k3), .val (.int k4), .val (.ref b_1), .val (.ref b_3), .val (.ref b_5), .val (.ref b_7), .unset, .unset, .unset, .unset, .unset, .unset, .unset, .unset, .unset, .unset, .unset, .unset, .unset, .unset, .unset, .unset, .unset, .unset, .unset] [])) rfl (hb hby at_55) (by decide) (by decide)
    obtain ⟨b9, g9⟩ : ∃ z, z = T7.heap.size := ⟨_, rfl⟩
    rw [← g9] at A9 D9 st9
    have ge_b9 : n0 ≤ b9 := Nat.le_trans (own_oz O8) (Nat.le_of_eq g9.symm)
    have sz_b9 : h0.size ≤ b9 := Nat.le_trans K8.1 (Nat.le_of_eq g9.symm)
    have O10 : Old Z n0 h9 := O8.ext E9
    have K10 : Keep h0 h9 [] := K8.ext E9
    have F9_root : Fld Z h9 b9 own_PM "root" own_LN .null := D9 (Or.inr (t45 hw)) (ty := (.object "com/example/isogloss/isogloss/util/PersistentMap$Node")) (by decide)
    have F9_size : Fld Z h9 b9 own_PM "size" "I" (.int (0 : Int32)) := D9 (Or.inr (t47 hw)) (ty := .int) (by decide)
    have F9_base : Fld Z h9 b9 own_PM "base" own_LP .null := D9 (Or.inr (t49 hw)) (ty := (.object "com/example/isogloss/isogloss/util/PersistentMap")) (by decide)
    refine Gl.step (B := (T9.setTop (mkF m 58 #[.val (.int p1), .val (.int p2), .val (.int p3), .val (.int k1), .val (.int k2), .val (.int k3), .val (.int k4), .val (.ref b_1), .val (.ref b_3), .val (.ref b_5), .val (.ref b_7), .unset, .unset, .unset, .unset, .unset, .unset, .unset, .unset, .unset, .unset, .unset, .unset, .unset, .unset, .unset, .unset, .unset, .unset, .unset] [(.ref b9)]))) st9 ?_
    refine Gl.step (B := (T9.setTop (mkF m 59 #[.val (.int p1), .val (.int p2), .val (.int p3), .val (.int k1), .val (.int k2), .val (.int k3), .val (.int k4), .val (.ref b_1), .val (.ref b_3), .val (.ref b_5), .val (.ref b_7), .unset, .unset, .unset, .unset, .unset, .unset, .unset, .unset, .unset, .unset, .unset, .unset, .unset, .unset, .unset, .unset, .unset, .unset, .unset] [(.ref b9), (.ref b9)]))) (fun t k => XS.dup X9.here hx rfl (hb hby at_58) rfl rfl k) ?_
    obtain ⟨_, _, ⟨T11, L11, c11, z11⟩, -, X11, ⟨Lc11, hQ11, l11, y11, zz11⟩, st11⟩ := X9.specialBack hx (y := y14) rfl hown (mvT hZ (t37 hw)) (mvT hZ (t38 hw)) (mvT hZ (t39 hw)) (by decide) (backOf (W := 1) (ri0 l Z a0 hw [] b9 h9 n0 O10 A9 F9_root F9_size F9_base ge_b9) hZ (t39 hw) (t36 hw) (by decide) (by decide)) (g := (mkF m 59 #[.val (.int p1), .val (.int p2), .val (.int p3), .val (.int k1), .val (.int k2), .val (.int k3), .val (.int k4), .val (.ref b_1), .val (.ref b_3), .val (.ref b_5), .val (.ref b_7), .unset, .unset, .unset, .unset, .unset, .unset, .unset, .unset, .unset, .unset, .unset, .unset, .unset, .unset, .unset, .unset, .unset, .unset, .unset] [(.ref b9), (.ref b9)])) rfl (by rw [hml]; rfl) (Steps.refl _) (a := b9) (argsL := []) (rest := [(.ref b9)]) (lenOf pd___V rfl) rfl (by show 2 * 0 + _ ≤ _; exact Nat.le_of_eq rfl) (hb hby at_59) (fun _ _ => ⟨rfl, e9, (by decide : 13 + 0 ≤ _), (by decide : 27 + 0 ≤ _)⟩)
    dsimp only [Pt.U, Pt.locs, Pt.cells, Pt.slots] at X11 l11 y11 zz11 st11 hQ11
    subst y11 zz11
    obtain ⟨rfl, N11q, Kc11, r0_11, r1_11, r2_11, r3_11⟩ := hQ11
    have N11 : Fr n0 L11 := Eq.mpr (congrArg (Fr n0) l11) (Fr.app N7 N11q)
    have O12 : Old Z n0 T11.heap := O10.keep Kc11 (allS ge_b9 all0)
    have K12 : Keep h0 T11.heap [] := K10.trans Kc11 (allS (Or.inr sz_b9) all0)
    refine Gl.tr (B := (T11.setTop (mkF m 62 #[.val (.int p1), .val (.int p2), .val (.int p3), .val (.int k1), .val (.int k2), .val (.int k3), .val (.int k4), .val (.ref b_1), .val (.ref b_3), .val (.ref b_5), .val (.ref b_7), .unset, .unset, .unset, .unset, .unset, .unset, .unset, .unset, .unset, .unset, .unset, .unset, .unset, .unset, .unset, .unset, .unset, .unset, .unset] [(.ref b9)]))) st11 ?_
    refine Gl.step (B := (T11.setTop (mkF m 69 #[.val (.int p1), .val (.int p2), .val (.int p3), .val (.int k1), .val (.int k2), .val (.int k3), .val (.int k4), .val (.ref b_1), .val (.ref b_3), .val (.ref b_5), .val (.ref b_7), .val (.ref b9), .unset, .unset, .unset, .unset, .unset, .unset, .unset, .unset, .unset, .unset, .unset, .unset, .unset, .unset, .unset, .unset, .unset, .unset] [(.int (1 : Int32)), (.ref b_1), (.ref b9)]))) (fun t k => XS.astore X11.here hx rfl (hb hby at_62) rfl rfl (l' := #[.val (.int p1), .val (.int p2), .val (.int p3), .val (.int k1), .val (.int k2), .val (.int k3), .val (.int k4), .val (.ref b_1), .val (.ref b_3), .val (.ref b_5), .val (.ref b_7), .val (.ref b9), .unset, .unset, .unset, .unset, .unset, .unset, .unset, .unset, .unset, .unset, .unset, .unset, .unset, .unset, .unset, .unset, .unset, .unset]) rfl (XS.aload X11.here hx rfl (hb hby at_64) rfl rfl (XS.aload X11.here hx rfl (hb hby at_66) rfl rfl (XS.iconst X11.here hx rfl (hb hby at_68) k)))) ?_
    obtain ⟨_, _, ⟨T13, L13, c13, z13⟩, -, X13, ⟨Lc13, hQ13, l13, y13, zz13⟩, st13⟩ := Jvm.LawKit.callS X11 hx (y := y12) hown (mvT hZ (t50 hw)) (mvT hZ (t51 hw)) (mvT hZ (t52 hw)) (mvT hZ (t53 hw)) (by decide) (backOf (W := 2) (rval l Z a0 hw [] (1 : Int32) va1 ca cl T11.heap n0 O12 pm2 pm3 (hA) (by decide) (by decide) (hin1) (hat1)) hZ (t53 hw) (t52 hw) (by decide) (by decide)) (g := (mkF m 69 #[.val (.int p1), .val (.int p2), .val (.int p3), .val (.int k1), .val (.int k2), .val (.int k3), .val (.int k4), .val (.ref b_1), .val (.ref b_3), .val (.ref b_5), .val (.ref b_7), .val (.ref b9), .unset, .unset, .unset, .unset, .unset, .unset, .unset, .unset, .unset, .unset, .unset, .unset, .unset, .unset, .unset, .unset, .unset, .unset] [(.int (1 : Int32)), (.ref b_1), (.ref b9)])) rfl (by rw [hml]; rfl) (argsL := [(.int (1 : Int32))]) (rest := [(.ref b_1), (.ref b9)]) (lenOf pd__I_Ljava_lang_Integer_ rfl) rfl (by show 2 * 0 + _ ≤ _; exact Nat.le_of_eq rfl) (hb hby at_69) (fun _ _ => ⟨rfl, rfl, (by decide : 13 + 0 ≤ _), (by decide : 27 + 0 ≤ _)⟩)
    dsimp only [Pt.U, Pt.locs, Pt.cells, Pt.slots] at X13 l13 y13 zz13 st13 hQ13
    subst y13 zz13
    obtain ⟨rfl, N13q, eh13⟩ := hQ13
    have N13 : Fr n0 L13 := Eq.mpr (congrArg (Fr n0) l13) (Fr.app N11 N13q)
    refine Gl.step (B := (T13.setTop (mkF m 72 #[.val (.int p1), .val (.int p2), .val (.int p3), .val (.int k1), .val (.int k2), .val (.int k3), .val (.int k4), .val (.ref b_1), .val (.ref b_3), .val (.ref b_5), .val (.ref b_7), .val (.ref b9), .unset, .unset, .unset, .unset, .unset, .unset, .unset, .unset, .unset, .unset, .unset, .unset, .unset, .unset, .unset, .unset, .unset, .unset] [(.ref va1), (.ref b_1), (.ref b9)]))) st13 ?_
    have cu14 : Keep T1.heap T3.heap [] := (Keep.refl T1.heap []).trans Kc3 all0
    have cu15 : Keep T1.heap T5.heap [] := cu14.trans Kc5 all0
    have cu16 : Keep T1.heap T7.heap [] := cu15.trans Kc7 all0
    have cu17 : Keep T1.heap h9 [] := cu16.ext E9
    have cu18 : Keep T1.heap T11.heap [] := cu17.trans Kc11 (allS (Or.inr (Nat.le_trans cu16.1 (Nat.le_of_eq g9.symm))) all0)
    have f19 := (r1_1.ext (own_ke cu18))
    obtain ⟨cq20, kq20, q20a, q20b, q20c⟩ := isOf hZ eh13 r0_11
    obtain ⟨_, _, ⟨T20, L20, c20, z20⟩, -, X20, ⟨Lc20, hQ20, l20, y20, zz20⟩, st20⟩ := X13.virtualBack hx (y := y18) (z := y18) hown (mvT hZ (t57 hw)) (mvT hZ (t58 hw)) (notFace_of_selects (args := #[]) (mvT hZ (t60 hw))) (mvT hZ (t60 hw)) (mvT hZ (t59 hw)) (by decide) (backOf (W := 0) (rwith l Z a0 hw [] b9 b_1 va1 .null 0 ((97 : Int32) + k1) (fun _ => False) zc (0 : Int32) T11.heap n0 O12 pm0 (hz) r0_11 r1_11 r2_11 f19 (own_ky hr1) ((Or.inl ⟨rfl, rfl, fun _ q => q⟩ : Tree Z T11.heap 3 0 .null (fun _ => False)))) hZ (t61 hw) (t36 hw) (by decide) (by decide)) q20a q20c (g := (mkF m 72 #[.val (.int p1), .val (.int p2), .val (.int p3), .val (.int k1), .val (.int k2), .val (.int k3), .val (.int k4), .val (.ref b_1), .val (.ref b_3), .val (.ref b_5), .val (.ref b_7), .val (.ref b9), .unset, .unset, .unset, .unset, .unset, .unset, .unset, .unset, .unset, .unset, .unset, .unset, .unset, .unset, .unset, .unset, .unset, .unset] [(.ref va1), (.ref b_1), (.ref b9)])) rfl (by rw [hml]; rfl) (Steps.refl _) (argsL := [(.ref b_1), (.ref va1)]) (rest := []) (lenOf pd__Ljava_lang_String_Ljava_lang_Object__Lcom_example_isogloss_isogloss_util_PersistentMap_ rfl) rfl (by show 2 * 0 + _ ≤ _; exact Nat.le_of_eq rfl) (hb hby at_72) (fun _ _ => ⟨rfl, eh13, (by decide : 13 + 11 ≤ _), (by decide : 27 + 53 ≤ _)⟩)
    dsimp only [Pt.U, Pt.locs, Pt.cells, Pt.slots] at X20 l20 y20 zz20 st20 hQ20
    subst y20 zz20
    obtain ⟨b_20, t_20, w2_20, bs_20, rfl, N20q, Kc20, r0_20, r1_20, r2_20, r3_20, r4_20, hT_20, hC_20⟩ := hQ20
    have N20 : Fr n0 L20 := Eq.mpr (congrArg (Fr n0) l20) (Fr.app N13 N20q)
    have ge_b_20 : n0 ≤ b_20 := Nat.le_trans (own_oz O12) r0_20
    have sz_b_20 : h0.size ≤ b_20 := Nat.le_trans K12.1 r0_20
    have O21 : Old Z n0 T20.heap := O12.keep Kc20 all0
    have K21 : Keep h0 T20.heap [] := K12.trans Kc20 all0
    refine Gl.tr (B := (T20.setTop (mkF m 75 #[.val (.int p1), .val (.int p2), .val (.int p3), .val (.int k1), .val (.int k2), .val (.int k3), .val (.int k4), .val (.ref b_1), .val (.ref b_3), .val (.ref b_5), .val (.ref b_7), .val (.ref b9), .unset, .unset, .unset, .unset, .unset, .unset, .unset, .unset, .unset, .unset, .unset, .unset, .unset, .unset, .unset, .unset, .unset, .unset] [(.ref b_20)]))) st20 ?_
    obtain ⟨nn1, TT1, -, le1⟩ := hT_20
    have TU1 : Tree Z T20.heap 3 nn1 (.ref t_20) (fun k => k = ((97 : Int32) + k1)) := (TT1.iff (fun k => by simp)).fuel (by omega)
    refine Gl.step (B := (T20.setTop (mkF m 82 #[.val (.int p1), .val (.int p2), .val (.int p3), .val (.int k1), .val (.int k2), .val (.int k3), .val (.int k4), .val (.ref b_1), .val (.ref b_3), .val (.ref b_5), .val (.ref b_7), .val (.ref b9), .val (.ref b_20), .unset, .unset, .unset, .unset, .unset, .unset, .unset, .unset, .unset, .unset, .unset, .unset, .unset, .unset, .unset, .unset, .unset] [(.int (2 : Int32)), (.ref b_3), (.ref b_20)]))) (fun t k => XS.astore X20.here hx rfl (hb hby at_75) rfl rfl (l' := #[.val (.int p1), .val (.int p2), .val (.int p3), .val (.int k1), .val (.int k2), .val (.int k3), .val (.int k4), .val (.ref b_1), .val (.ref b_3), .val (.ref b_5), .val (.ref b_7), .val (.ref b9), .val (.ref b_20), .unset, .unset, .unset, .unset, .unset, .unset, .unset, .unset, .unset, .unset, .unset, .unset, .unset, .unset, .unset, .unset, .unset]) rfl (XS.aload X20.here hx rfl (hb hby at_77) rfl rfl (XS.aload X20.here hx rfl (hb hby at_79) rfl rfl (XS.iconst X20.here hx rfl (hb hby at_81) k)))) ?_
    obtain ⟨_, _, ⟨T22, L22, c22, z22⟩, -, X22, ⟨Lc22, hQ22, l22, y22, zz22⟩, st22⟩ := Jvm.LawKit.callS X20 hx (y := y12) hown (mvT hZ (t50 hw)) (mvT hZ (t51 hw)) (mvT hZ (t52 hw)) (mvT hZ (t53 hw)) (by decide) (backOf (W := 2) (rval l Z a0 hw [] (2 : Int32) va2 ca cl T20.heap n0 O21 pm2 pm3 (hA) (by decide) (by decide) (hin2) (hat2)) hZ (t53 hw) (t52 hw) (by decide) (by decide)) (g := (mkF m 82 #[.val (.int p1), .val (.int p2), .val (.int p3), .val (.int k1), .val (.int k2), .val (.int k3), .val (.int k4), .val (.ref b_1), .val (.ref b_3), .val (.ref b_5), .val (.ref b_7), .val (.ref b9), .val (.ref b_20), .unset, .unset, .unset, .unset, .unset, .unset, .unset, .unset, .unset, .unset, .unset, .unset, .unset, .unset, .unset, .unset, .unset] [(.int (2 : Int32)), (.ref b_3), (.ref b_20)])) rfl (by rw [hml]; rfl) (argsL := [(.int (2 : Int32))]) (rest := [(.ref b_3), (.ref b_20)]) (lenOf pd__I_Ljava_lang_Integer_ rfl) rfl (by show 2 * 0 + _ ≤ _; exact Nat.le_of_eq rfl) (hb hby at_82) (fun _ _ => ⟨rfl, rfl, (by decide : 24 + 0 ≤ _), (by decide : 80 + 0 ≤ _)⟩)
    dsimp only [Pt.U, Pt.locs, Pt.cells, Pt.slots] at X22 l22 y22 zz22 st22 hQ22
    subst y22 zz22
    obtain ⟨rfl, N22q, eh22⟩ := hQ22
    have N22 : Fr n0 L22 := Eq.mpr (congrArg (Fr n0) l22) (Fr.app N20 N22q)
    refine Gl.step (B := (T22.setTop (mkF m 85 #[.val (.int p1), .val (.int p2), .val (.int p3), .val (.int k1), .val (.int k2), .val (.int k3), .val (.int k4), .val (.ref b_1), .val (.ref b_3), .val (.ref b_5), .val (.ref b_7), .val (.ref b9), .val (.ref b_20), .unset, .unset, .unset, .unset, .unset, .unset, .unset, .unset, .unset, .unset, .unset, .unset, .unset, .unset, .unset, .unset, .unset] [(.ref va2), (.ref b_3), (.ref b_20)]))) st22 ?_
    have cu23 : Keep T3.heap T5.heap [] := (Keep.refl T3.heap []).trans Kc5 all0
    have cu24 : Keep T3.heap T7.heap [] := cu23.trans Kc7 all0
    have cu25 : Keep T3.heap h9 [] := cu24.ext E9
    have cu26 : Keep T3.heap T11.heap [] := cu25.trans Kc11 (allS (Or.inr (Nat.le_trans cu24.1 (Nat.le_of_eq g9.symm))) all0)
    have cu27 : Keep T3.heap T20.heap [] := cu26.trans Kc20 all0
    have f28 := (r1_3.ext (own_ke cu27))
    obtain ⟨cq29, kq29, q29a, q29b, q29c⟩ := isOf hZ eh22 r1_20
    obtain ⟨_, _, ⟨T29, L29, c29, z29⟩, -, X29, ⟨Lc29, hQ29, l29, y29, zz29⟩, st29⟩ := X22.virtualBack hx (y := y18) (z := y18) hown (mvT hZ (t57 hw)) (mvT hZ (t58 hw)) (notFace_of_selects (args := #[]) (mvT hZ (t60 hw))) (mvT hZ (t60 hw)) (mvT hZ (t59 hw)) (by decide) (backOf (W := 0) (rwith l Z a0 hw [] b_20 b_3 va2 (.ref t_20) nn1 ((97 : Int32) + k2) (fun k => k = ((97 : Int32) + k1)) zc w2_20 T20.heap n0 O21 pm0 (hz) r1_20 r2_20 r3_20 f28 (own_ky hr2) TU1) hZ (t61 hw) (t36 hw) (by decide) (by decide)) q29a q29c (g := (mkF m 85 #[.val (.int p1), .val (.int p2), .val (.int p3), .val (.int k1), .val (.int k2), .val (.int k3), .val (.int k4), .val (.ref b_1), .val (.ref b_3), .val (.ref b_5), .val (.ref b_7), .val (.ref b9), .val (.ref b_20), .unset, .unset, .unset, .unset, .unset, .unset, .unset, .unset, .unset, .unset, .unset, .unset, .unset, .unset, .unset, .unset, .unset] [(.ref va2), (.ref b_3), (.ref b_20)])) rfl (by rw [hml]; rfl) (Steps.refl _) (argsL := [(.ref b_3), (.ref va2)]) (rest := []) (lenOf pd__Ljava_lang_String_Ljava_lang_Object__Lcom_example_isogloss_isogloss_util_PersistentMap_ rfl) rfl (by show 2 * 0 + _ ≤ _; exact Nat.le_of_eq rfl) (hb hby at_85) (fun _ _ => ⟨rfl, eh22, (by decide : 24 + 11 ≤ _), (by decide : 80 + 53 ≤ _)⟩)
    dsimp only [Pt.U, Pt.locs, Pt.cells, Pt.slots] at X29 l29 y29 zz29 st29 hQ29
    subst y29 zz29
    obtain ⟨b_29, t_29, w2_29, bs_29, rfl, N29q, Kc29, r0_29, r1_29, r2_29, r3_29, r4_29, hT_29, hC_29⟩ := hQ29
    have N29 : Fr n0 L29 := Eq.mpr (congrArg (Fr n0) l29) (Fr.app N22 N29q)
    have ge_b_29 : n0 ≤ b_29 := Nat.le_trans (own_oz O21) r0_29
    have sz_b_29 : h0.size ≤ b_29 := Nat.le_trans K21.1 r0_29
    have O30 : Old Z n0 T29.heap := O21.keep Kc29 all0
    have K30 : Keep h0 T29.heap [] := K21.trans Kc29 all0
    refine Gl.tr (B := (T29.setTop (mkF m 88 #[.val (.int p1), .val (.int p2), .val (.int p3), .val (.int k1), .val (.int k2), .val (.int k3), .val (.int k4), .val (.ref b_1), .val (.ref b_3), .val (.ref b_5), .val (.ref b_7), .val (.ref b9), .val (.ref b_20), .unset, .unset, .unset, .unset, .unset, .unset, .unset, .unset, .unset, .unset, .unset, .unset, .unset, .unset, .unset, .unset, .unset] [(.ref b_29)]))) st29 ?_
    obtain ⟨nn2, TT2, -, le2⟩ := hT_29
    have TU2 : Tree Z T29.heap 3 nn2 (.ref t_29) (fun k => k = ((97 : Int32) + k2) ∨ k = ((97 : Int32) + k1)) := TT2.fuel (by omega)
    refine Gl.step (B := (T29.setTop (mkF m 95 #[.val (.int p1), .val (.int p2), .val (.int p3), .val (.int k1), .val (.int k2), .val (.int k3), .val (.int k4), .val (.ref b_1), .val (.ref b_3), .val (.ref b_5), .val (.ref b_7), .val (.ref b9), .val (.ref b_20), .val (.ref b_29), .unset, .unset, .unset, .unset, .unset, .unset, .unset, .unset, .unset, .unset, .unset, .unset, .unset, .unset, .unset, .unset] [(.int (3 : Int32)), (.ref b_5), (.ref b_29)]))) (fun t k => XS.astore X29.here hx rfl (hb hby at_88) rfl rfl (l' := #[.val (.int p1), .val (.int p2), .val (.int p3), .val (.int k1), .val (.int k2), .val (.int k3), .val (.int k4), .val (.ref b_1), .val (.ref b_3), .val (.ref b_5), .val (.ref b_7), .val (.ref b9), .val (.ref b_20), .val (.ref b_29), .unset, .unset, .unset, .unset, .unset, .unset, .unset, .unset, .unset, .unset, .unset, .unset, .unset, .unset, .unset, .unset]) rfl (XS.aload X29.here hx rfl (hb hby at_90) rfl rfl (XS.aload X29.here hx rfl (hb hby at_92) rfl rfl (XS.iconst X29.here hx rfl (hb hby at_94) k)))) ?_
    obtain ⟨_, _, ⟨T31, L31, c31, z31⟩, -, X31, ⟨Lc31, hQ31, l31, y31, zz31⟩, st31⟩ := Jvm.LawKit.callS X29 hx (y := y12) hown (mvT hZ (t50 hw)) (mvT hZ (t51 hw)) (mvT hZ (t52 hw)) (mvT hZ (t53 hw)) (by decide) (backOf (W := 2) (rval l Z a0 hw [] (3 : Int32) va3 ca cl T29.heap n0 O30 pm2 pm3 (hA) (by decide) (by decide) (hin3) (hat3)) hZ (t53 hw) (t52 hw) (by decide) (by decide)) (g := (mkF m 95 #[.val (.int p1), .val (.int p2), .val (.int p3), .val (.int k1), .val (.int k2), .val (.int k3), .val (.int k4), .val (.ref b_1), .val (.ref b_3), .val (.ref b_5), .val (.ref b_7), .val (.ref b9), .val (.ref b_20), .val (.ref b_29), .unset, .unset, .unset, .unset, .unset, .unset, .unset, .unset, .unset, .unset, .unset, .unset, .unset, .unset, .unset, .unset] [(.int (3 : Int32)), (.ref b_5), (.ref b_29)])) rfl (by rw [hml]; rfl) (argsL := [(.int (3 : Int32))]) (rest := [(.ref b_5), (.ref b_29)]) (lenOf pd__I_Ljava_lang_Integer_ rfl) rfl (by show 2 * 0 + _ ≤ _; exact Nat.le_of_eq rfl) (hb hby at_95) (fun _ _ => ⟨rfl, rfl, (by decide : 35 + 0 ≤ _), (by decide : 133 + 0 ≤ _)⟩)
    dsimp only [Pt.U, Pt.locs, Pt.cells, Pt.slots] at X31 l31 y31 zz31 st31 hQ31
    subst y31 zz31
    obtain ⟨rfl, N31q, eh31⟩ := hQ31
    have N31 : Fr n0 L31 := Eq.mpr (congrArg (Fr n0) l31) (Fr.app N29 N31q)
    refine Gl.step (B := (T31.setTop (mkF m 98 #[.val (.int p1), .val (.int p2), .val (.int p3), .val (.int k1), .val (.int k2), .val (.int k3), .val (.int k4), .val (.ref b_1), .val (.ref b_3), .val (.ref b_5), .val (.ref b_7), .val (.ref b9), .val (.ref b_20), .val (.ref b_29), .unset, .unset, .unset, .unset, .unset, .unset, .unset, .unset, .unset, .unset, .unset, .unset, .unset, .unset, .unset, .unset] [(.ref va3), (.ref b_5), (.ref b_29)]))) st31 ?_
    have cu32 : Keep T5.heap T7.heap [] := (Keep.refl T5.heap []).trans Kc7 all0
    have cu33 : Keep T5.heap h9 [] := cu32.ext E9
    have cu34 : Keep T5.heap T11.heap [] := cu33.trans Kc11 (allS (Or.inr (Nat.le_trans cu32.1 (Nat.le_of_eq g9.symm))) all0)
    have cu35 : Keep T5.heap T20.heap [] := cu34.trans Kc20 all0
    have cu36 : Keep T5.heap T29.heap [] := cu35.trans Kc29 all0
    have f37 := (r1_5.ext (own_ke cu36))
    obtain ⟨cq38, kq38, q38a, q38b, q38c⟩ := isOf hZ eh31 r1_29
    obtain ⟨_, _, ⟨T38, L38, c38, z38⟩, -, X38, ⟨Lc38, hQ38, l38, y38, zz38⟩, st38⟩ := X31.virtualBack hx (y := y18) (z := y18) hown (mvT hZ (t57 hw)) (mvT hZ (t58 hw)) (notFace_of_selects (args := #[]) (mvT hZ (t60 hw))) (mvT hZ (t60 hw)) (mvT hZ (t59 hw)) (by decide) (backOf (W := 0) (rwith l Z a0 hw [] b_29 b_5 va3 (.ref t_29) nn2 ((97 : Int32) + k3) (fun k => k = ((97 : Int32) + k2) ∨ k = ((97 : Int32) + k1)) zc w2_29 T29.heap n0 O30 pm0 (hz) r1_29 r2_29 r3_29 f37 (own_ky hr3) TU2) hZ (t61 hw) (t36 hw) (by decide) (by decide)) q38a q38c (g := (mkF m 98 #[.val (.int p1), .val (.int p2), .val (.int p3), .val (.int k1), .val (.int k2), .val (.int k3), .val (.int k4), .val (.ref b_1), .val (.ref b_3), .val (.ref b_5), .val (.ref b_7), .val (.ref b9), .val (.ref b_20), .val (.ref b_29), .unset, .unset, .unset, .unset, .unset, .unset, .unset, .unset, .unset, .unset, .unset, .unset, .unset, .unset, .unset, .unset] [(.ref va3), (.ref b_5), (.ref b_29)])) rfl (by rw [hml]; rfl) (Steps.refl _) (argsL := [(.ref b_5), (.ref va3)]) (rest := []) (lenOf pd__Ljava_lang_String_Ljava_lang_Object__Lcom_example_isogloss_isogloss_util_PersistentMap_ rfl) rfl (by show 2 * 0 + _ ≤ _; exact Nat.le_of_eq rfl) (hb hby at_98) (fun _ _ => ⟨rfl, eh31, (by decide : 35 + 11 ≤ _), (by decide : 133 + 53 ≤ _)⟩)
    dsimp only [Pt.U, Pt.locs, Pt.cells, Pt.slots] at X38 l38 y38 zz38 st38 hQ38
    subst y38 zz38
    obtain ⟨b_38, t_38, w2_38, bs_38, rfl, N38q, Kc38, r0_38, r1_38, r2_38, r3_38, r4_38, hT_38, hC_38⟩ := hQ38
    have N38 : Fr n0 L38 := Eq.mpr (congrArg (Fr n0) l38) (Fr.app N31 N38q)
    have ge_b_38 : n0 ≤ b_38 := Nat.le_trans (own_oz O30) r0_38
    have sz_b_38 : h0.size ≤ b_38 := Nat.le_trans K30.1 r0_38
    have O39 : Old Z n0 T38.heap := O30.keep Kc38 all0
    have K39 : Keep h0 T38.heap [] := K30.trans Kc38 all0
    refine Gl.tr (B := (T38.setTop (mkF m 101 #[.val (.int p1), .val (.int p2), .val (.int p3), .val (.int k1), .val (.int k2), .val (.int k3), .val (.int k4), .val (.ref b_1), .val (.ref b_3), .val (.ref b_5), .val (.ref b_7), .val (.ref b9), .val (.ref b_20), .val (.ref b_29), .unset, .unset, .unset, .unset, .unset, .unset, .unset, .unset, .unset, .unset, .unset, .unset, .unset, .unset, .unset, .unset] [(.ref b_38)]))) st38 ?_
    obtain ⟨nn3, TT3, -, le3⟩ := hT_38
    have TU3 : Tree Z T38.heap 3 nn3 (.ref t_38) (fun k => k = ((97 : Int32) + k3) ∨ k = ((97 : Int32) + k2) ∨ k = ((97 : Int32) + k1)) := TT3.fuel (by omega)
    refine Gl.step (B := (T38.setTop (mkF m 108 #[.val (.int p1), .val (.int p2), .val (.int p3), .val (.int k1), .val (.int k2), .val (.int k3), .val (.int k4), .val (.ref b_1), .val (.ref b_3), .val (.ref b_5), .val (.ref b_7), .val (.ref b9), .val (.ref b_20), .val (.ref b_29), .val (.ref b_38), .unset, .unset, .unset, .unset, .unset, .unset, .unset, .unset, .unset, .unset, .unset, .unset, .unset, .unset, .unset] [(.int (4 : Int32)), (.ref b_7), (.ref b_38)]))) (fun t k => XS.astore X38.here hx rfl (hb hby at_101) rfl rfl (l' := #[.val (.int p1), .val (.int p2), .val (.int p3), .val (.int k1), .val (.int k2), .val (.int k3), .val (.int k4), .val (.ref b_1), .val (.ref b_3), .val (.ref b_5), .val (.ref b_7), .val (.ref b9), .val (.ref b_20), .val (.ref b_29), .val (.ref b_38), .unset, .unset, .unset, .unset, .unset, .unset, .unset, .unset, .unset, .unset, .unset, .unset, .unset, .unset, .unset]) rfl (XS.aload X38.here hx rfl (hb hby at_103) rfl rfl (XS.aload X38.here hx rfl (hb hby at_105) rfl rfl (XS.iconst X38.here hx rfl (hb hby at_107) k)))) ?_
    obtain ⟨_, _, ⟨T40, L40, c40, z40⟩, -, X40, ⟨Lc40, hQ40, l40, y40, zz40⟩, st40⟩ := Jvm.LawKit.callS X38 hx (y := y12) hown (mvT hZ (t50 hw)) (mvT hZ (t51 hw)) (mvT hZ (t52 hw)) (mvT hZ (t53 hw)) (by decide) (backOf (W := 2) (rval l Z a0 hw [] (4 : Int32) va4 ca cl T38.heap n0 O39 pm2 pm3 (hA) (by decide) (by decide) (hin4) (hat4)) hZ (t53 hw) (t52 hw) (by decide) (by decide)) (g := (mkF m 108 #[.val (.int p1), .val (.int p2), .val (.int p3), .val (.int k1), .val (.int k2), .val (.int k3), .val (.int k4), .val (.ref b_1), .val (.ref b_3), .val (.ref b_5), .val (.ref b_7), .val (.ref b9), .val (.ref b_20), .val (.ref b_29), .val (.ref b_38), .unset, .unset, .unset, .unset, .unset, .unset, .unset, .unset, .unset, .unset, .unset, .unset, .unset, .unset, .unset] [(.int (4 : Int32)), (.ref b_7), (.ref b_38)])) rfl (by rw [hml]; rfl) (argsL := [(.int (4 : Int32))]) (rest := [(.ref b_7), (.ref b_38)]) (lenOf pd__I_Ljava_lang_Integer_ rfl) rfl (by show 2 * 0 + _ ≤ _; exact Nat.le_of_eq rfl) (hb hby at_108) (fun _ _ => ⟨rfl, rfl, (by decide : 46 + 0 ≤ _), (by decide : 186 + 0 ≤ _)⟩)
    dsimp only [Pt.U, Pt.locs, Pt.cells, Pt.slots] at X40 l40 y40 zz40 st40 hQ40
    subst y40 zz40
    obtain ⟨rfl, N40q, eh40⟩ := hQ40
    have N40 : Fr n0 L40 := Eq.mpr (congrArg (Fr n0) l40) (Fr.app N38 N40q)
    refine Gl.step (B := (T40.setTop (mkF m 111 #[.val (.int p1), .val (.int p2), .val (.int p3), .val (.int k1), .val (.int k2), .val (.int k3), .val (.int k4), .val (.ref b_1), .val (.ref b_3), .val (.ref b_5), .val (.ref b_7), .val (.ref b9), .val (.ref b_20), .val (.ref b_29), .val (.ref b_38), .unset, .unset, .unset, .unset, .unset, .unset, .unset, .unset, .unset, .unset, .unset, .unset, .unset, .unset, .unset] [(.ref va4), (.ref b_7), (.ref b_38)]))) st40 ?_
    have cu41 : Keep T7.heap h9 [] := (Keep.refl T7.heap []).ext E9
    have cu42 : Keep T7.heap T11.heap [] := cu41.trans Kc11 (allS (Or.inr (Nat.le_trans (Keep.refl T7.heap []).1 (Nat.le_of_eq g9.symm))) all0)
    have cu43 : Keep T7.heap T20.heap [] := cu42.trans Kc20 all0
    have cu44 : Keep T7.heap T29.heap [] := cu43.trans Kc29 all0
    have cu45 : Keep T7.heap T38.heap [] := cu44.trans Kc38 all0
    have f46 := (r1_7.ext (own_ke cu45))
    obtain ⟨cq47, kq47, q47a, q47b, q47c⟩ := isOf hZ eh40 r1_38
    obtain ⟨_, _, ⟨T47, L47, c47, z47⟩, -, X47, ⟨Lc47, hQ47, l47, y47, zz47⟩, st47⟩ := X40.virtualBack hx (y := y18) (z := y18) hown (mvT hZ (t57 hw)) (mvT hZ (t58 hw)) (notFace_of_selects (args := #[]) (mvT hZ (t60 hw))) (mvT hZ (t60 hw)) (mvT hZ (t59 hw)) (by decide) (backOf (W := 0) (rwith l Z a0 hw [] b_38 b_7 va4 (.ref t_38) nn3 ((97 : Int32) + k4) (fun k => k = ((97 : Int32) + k3) ∨ k = ((97 : Int32) + k2) ∨ k = ((97 : Int32) + k1)) zc w2_38 T38.heap n0 O39 pm0 (hz) r1_38 r2_38 r3_38 f46 (own_ky hr4) TU3) hZ (t61 hw) (t36 hw) (by decide) (by decide)) q47a q47c (g := (mkF m 111 #[.val (.int p1), .val (.int p2), .val (.int p3), .val (.int k1), .val (.int k2), .val (.int k3), .val (.int k4), .val (.ref b_1), .val (.ref b_3), .val (.ref b_5), .val (.ref b_7), .val (.ref b9), .val (.ref b_20), .val (.ref b_29), .val (.ref b_38), .unset, .unset, .unset, .unset, .unset, .unset, .unset, .unset, .unset, .unset, .unset, .unset, .unset, .unset, .unset] [(.ref va4), (.ref b_7), (.ref b_38)])) rfl (by rw [hml]; rfl) (Steps.refl _) (argsL := [(.ref b_7), (.ref va4)]) (rest := []) (lenOf pd__Ljava_lang_String_Ljava_lang_Object__Lcom_example_isogloss_isogloss_util_PersistentMap_ rfl) rfl (by show 2 * 0 + _ ≤ _; exact Nat.le_of_eq rfl) (hb hby at_111) (fun _ _ => ⟨rfl, eh40, (by decide : 46 + 11 ≤ _), (by decide : 186 + 53 ≤ _)⟩)
    dsimp only [Pt.U, Pt.locs, Pt.cells, Pt.slots] at X47 l47 y47 zz47 st47 hQ47
    subst y47 zz47
    obtain ⟨b_47, t_47, w2_47, bs_47, rfl, N47q, Kc47, r0_47, r1_47, r2_47, r3_47, r4_47, hT_47, hC_47⟩ := hQ47
    have N47 : Fr n0 L47 := Eq.mpr (congrArg (Fr n0) l47) (Fr.app N40 N47q)
    have ge_b_47 : n0 ≤ b_47 := Nat.le_trans (own_oz O39) r0_47
    have sz_b_47 : h0.size ≤ b_47 := Nat.le_trans K39.1 r0_47
    have O48 : Old Z n0 T47.heap := O39.keep Kc47 all0
    have K48 : Keep h0 T47.heap [] := K39.trans Kc47 all0
    refine Gl.tr (B := (T47.setTop (mkF m 114 #[.val (.int p1), .val (.int p2), .val (.int p3), .val (.int k1), .val (.int k2), .val (.int k3), .val (.int k4), .val (.ref b_1), .val (.ref b_3), .val (.ref b_5), .val (.ref b_7), .val (.ref b9), .val (.ref b_20), .val (.ref b_29), .val (.ref b_38), .unset, .unset, .unset, .unset, .unset, .unset, .unset, .unset, .unset, .unset, .unset, .unset, .unset, .unset, .unset] [(.ref b_47)]))) st47 ?_
    refine Gl.step (B := (T47.setTop (mkF m 116 #[.val (.int p1), .val (.int p2), .val (.int p3), .val (.int k1), .val (.int k2), .val (.int k3), .val (.int k4), .val (.ref b_1), .val (.ref b_3), .val (.ref b_5), .val (.ref b_7), .val (.ref b9), .val (.ref b_20), .val (.ref b_29), .val (.ref b_38), .val (.ref b_47), .unset, .unset, .unset, .unset, .unset, .unset, .unset, .unset, .unset, .unset, .unset, .unset, .unset, .unset] []))) (fun t k => XS.astore X47.here hx rfl (hb hby at_114) rfl rfl (l' := #[.val (.int p1), .val (.int p2), .val (.int p3), .val (.int k1), .val (.int k2), .val (.int k3), .val (.int k4), .val (.ref b_1), .val (.ref b_3), .val (.ref b_5), .val (.ref b_7), .val (.ref b9), .val (.ref b_20), .val (.ref b_29), .val (.ref b_38), .val (.ref b_47), .unset, .unset, .unset, .unset, .unset, .unset, .unset, .unset, .unset, .unset, .unset, .unset, .unset, .unset]) rfl k) ?_
    obtain ⟨T49, h49, X49, e49, E49, A49, D49, -, st49⟩ := newO X47 hx hZ hown (t34 hw) (t35 hw) (t36 hw) rfl (g := (mkF m 116 #[.val (.int p1), .val (.int p2), .val (.int p3), .val (.int k1), .val (.int k2), .val (.int k3), .val (.int k4), .val (.ref b_1), .val (.ref b_3), .val (.ref b_5), .val (.ref b_7), .val (.ref b9), .val (.ref b_20), .val (.ref b_29), .val (.ref b_38), .val (.ref b_47), .unset, .unset, .unset, .unset, .unset, .unset, .unset, .unset, .unset, .unset, .unset, .unset, .unset, .unset] [])) rfl (hb hby at_116) (by decide) (by decide)
    obtain ⟨b49, g49⟩ : ∃ z, z = T47.heap.size := ⟨_, rfl⟩
    rw [← g49] at A49 D49 st49
    have ge_b49 : n0 ≤ b49 := Nat.le_trans (own_oz O48) (Nat.le_of_eq g49.symm)
    have sz_b49 : h0.size ≤ b49 := Nat.le_trans K48.1 (Nat.le_of_eq g49.symm)
    have O50 : Old Z n0 h49 := O48.ext E49
    have K50 : Keep h0 h49 [] := K48.ext E49
    have F49_root : Fld Z h49 b49 own_PM "root" own_LN .null := D49 (Or.inr (t45 hw)) (ty := (.object "com/example/isogloss/isogloss/util/PersistentMap$Node")) (by decide)
    have F49_size : Fld Z h49 b49 own_PM "size" "I" (.int (0 : Int32)) := D49 (Or.inr (t47 hw)) (ty := .int) (by decide)
    have F49_base : Fld Z h49 b49 own_PM "base" own_LP .null := D49 (Or.inr (t49 hw)) (ty := (.object "com/example/isogloss/isogloss/util/PersistentMap")) (by decide)
    refine Gl.step (B := (T49.setTop (mkF m 119 #[.val (.int p1), .val (.int p2), .val (.int p3), .val (.int k1), .val (.int k2), .val (.int k3), .val (.int k4), .val (.ref b_1), .val (.ref b_3), .val (.ref b_5), .val (.ref b_7), .val (.ref b9), .val (.ref b_20), .val (.ref b_29), .val (.ref b_38), .val (.ref b_47), .unset, .unset, .unset, .unset, .unset, .unset, .unset, .unset, .unset, .unset, .unset, .unset, .unset, .unset] [(.ref b49)]))) st49 ?_
    refine Gl.step (B := (T49.setTop (mkF m 120 #[.val (.int p1), .val (.int p2), .val (.int p3), .val (.int k1), .val (.int k2), .val (.int k3), .val (.int k4), .val (.ref b_1), .val (.ref b_3), .val (.ref b_5), .val (.ref b_7), .val (.ref b9), .val (.ref b_20), .val (.ref b_29), .val (.ref b_38), .val (.ref b_47), .unset, .unset, .unset, .unset, .unset, .unset, .unset, .unset, .unset, .unset, .unset, .unset, .unset, .unset] [(.ref b49), (.ref b49)]))) (fun t k => XS.dup X49.here hx rfl (hb hby at_119) rfl rfl k) ?_
    obtain ⟨_, _, ⟨T51, L51, c51, z51⟩, -, X51, ⟨Lc51, hQ51, l51, y51, zz51⟩, st51⟩ := X49.specialBack hx (y := y14) rfl hown (mvT hZ (t37 hw)) (mvT hZ (t38 hw)) (mvT hZ (t39 hw)) (by decide) (backOf (W := 1) (ri0 l Z a0 hw [] b49 h49 n0 O50 A49 F49_root F49_size F49_base ge_b49) hZ (t39 hw) (t36 hw) (by decide) (by decide)) (g := (mkF m 120 #[.val (.int p1), .val (.int p2), .val (.int p3), .val (.int k1), .val (.int k2), .val (.int k3), .val (.int k4), .val (.ref b_1), .val (.ref b_3), .val (.ref b_5), .val (.ref b_7), .val (.ref b9), .val (.ref b_20), .val (.ref b_29), .val (.ref b_38), .val (.ref b_47), .unset, .unset, .unset, .unset, .unset, .unset, .unset, .unset, .unset, .unset, .unset, .unset, .unset, .unset] [(.ref b49), (.ref b49)])) rfl (by rw [hml]; rfl) (Steps.refl _) (a := b49) (argsL := []) (rest := [(.ref b49)]) (lenOf pd___V rfl) rfl (by show 2 * 0 + _ ≤ _; exact Nat.le_of_eq rfl) (hb hby at_120) (fun _ _ => ⟨rfl, e49, (by decide : 58 + 0 ≤ _), (by decide : 242 + 0 ≤ _)⟩)
    dsimp only [Pt.U, Pt.locs, Pt.cells, Pt.slots] at X51 l51 y51 zz51 st51 hQ51
    subst y51 zz51
    obtain ⟨rfl, N51q, Kc51, r0_51, r1_51, r2_51, r3_51⟩ := hQ51
    have N51 : Fr n0 L51 := Eq.mpr (congrArg (Fr n0) l51) (Fr.app N47 N51q)
    have O52 : Old Z n0 T51.heap := O50.keep Kc51 (allS ge_b49 all0)
    have K52 : Keep h0 T51.heap [] := K50.trans Kc51 (allS (Or.inr sz_b49) all0)
    refine Gl.tr (B := (T51.setTop (mkF m 123 #[.val (.int p1), .val (.int p2), .val (.int p3), .val (.int k1), .val (.int k2), .val (.int k3), .val (.int k4), .val (.ref b_1), .val (.ref b_3), .val (.ref b_5), .val (.ref b_7), .val (.ref b9), .val (.ref b_20), .val (.ref b_29), .val (.ref b_38), .val (.ref b_47), .unset, .unset, .unset, .unset, .unset, .unset, .unset, .unset, .unset, .unset, .unset, .unset, .unset, .unset] [(.ref b49)]))) st51 ?_
    refine Gl.step (B := (T51.setTop (mkF m 130 #[.val (.int p1), .val (.int p2), .val (.int p3), .val (.int k1), .val (.int k2), .val (.int k3), .val (.int k4), .val (.ref b_1), .val (.ref b_3), .val (.ref b_5), .val (.ref b_7), .val (.ref b9), .val (.ref b_20), .val (.ref b_29), .val (.ref b_38), .val (.ref b_47), .val (.ref b49), .unset, .unset, .unset, .unset, .unset, .unset, .unset, .unset, .unset, .unset, .unset, .unset, .unset] [(.int (1 : Int32)), (.ref b_1), (.ref b49)]))) (fun t k => XS.astore X51.here hx rfl (hb hby at_123) rfl rfl (l' := #[.val (.int p1), .val (.int p2), .val (.int p3), .val (.int k1), .val (.int k2), .val (.int k3), .val (.int k4), .val (.ref b_1), .val (.ref b_3), .val (.ref b_5), .val (.ref b_7), .val (.ref b9), .val (.ref b_20), .val (.ref b_29), .val (.ref b_38), .val (.ref b_47), .val (.ref b49), .unset, .unset, .unset, .unset, .unset, .unset, .unset, .unset, .unset, .unset, .unset, .unset, .unset]) rfl (XS.aload X51.here hx rfl (hb hby at_125) rfl rfl (XS.aload X51.here hx rfl (hb hby at_127) rfl rfl (XS.iconst X51.here hx rfl (hb hby at_129) k)))) ?_
    obtain ⟨_, _, ⟨T53, L53, c53, z53⟩, -, X53, ⟨Lc53, hQ53, l53, y53, zz53⟩, st53⟩ := Jvm.LawKit.callS X51 hx (y := y12) hown (mvT hZ (t50 hw)) (mvT hZ (t51 hw)) (mvT hZ (t52 hw)) (mvT hZ (t53 hw)) (by decide) (backOf (W := 2) (rval l Z a0 hw [] (1 : Int32) va1 ca cl T51.heap n0 O52 pm2 pm3 (hA) (by decide) (by decide) (hin1) (hat1)) hZ (t53 hw) (t52 hw) (by decide) (by decide)) (g := (mkF m 130 #[.val (.int p1), .val (.int p2), .val (.int p3), .val (.int k1), .val (.int k2), .val (.int k3), .val (.int k4), .val (.ref b_1), .val (.ref b_3), .val (.ref b_5), .val (.ref b_7), .val (.ref b9), .val (.ref b_20), .val (.ref b_29), .val (.ref b_38), .val (.ref b_47), .val (.ref b49), .unset, .unset, .unset, .unset, .unset, .unset, .unset, .unset, .unset, .unset, .unset, .unset, .unset] [(.int (1 : Int32)), (.ref b_1), (.ref b49)])) rfl (by rw [hml]; rfl) (argsL := [(.int (1 : Int32))]) (rest := [(.ref b_1), (.ref b49)]) (lenOf pd__I_Ljava_lang_Integer_ rfl) rfl (by show 2 * 0 + _ ≤ _; exact Nat.le_of_eq rfl) (hb hby at_130) (fun _ _ => ⟨rfl, rfl, (by decide : 58 + 0 ≤ _), (by decide : 242 + 0 ≤ _)⟩)
    dsimp only [Pt.U, Pt.locs, Pt.cells, Pt.slots] at X53 l53 y53 zz53 st53 hQ53
    subst y53 zz53
    obtain ⟨rfl, N53q, eh53⟩ := hQ53
    have N53 : Fr n0 L53 := Eq.mpr (congrArg (Fr n0) l53) (Fr.app N51 N53q)
    refine Gl.step (B := (T53.setTop (mkF m 133 #[.val (.int p1), .val (.int p2), .val (.int p3), .val (.int k1), .val (.int k2), .val (.int k3), .val (.int k4), .val (.ref b_1), .val (.ref b_3), .val (.ref b_5), .val (.ref b_7), .val (.ref b9), .val (.ref b_20), .val (.ref b_29), .val (.ref b_38), .val (.ref b_47), .val (.ref b49), .unset, .unset, .unset, .unset, .unset, .unset, .unset, .unset, .unset, .unset, .unset, .unset, .unset] [(.ref va1), (.ref b_1), (.ref b49)]))) st53 ?_
    have cu54 : Keep T11.heap T20.heap [] := (Keep.refl T11.heap []).trans Kc20 all0
    have cu55 : Keep T11.heap T29.heap [] := cu54.trans Kc29 all0
    have cu56 : Keep T11.heap T38.heap [] := cu55.trans Kc38 all0
    have cu57 : Keep T11.heap T47.heap [] := cu56.trans Kc47 all0
    have cu58 : Keep T11.heap h49 [] := cu57.ext E49
    have cu59 : Keep T11.heap T51.heap [] := cu58.trans Kc51 (allS (Or.inr (Nat.le_trans cu57.1 (Nat.le_of_eq g49.symm))) all0)
    have f60 := (f19.ext (own_ke cu59))
    obtain ⟨cq61, kq61, q61a, q61b, q61c⟩ := isOf hZ eh53 r0_51
    obtain ⟨_, _, ⟨T61, L61, c61, z61⟩, -, X61, ⟨Lc61, hQ61, l61, y61, zz61⟩, st61⟩ := X53.virtualBack hx (y := y18) (z := y18) hown (mvT hZ (t57 hw)) (mvT hZ (t58 hw)) (notFace_of_selects (args := #[]) (mvT hZ (t60 hw))) (mvT hZ (t60 hw)) (mvT hZ (t59 hw)) (by decide) (backOf (W := 0) (rwith l Z a0 hw [] b49 b_1 va1 .null 0 ((97 : Int32) + k1) (fun _ => False) zc (0 : Int32) T51.heap n0 O52 pm0 (hz) r0_51 r1_51 r2_51 f60 (own_ky hr1) ((Or.inl ⟨rfl, rfl, fun _ q => q⟩ : Tree Z T51.heap 3 0 .null (fun _ => False)))) hZ (t61 hw) (t36 hw) (by decide) (by decide)) q61a q61c (g := (mkF m 133 #[.val (.int p1), .val (.int p2), .val (.int p3), .val (.int k1), .val (.int k2), .val (.int k3), .val (.int k4), .val (.ref b_1), .val (.ref b_3), .val (.ref b_5), .val (.ref b_7), .val (.ref b9), .val (.ref b_20), .val (.ref b_29), .val (.ref b_38), .val (.ref b_47), .val (.ref b49), .unset, .unset, .unset, .unset, .unset, .unset, .unset, .unset, .unset, .unset, .unset, .unset, .unset] [(.ref va1), (.ref b_1), (.ref b49)])) rfl (by rw [hml]; rfl) (Steps.refl _) (argsL := [(.ref b_1), (.ref va1)]) (rest := []) (lenOf pd__Ljava_lang_String_Ljava_lang_Object__Lcom_example_isogloss_isogloss_util_PersistentMap_ rfl) rfl (by show 2 * 0 + _ ≤ _; exact Nat.le_of_eq rfl) (hb hby at_133) (fun _ _ => ⟨rfl, eh53, (by decide : 58 + 11 ≤ _), (by decide : 242 + 53 ≤ _)⟩)
    dsimp only [Pt.U, Pt.locs, Pt.cells, Pt.slots] at X61 l61 y61 zz61 st61 hQ61
    subst y61 zz61
    obtain ⟨b_61, t_61, w2_61, bs_61, rfl, N61q, Kc61, r0_61, r1_61, r2_61, r3_61, r4_61, hT_61, hC_61⟩ := hQ61
    have N61 : Fr n0 L61 := Eq.mpr (congrArg (Fr n0) l61) (Fr.app N53 N61q)
    have ge_b_61 : n0 ≤ b_61 := Nat.le_trans (own_oz O52) r0_61
    have sz_b_61 : h0.size ≤ b_61 := Nat.le_trans K52.1 r0_61
    have O62 : Old Z n0 T61.heap := O52.keep Kc61 all0
    have K62 : Keep h0 T61.heap [] := K52.trans Kc61 all0
    refine Gl.tr (B := (T61.setTop (mkF m 136 #[.val (.int p1), .val (.int p2), .val (.int p3), .val (.int k1), .val (.int k2), .val (.int k3), .val (.int k4), .val (.ref b_1), .val (.ref b_3), .val (.ref b_5), .val (.ref b_7), .val (.ref b9), .val (.ref b_20), .val (.ref b_29), .val (.ref b_38), .val (.ref b_47), .val (.ref b49), .unset, .unset, .unset, .unset, .unset, .unset, .unset, .unset, .unset, .unset, .unset, .unset, .unset] [(.ref b_61)]))) st61 ?_
    refine Gl.step (B := (T61.setTop (mkF m 145 #[.val (.int p1), .val (.int p2), .val (.int p3), .val (.int k1), .val (.int k2), .val (.int k3), .val (.int k4), .val (.ref b_1), .val (.ref b_3), .val (.ref b_5), .val (.ref b_7), .val (.ref b9), .val (.ref b_20), .val (.ref b_29), .val (.ref b_38), .val (.ref b_47), .val (.ref b49), .val (.ref b_61), .unset, .unset, .unset, .unset, .unset, .unset, .unset, .unset, .unset, .unset, .unset, .unset] [(.int ((p2 &&& (2147483647 : Int32)) % (7 : Int32)))]))) (fun t k => XS.astore X61.here hx rfl (hb hby at_136) rfl rfl (l' := #[.val (.int p1), .val (.int p2), .val (.int p3), .val (.int k1), .val (.int k2), .val (.int k3), .val (.int k4), .val (.ref b_1), .val (.ref b_3), .val (.ref b_5), .val (.ref b_7), .val (.ref b9), .val (.ref b_20), .val (.ref b_29), .val (.ref b_38), .val (.ref b_47), .val (.ref b49), .val (.ref b_61), .unset, .unset, .unset, .unset, .unset, .unset, .unset, .unset, .unset, .unset, .unset, .unset]) rfl (XS.iloadN X61.here hx rfl (hb hby at_138) rfl (X61.ldcInt hx hown (mvT hZ (t123 hw)) (g := (mkF m 139 #[.val (.int p1), .val (.int p2), .val (.int p3), .val (.int k1), .val (.int k2), .val (.int k3), .val (.int k4), .val (.ref b_1), .val (.ref b_3), .val (.ref b_5), .val (.ref b_7), .val (.ref b9), .val (.ref b_20), .val (.ref b_29), .val (.ref b_38), .val (.ref b_47), .val (.ref b49), .val (.ref b_61), .unset, .unset, .unset, .unset, .unset, .unset, .unset, .unset, .unset, .unset, .unset, .unset] [(.int p2)])) rfl (hb hby at_139) _ (XS.iand X61.here hx rfl (hb hby at_141) rfl (XS.bipush X61.here hx rfl (hb hby at_142) (Jvm.RoadKit.iremM (g := (mkF m 144 #[.val (.int p1), .val (.int p2), .val (.int p3), .val (.int k1), .val (.int k2), .val (.int k3), .val (.int k4), .val (.ref b_1), .val (.ref b_3), .val (.ref b_5), .val (.ref b_7), .val (.ref b9), .val (.ref b_20), .val (.ref b_29), .val (.ref b_38), .val (.ref b_47), .val (.ref b49), .val (.ref b_61), .unset, .unset, .unset, .unset, .unset, .unset, .unset, .unset, .unset, .unset, .unset, .unset] [(.int (7 : Int32)), (.int (p2 &&& (2147483647 : Int32)))])) X61 hx rfl (hb hby at_144) rfl (by decide) k)))))) ?_
    refine Gl.step (B := (T61.setTop (mkF m 154 #[.val (.int p1), .val (.int p2), .val (.int p3), .val (.int k1), .val (.int k2), .val (.int k3), .val (.int k4), .val (.ref b_1), .val (.ref b_3), .val (.ref b_5), .val (.ref b_7), .val (.ref b9), .val (.ref b_20), .val (.ref b_29), .val (.ref b_38), .val (.ref b_47), .val (.ref b49), .val (.ref b_61), .val (.int ((p2 &&& (2147483647 : Int32)) % (7 : Int32))), .unset, .unset, .unset, .unset, .unset, .unset, .unset, .unset, .unset, .unset, .unset] [(.int ((p3 &&& (2147483647 : Int32)) % (7 : Int32)))]))) (fun t k => XS.istore X61.here hx rfl (hb hby at_145) rfl (l' := #[.val (.int p1), .val (.int p2), .val (.int p3), .val (.int k1), .val (.int k2), .val (.int k3), .val (.int k4), .val (.ref b_1), .val (.ref b_3), .val (.ref b_5), .val (.ref b_7), .val (.ref b9), .val (.ref b_20), .val (.ref b_29), .val (.ref b_38), .val (.ref b_47), .val (.ref b49), .val (.ref b_61), .val (.int ((p2 &&& (2147483647 : Int32)) % (7 : Int32))), .unset, .unset, .unset, .unset, .unset, .unset, .unset, .unset, .unset, .unset, .unset]) rfl (XS.iloadN X61.here hx rfl (hb hby at_147) rfl (X61.ldcInt hx hown (mvT hZ (t123 hw)) (g := (mkF m 148 #[.val (.int p1), .val (.int p2), .val (.int p3), .val (.int k1), .val (.int k2), .val (.int k3), .val (.int k4), .val (.ref b_1), .val (.ref b_3), .val (.ref b_5), .val (.ref b_7), .val (.ref b9), .val (.ref b_20), .val (.ref b_29), .val (.ref b_38), .val (.ref b_47), .val (.ref b49), .val (.ref b_61), .val (.int ((p2 &&& (2147483647 : Int32)) % (7 : Int32))), .unset, .unset, .unset, .unset, .unset, .unset, .unset, .unset, .unset, .unset, .unset] [(.int p3)])) rfl (hb hby at_148) _ (XS.iand X61.here hx rfl (hb hby at_150) rfl (XS.bipush X61.here hx rfl (hb hby at_151) (Jvm.RoadKit.iremM (g := (mkF m 153 #[.val (.int p1), .val (.int p2), .val (.int p3), .val (.int k1), .val (.int k2), .val (.int k3), .val (.int k4), .val (.ref b_1), .val (.ref b_3), .val (.ref b_5), .val (.ref b_7), .val (.ref b9), .val (.ref b_20), .val (.ref b_29), .val (.ref b_38), .val (.ref b_47), .val (.ref b49), .val (.ref b_61), .val (.int ((p2 &&& (2147483647 : Int32)) % (7 : Int32))), .unset, .unset, .unset, .unset, .unset, .unset, .unset, .unset, .unset, .unset, .unset] [(.int (7 : Int32)), (.int (p3 &&& (2147483647 : Int32)))])) X61 hx rfl (hb hby at_153) rfl (by decide) k)))))) ?_
    refine Gl.step (B := (T61.setTop (mkF m 156 #[.val (.int p1), .val (.int p2), .val (.int p3), .val (.int k1), .val (.int k2), .val (.int k3), .val (.int k4), .val (.ref b_1), .val (.ref b_3), .val (.ref b_5), .val (.ref b_7), .val (.ref b9), .val (.ref b_20), .val (.ref b_29), .val (.ref b_38), .val (.ref b_47), .val (.ref b49), .val (.ref b_61), .val (.int ((p2 &&& (2147483647 : Int32)) % (7 : Int32))), .val (.int ((p3 &&& (2147483647 : Int32)) % (7 : Int32))), .unset, .unset, .unset, .unset, .unset, .unset, .unset, .unset, .unset, .unset] []))) (fun t k => XS.istore X61.here hx rfl (hb hby at_154) rfl (l' := #[.val (.int p1), .val (.int p2), .val (.int p3), .val (.int k1), .val (.int k2), .val (.int k3), .val (.int k4), .val (.ref b_1), .val (.ref b_3), .val (.ref b_5), .val (.ref b_7), .val (.ref b9), .val (.ref b_20), .val (.ref b_29), .val (.ref b_38), .val (.ref b_47), .val (.ref b49), .val (.ref b_61), .val (.int ((p2 &&& (2147483647 : Int32)) % (7 : Int32))), .val (.int ((p3 &&& (2147483647 : Int32)) % (7 : Int32))), .unset, .unset, .unset, .unset, .unset, .unset, .unset, .unset, .unset, .unset]) rfl k) ?_
    obtain ⟨i, hi, hhi⟩ := own_rem7 p2
    rw [hhi]
    obtain ⟨j, hj, hhj⟩ := own_rem7 p3
    rw [hhj]
    obtain ⟨c2, hc2⟩ := own_bool (k2 = k1)
    obtain ⟨c3, hc3⟩ := own_bool (k3 = k2 ∨ k3 = k1)
    obtain ⟨c4, hc4⟩ := own_bool (k4 = k3 ∨ k4 = k2 ∨ k4 = k1)
    have C1 : w2_20 = Int32.ofNat 1 ∧ bs_20 = .ref b9 := by
      rcases hC_20 with ⟨z, -⟩ | ⟨-, z1, z2⟩
      · exact False.elim z
      · exact ⟨z1.trans (by decide), z2⟩
    have C6 : w2_61 = Int32.ofNat 1 ∧ bs_61 = .ref b49 := by
      rcases hC_61 with ⟨z, -⟩ | ⟨-, z1, z2⟩
      · exact False.elim z
      · exact ⟨z1.trans (by decide), z2⟩
    have C2 := own_stp (c := c2) (P := ((97 : Int32) + k2) = ((97 : Int32) + k1)) (by simp only [own_x]; exact hc2) C1.1 hC_29
    have C3 := own_stp (c := c3) (P := ((97 : Int32) + k3) = ((97 : Int32) + k2) ∨ ((97 : Int32) + k3) = ((97 : Int32) + k1)) (by simp only [own_x]; exact hc3) C2.1 hC_38
    have C4 := own_stp (c := c4) (P := ((97 : Int32) + k4) = ((97 : Int32) + k3) ∨ ((97 : Int32) + k4) = ((97 : Int32) + k2) ∨ ((97 : Int32) + k4) = ((97 : Int32) + k1)) (by simp only [own_x]; exact hc4) C3.1 hC_47
    have f63 := (((((((r0_11.keep Kc20).keep Kc29).keep Kc38).keep Kc47).ext E49).keep Kc51).keep Kc61)
    have f64 := (((((((r2_11.keep Kc20 nin0).keep Kc29 nin0).keep Kc38 nin0).keep Kc47 nin0).ext E49).keep Kc51 (ninS (Nat.ne_of_lt (Nat.lt_of_lt_of_le ((((r0_11.keep Kc20).keep Kc29).keep Kc38).keep Kc47).lt (Nat.le_of_eq g49.symm))) nin0)).keep Kc61 nin0)
    have f65 := (((((((r3_11.keep Kc20 nin0).keep Kc29 nin0).keep Kc38 nin0).keep Kc47 nin0).ext E49).keep Kc51 (ninS (Nat.ne_of_lt (Nat.lt_of_lt_of_le ((((r0_11.keep Kc20).keep Kc29).keep Kc38).keep Kc47).lt (Nat.le_of_eq g49.symm))) nin0)).keep Kc61 nin0)
    have f66 := ((((((r1_20.keep Kc29).keep Kc38).keep Kc47).ext E49).keep Kc51).keep Kc61)
    have f67 := ((((((r3_20.keep Kc29 nin0).keep Kc38 nin0).keep Kc47 nin0).ext E49).keep Kc51 (ninS (Nat.ne_of_lt (Nat.lt_of_lt_of_le (((r1_20.keep Kc29).keep Kc38).keep Kc47).lt (Nat.le_of_eq g49.symm))) nin0)).keep Kc61 nin0)
    have f68 := ((((((r4_20.keep Kc29 nin0).keep Kc38 nin0).keep Kc47 nin0).ext E49).keep Kc51 (ninS (Nat.ne_of_lt (Nat.lt_of_lt_of_le (((r1_20.keep Kc29).keep Kc38).keep Kc47).lt (Nat.le_of_eq g49.symm))) nin0)).keep Kc61 nin0)
    have f69 := (((((r1_29.keep Kc38).keep Kc47).ext E49).keep Kc51).keep Kc61)
    have f70 := (((((r3_29.keep Kc38 nin0).keep Kc47 nin0).ext E49).keep Kc51 (ninS (Nat.ne_of_lt (Nat.lt_of_lt_of_le ((r1_29.keep Kc38).keep Kc47).lt (Nat.le_of_eq g49.symm))) nin0)).keep Kc61 nin0)
    have f71 := (((((r4_29.keep Kc38 nin0).keep Kc47 nin0).ext E49).keep Kc51 (ninS (Nat.ne_of_lt (Nat.lt_of_lt_of_le ((r1_29.keep Kc38).keep Kc47).lt (Nat.le_of_eq g49.symm))) nin0)).keep Kc61 nin0)
    have f72 := ((((r1_38.keep Kc47).ext E49).keep Kc51).keep Kc61)
    have f73 := ((((r3_38.keep Kc47 nin0).ext E49).keep Kc51 (ninS (Nat.ne_of_lt (Nat.lt_of_lt_of_le (r1_38.keep Kc47).lt (Nat.le_of_eq g49.symm))) nin0)).keep Kc61 nin0)
    have f74 := ((((r4_38.keep Kc47 nin0).ext E49).keep Kc51 (ninS (Nat.ne_of_lt (Nat.lt_of_lt_of_le (r1_38.keep Kc47).lt (Nat.le_of_eq g49.symm))) nin0)).keep Kc61 nin0)
    have f75 := (((r1_47.ext E49).keep Kc51).keep Kc61)
    have f76 := (((r3_47.ext E49).keep Kc51 (ninS (Nat.ne_of_lt (Nat.lt_of_lt_of_le r1_47.lt (Nat.le_of_eq g49.symm))) nin0)).keep Kc61 nin0)
    have f77 := (((r4_47.ext E49).keep Kc51 (ninS (Nat.ne_of_lt (Nat.lt_of_lt_of_le r1_47.lt (Nat.le_of_eq g49.symm))) nin0)).keep Kc61 nin0)
    have f78 := (r0_51.keep Kc61)
    have f79 := (r2_51.keep Kc61 nin0)
    have f80 := (r3_51.keep Kc61 nin0)
    have hM : Maps Z T61.heap (adr7 b9 b_20 b_29 b_38 b_47 b49 b_61) c2 c3 c4 := own_maps f63 f64 f65 f66 f67 f68 f69 f70 f71 f72 f73 f74 f75 f76 f77 f78 f79 f80 r1_61 r3_61 r4_61 rfl C1.1 C2.1 C3.1 C4.1 rfl C6.1 rfl C1.2 C2.2 C3.2 C4.2 rfl C6.2
    have hinj := own_inj (Nat.ne_of_lt (Nat.lt_of_lt_of_le r0_11.lt r0_20)) (Nat.ne_of_lt (Nat.lt_of_lt_of_le (r0_11.keep Kc20).lt r0_29)) (Nat.ne_of_lt (Nat.lt_of_lt_of_le ((r0_11.keep Kc20).keep Kc29).lt r0_38)) (Nat.ne_of_lt (Nat.lt_of_lt_of_le (((r0_11.keep Kc20).keep Kc29).keep Kc38).lt r0_47)) (Nat.ne_of_lt (Nat.lt_of_lt_of_le ((((r0_11.keep Kc20).keep Kc29).keep Kc38).keep Kc47).lt (Nat.le_of_eq g49.symm))) (Nat.ne_of_lt (Nat.lt_of_lt_of_le ((((((r0_11.keep Kc20).keep Kc29).keep Kc38).keep Kc47).ext E49).keep Kc51).lt r0_61)) (Nat.ne_of_lt (Nat.lt_of_lt_of_le r1_20.lt r0_29)) (Nat.ne_of_lt (Nat.lt_of_lt_of_le (r1_20.keep Kc29).lt r0_38)) (Nat.ne_of_lt (Nat.lt_of_lt_of_le ((r1_20.keep Kc29).keep Kc38).lt r0_47)) (Nat.ne_of_lt (Nat.lt_of_lt_of_le (((r1_20.keep Kc29).keep Kc38).keep Kc47).lt (Nat.le_of_eq g49.symm))) (Nat.ne_of_lt (Nat.lt_of_lt_of_le (((((r1_20.keep Kc29).keep Kc38).keep Kc47).ext E49).keep Kc51).lt r0_61)) (Nat.ne_of_lt (Nat.lt_of_lt_of_le r1_29.lt r0_38)) (Nat.ne_of_lt (Nat.lt_of_lt_of_le (r1_29.keep Kc38).lt r0_47)) (Nat.ne_of_lt (Nat.lt_of_lt_of_le ((r1_29.keep Kc38).keep Kc47).lt (Nat.le_of_eq g49.symm))) (Nat.ne_of_lt (Nat.lt_of_lt_of_le ((((r1_29.keep Kc38).keep Kc47).ext E49).keep Kc51).lt r0_61)) (Nat.ne_of_lt (Nat.lt_of_lt_of_le r1_38.lt r0_47)) (Nat.ne_of_lt (Nat.lt_of_lt_of_le (r1_38.keep Kc47).lt (Nat.le_of_eq g49.symm))) (Nat.ne_of_lt (Nat.lt_of_lt_of_le (((r1_38.keep Kc47).ext E49).keep Kc51).lt r0_61)) (Nat.ne_of_lt (Nat.lt_of_lt_of_le r1_47.lt (Nat.le_of_eq g49.symm))) (Nat.ne_of_lt (Nat.lt_of_lt_of_le ((r1_47.ext E49).keep Kc51).lt r0_61)) (Nat.ne_of_lt (Nat.lt_of_lt_of_le r0_51.lt r0_61))
    obtain ⟨pa, hpa⟩ : ∃ z, z = (adr7 b9 b_20 b_29 b_38 b_47 b49 b_61) i := ⟨_, rfl⟩
    obtain ⟨pb, hpb⟩ : ∃ z, z = (adr7 b9 b_20 b_29 b_38 b_47 b49 b_61) j := ⟨_, rfl⟩
    have Epa : Exa Z T61.heap pa "com/example/isogloss/isogloss/util/PersistentMap" := by rw [hpa]; exact (hM i hi).1
    refine Gl.step (B := (T61.setTop (mkF m 168 #[.val (.int p1), .val (.int p2), .val (.int p3), .val (.int k1), .val (.int k2), .val (.int k3), .val (.int k4), .val (.ref b_1), .val (.ref b_3), .val (.ref b_5), .val (.ref b_7), .val (.ref b9), .val (.ref b_20), .val (.ref b_29), .val (.ref b_38), .val (.ref b_47), .val (.ref b49), .val (.ref b_61), .val (.int (Int32.ofNat i)), .val (.int (Int32.ofNat j)), .unset, .unset, .unset, .unset, .unset, .unset, .unset, .unset, .unset, .unset] [(.ref b_47), (.ref b_38), (.ref b_29), (.ref b_20), (.ref b9), (.int (Int32.ofNat i))]))) (fun t k => XS.iload X61.here hx rfl (hb hby at_156) rfl (XS.aload X61.here hx rfl (hb hby at_158) rfl rfl (XS.aload X61.here hx rfl (hb hby at_160) rfl rfl (XS.aload X61.here hx rfl (hb hby at_162) rfl rfl (XS.aload X61.here hx rfl (hb hby at_164) rfl rfl (XS.aload X61.here hx rfl (hb hby at_166) rfl rfl k)))))) ?_
    refine Gl.step (B := (T61.setTop (mkF m 172 #[.val (.int p1), .val (.int p2), .val (.int p3), .val (.int k1), .val (.int k2), .val (.int k3), .val (.int k4), .val (.ref b_1), .val (.ref b_3), .val (.ref b_5), .val (.ref b_7), .val (.ref b9), .val (.ref b_20), .val (.ref b_29), .val (.ref b_38), .val (.ref b_47), .val (.ref b49), .val (.ref b_61), .val (.int (Int32.ofNat i)), .val (.int (Int32.ofNat j)), .unset, .unset, .unset, .unset, .unset, .unset, .unset, .unset, .unset, .unset] [(.ref b_61), (.ref b49), (.ref b_47), (.ref b_38), (.ref b_29), (.ref b_20), (.ref b9), (.int (Int32.ofNat i))]))) (fun t k => XS.aload X61.here hx rfl (hb hby at_168) rfl rfl (XS.aload X61.here hx rfl (hb hby at_170) rfl rfl k)) ?_
    obtain ⟨_, _, ⟨T81, L81, c81, z81⟩, -, X81, ⟨Lc81, hQ81, l81, y81, zz81⟩, st81⟩ := Jvm.LawKit.callS X61 hx (y := y19) hown (mvT hZ (t124 hw)) (mvT hZ (t125 hw)) (mvT hZ (t2 hw)) (mvT hZ (t126 hw)) (by decide) (backOf (W := 0) (rpick l Z a0 hw [] (Int32.ofNat i) b9 b_20 b_29 b_38 b_47 b49 b_61 pa T61.heap n0 O62 (own_pick hi hpa)) hZ (t126 hw) (t2 hw) (by decide) (by decide)) (g := (mkF m 172 #[.val (.int p1), .val (.int p2), .val (.int p3), .val (.int k1), .val (.int k2), .val (.int k3), .val (.int k4), .val (.ref b_1), .val (.ref b_3), .val (.ref b_5), .val (.ref b_7), .val (.ref b9), .val (.ref b_20), .val (.ref b_29), .val (.ref b_38), .val (.ref b_47), .val (.ref b49), .val (.ref b_61), .val (.int (Int32.ofNat i)), .val (.int (Int32.ofNat j)), .unset, .unset, .unset, .unset, .unset, .unset, .unset, .unset, .unset, .unset] [(.ref b_61), (.ref b49), (.ref b_47), (.ref b_38), (.ref b_29), (.ref b_20), (.ref b9), (.int (Int32.ofNat i))])) rfl (by rw [hml]; rfl) (argsL := [(.int (Int32.ofNat i)), (.ref b9), (.ref b_20), (.ref b_29), (.ref b_38), (.ref b_47), (.ref b49), (.ref b_61)]) (rest := []) (lenOf pd__ILcom_example_isogloss_isogloss_util_PersistentMap_Lcom_example_isogloss_isogloss_util_PersistentMap_Lcom_example_isogloss_isogloss_util_PersistentMap_Lcom_example_isogloss_isogloss_util_PersistentMap_Lcom_example_isogloss_isogloss_util_PersistentMap_Lcom_example_isogloss_isogloss_util_PersistentMap_Lcom_example_isogloss_isogloss_util_PersistentMap__Lcom_example_isogloss_isogloss_util_PersistentMap_ rfl) rfl (by show 2 * 0 + _ ≤ _; exact Nat.le_of_eq rfl) (hb hby at_172) (fun _ _ => ⟨rfl, rfl, (by decide : 69 + 0 ≤ _), (by decide : 295 + 0 ≤ _)⟩)
    dsimp only [Pt.U, Pt.locs, Pt.cells, Pt.slots] at X81 l81 y81 zz81 st81 hQ81
    subst y81 zz81
    obtain ⟨rfl, N81q, eh81⟩ := hQ81
    have N81 : Fr n0 L81 := Eq.mpr (congrArg (Fr n0) l81) (Fr.app N61 N81q)
    refine Gl.step (B := (T81.setTop (mkF m 175 #[.val (.int p1), .val (.int p2), .val (.int p3), .val (.int k1), .val (.int k2), .val (.int k3), .val (.int k4), .val (.ref b_1), .val (.ref b_3), .val (.ref b_5), .val (.ref b_7), .val (.ref b9), .val (.ref b_20), .val (.ref b_29), .val (.ref b_38), .val (.ref b_47), .val (.ref b49), .val (.ref b_61), .val (.int (Int32.ofNat i)), .val (.int (Int32.ofNat j)), .unset, .unset, .unset, .unset, .unset, .unset, .unset, .unset, .unset, .unset] [(.ref pa)]))) st81 ?_
    refine Gl.step (B := (T81.setTop (mkF m 187 #[.val (.int p1), .val (.int p2), .val (.int p3), .val (.int k1), .val (.int k2), .val (.int k3), .val (.int k4), .val (.ref b_1), .val (.ref b_3), .val (.ref b_5), .val (.ref b_7), .val (.ref b9), .val (.ref b_20), .val (.ref b_29), .val (.ref b_38), .val (.ref b_47), .val (.ref b49), .val (.ref b_61), .val (.int (Int32.ofNat i)), .val (.int (Int32.ofNat j)), .unset, .unset, .unset, .unset, .unset, .unset, .unset, .unset, .unset, .unset] [(.ref b_47), (.ref b_38), (.ref b_29), (.ref b_20), (.ref b9), (.int (Int32.ofNat j)), (.ref pa)]))) (fun t k => XS.iload X81.here hx rfl (hb hby at_175) rfl (XS.aload X81.here hx rfl (hb hby at_177) rfl rfl (XS.aload X81.here hx rfl (hb hby at_179) rfl rfl (XS.aload X81.here hx rfl (hb hby at_181) rfl rfl (XS.aload X81.here hx rfl (hb hby at_183) rfl rfl (XS.aload X81.here hx rfl (hb hby at_185) rfl rfl k)))))) ?_
    refine Gl.step (B := (T81.setTop (mkF m 191 #[.val (.int p1), .val (.int p2), .val (.int p3), .val (.int k1), .val (.int k2), .val (.int k3), .val (.int k4), .val (.ref b_1), .val (.ref b_3), .val (.ref b_5), .val (.ref b_7), .val (.ref b9), .val (.ref b_20), .val (.ref b_29), .val (.ref b_38), .val (.ref b_47), .val (.ref b49), .val (.ref b_61), .val (.int (Int32.ofNat i)), .val (.int (Int32.ofNat j)), .unset, .unset, .unset, .unset, .unset, .unset, .unset, .unset, .unset, .unset] [(.ref b_61), (.ref b49), (.ref b_47), (.ref b_38), (.ref b_29), (.ref b_20), (.ref b9), (.int (Int32.ofNat j)), (.ref pa)]))) (fun t k => XS.aload X81.here hx rfl (hb hby at_187) rfl rfl (XS.aload X81.here hx rfl (hb hby at_189) rfl rfl k)) ?_
    obtain ⟨_, _, ⟨T82, L82, c82, z82⟩, -, X82, ⟨Lc82, hQ82, l82, y82, zz82⟩, st82⟩ := Jvm.LawKit.callS X81 hx (y := y19) hown (mvT hZ (t124 hw)) (mvT hZ (t125 hw)) (mvT hZ (t2 hw)) (mvT hZ (t126 hw)) (by decide) (backOf (W := 1) (rpick l Z a0 hw [] (Int32.ofNat j) b9 b_20 b_29 b_38 b_47 b49 b_61 pb T61.heap n0 O62 (own_pick hj hpb)) hZ (t126 hw) (t2 hw) (by decide) (by decide)) (g := (mkF m 191 #[.val (.int p1), .val (.int p2), .val (.int p3), .val (.int k1), .val (.int k2), .val (.int k3), .val (.int k4), .val (.ref b_1), .val (.ref b_3), .val (.ref b_5), .val (.ref b_7), .val (.ref b9), .val (.ref b_20), .val (.ref b_29), .val (.ref b_38), .val (.ref b_47), .val (.ref b49), .val (.ref b_61), .val (.int (Int32.ofNat i)), .val (.int (Int32.ofNat j)), .unset, .unset, .unset, .unset, .unset, .unset, .unset, .unset, .unset, .unset] [(.ref b_61), (.ref b49), (.ref b_47), (.ref b_38), (.ref b_29), (.ref b_20), (.ref b9), (.int (Int32.ofNat j)), (.ref pa)])) rfl (by rw [hml]; rfl) (argsL := [(.int (Int32.ofNat j)), (.ref b9), (.ref b_20), (.ref b_29), (.ref b_38), (.ref b_47), (.ref b49), (.ref b_61)]) (rest := [(.ref pa)]) (lenOf pd__ILcom_example_isogloss_isogloss_util_PersistentMap_Lcom_example_isogloss_isogloss_util_PersistentMap_Lcom_example_isogloss_isogloss_util_PersistentMap_Lcom_example_isogloss_isogloss_util_PersistentMap_Lcom_example_isogloss_isogloss_util_PersistentMap_Lcom_example_isogloss_isogloss_util_PersistentMap_Lcom_example_isogloss_isogloss_util_PersistentMap__Lcom_example_isogloss_isogloss_util_PersistentMap_ rfl) rfl (by show 2 * 0 + _ ≤ _; exact Nat.le_of_eq rfl) (hb hby at_191) (fun _ _ => ⟨rfl, eh81, (by decide : 69 + 0 ≤ _), (by decide : 295 + 0 ≤ _)⟩)
    dsimp only [Pt.U, Pt.locs, Pt.cells, Pt.slots] at X82 l82 y82 zz82 st82 hQ82
    subst y82 zz82
    obtain ⟨rfl, N82q, eh82⟩ := hQ82
    have N82 : Fr n0 L82 := Eq.mpr (congrArg (Fr n0) l82) (Fr.app N81 N82q)
    refine Gl.step (B := (T82.setTop (mkF m 194 #[.val (.int p1), .val (.int p2), .val (.int p3), .val (.int k1), .val (.int k2), .val (.int k3), .val (.int k4), .val (.ref b_1), .val (.ref b_3), .val (.ref b_5), .val (.ref b_7), .val (.ref b9), .val (.ref b_20), .val (.ref b_29), .val (.ref b_38), .val (.ref b_47), .val (.ref b49), .val (.ref b_61), .val (.int (Int32.ofNat i)), .val (.int (Int32.ofNat j)), .unset, .unset, .unset, .unset, .unset, .unset, .unset, .unset, .unset, .unset] [(.ref pb), (.ref pa)]))) st82 ?_
    obtain ⟨cq83, kq83, q83a, q83b, q83c⟩ := isOf hZ eh82 Epa
    obtain ⟨_, _, ⟨T83, L83, c83, z83⟩, -, X83, ⟨Lc83, hQ83, l83, y83, zz83⟩, st83⟩ := X82.virtualBack hx (y := y20) (z := y20) hown (mvT hZ (t127 hw)) (mvT hZ (t128 hw)) (notFace_of_selects (args := #[]) (mvT hZ (t130 hw))) (mvT hZ (t130 hw)) (mvT hZ (t129 hw)) (by decide) (backOf (W := 0) (rim l Z a0 hw [] pa pb i j (adr7 b9 b_20 b_29 b_38 b_47 b49 b_61) c2 c3 c4 T61.heap n0 O62 (hM) (hi) (hj) (hpa) (hpb) (hinj)) hZ (t131 hw) (t36 hw) (by decide) (by decide)) q83a q83c (g := (mkF m 194 #[.val (.int p1), .val (.int p2), .val (.int p3), .val (.int k1), .val (.int k2), .val (.int k3), .val (.int k4), .val (.ref b_1), .val (.ref b_3), .val (.ref b_5), .val (.ref b_7), .val (.ref b9), .val (.ref b_20), .val (.ref b_29), .val (.ref b_38), .val (.ref b_47), .val (.ref b49), .val (.ref b_61), .val (.int (Int32.ofNat i)), .val (.int (Int32.ofNat j)), .unset, .unset, .unset, .unset, .unset, .unset, .unset, .unset, .unset, .unset] [(.ref pb), (.ref pa)])) rfl (by rw [hml]; rfl) (Steps.refl _) (argsL := [(.ref pb)]) (rest := []) (lenOf pd__Lcom_example_isogloss_isogloss_util_PersistentMap__Z rfl) rfl (by show 2 * 0 + _ ≤ _; exact Nat.le_of_eq rfl) (hb hby at_194) (fun _ _ => ⟨rfl, eh82, (by decide : 69 + 0 ≤ _), (by decide : 295 + 0 ≤ _)⟩)
    dsimp only [Pt.U, Pt.locs, Pt.cells, Pt.slots] at X83 l83 y83 zz83 st83 hQ83
    subst y83 zz83
    obtain ⟨rfl, N83q, eh83⟩ := hQ83
    have N83 : Fr n0 L83 := Eq.mpr (congrArg (Fr n0) l83) (Fr.app N82 N83q)
    refine Gl.tr (B := (T83.setTop (mkF m 197 #[.val (.int p1), .val (.int p2), .val (.int p3), .val (.int k1), .val (.int k2), .val (.int k3), .val (.int k4), .val (.ref b_1), .val (.ref b_3), .val (.ref b_5), .val (.ref b_7), .val (.ref b9), .val (.ref b_20), .val (.ref b_29), .val (.ref b_38), .val (.ref b_47), .val (.ref b49), .val (.ref b_61), .val (.int (Int32.ofNat i)), .val (.int (Int32.ofNat j)), .unset, .unset, .unset, .unset, .unset, .unset, .unset, .unset, .unset, .unset] [(.int (md c2 c3 c4 i j))]))) st83 ?_
    refine Gl.step (B := (T83.setTop (mkF m 199 #[.val (.int p1), .val (.int p2), .val (.int p3), .val (.int k1), .val (.int k2), .val (.int k3), .val (.int k4), .val (.ref b_1), .val (.ref b_3), .val (.ref b_5), .val (.ref b_7), .val (.ref b9), .val (.ref b_20), .val (.ref b_29), .val (.ref b_38), .val (.ref b_47), .val (.ref b49), .val (.ref b_61), .val (.int (Int32.ofNat i)), .val (.int (Int32.ofNat j)), .val (.int (md c2 c3 c4 i j)), .unset, .unset, .unset, .unset, .unset, .unset, .unset, .unset, .unset] []))) (fun t k => XS.istore X83.here hx rfl (hb hby at_197) rfl (l' := #[.val (.int p1), .val (.int p2), .val (.int p3), .val (.int k1), .val (.int k2), .val (.int k3), .val (.int k4), .val (.ref b_1), .val (.ref b_3), .val (.ref b_5), .val (.ref b_7), .val (.ref b9), .val (.ref b_20), .val (.ref b_29), .val (.ref b_38), .val (.ref b_47), .val (.ref b49), .val (.ref b_61), .val (.int (Int32.ofNat i)), .val (.int (Int32.ofNat j)), .val (.int (md c2 c3 c4 i j)), .unset, .unset, .unset, .unset, .unset, .unset, .unset, .unset, .unset]) rfl k) ?_
    have j454 : ∀ v21 v22 v23 v24 v25 v26 v27 v28 v29 : Int32, v21 = b32 c2 → v22 = b32 c3 → v23 = b32 c4 → v24 = 1 + b32 c2 → v25 = 1 + b32 c2 + b32 c3 → v26 = 1 + b32 c2 + b32 c3 + b32 c4 → v27 = sp27 c2 c3 c4 j → v28 = sp28 c2 c3 c4 i j → v29 = sp29 c2 c3 c4 i j → Gl p.tables e below (fun o U' => ∃ v L, o = .returned v ∧ Q_rm0 Z p1 p2 p3 zc ca cl va1 va2 va3 va4 h0 n0 v U'.heap L ∧ FrameEnd s o U' L room_1.cells room_1.slots) (T83.setTop (mkF m 454 #[.val (.int p1), .val (.int p2), .val (.int p3), .val (.int k1), .val (.int k2), .val (.int k3), .val (.int k4), .val (.ref b_1), .val (.ref b_3), .val (.ref b_5), .val (.ref b_7), .val (.ref b9), .val (.ref b_20), .val (.ref b_29), .val (.ref b_38), .val (.ref b_47), .val (.ref b49), .val (.ref b_61), .val (.int (Int32.ofNat i)), .val (.int (Int32.ofNat j)), .val (.int (md c2 c3 c4 i j)), .val (.int v21), .val (.int v22), .val (.int v23), .val (.int v24), .val (.int v25), .val (.int v26), .val (.int v27), .val (.int v28), .val (.int v29)] [])) := by
      intro v21 v22 v23 v24 v25 v26 v27 v28 v29 h21 h22 h23 h24 h25 h26 h27 h28 h29
      refine Gl.step (B := (T83.setTop (mkF m 466 #[.val (.int p1), .val (.int p2), .val (.int p3), .val (.int k1), .val (.int k2), .val (.int k3), .val (.int k4), .val (.ref b_1), .val (.ref b_3), .val (.ref b_5), .val (.ref b_7), .val (.ref b9), .val (.ref b_20), .val (.ref b_29), .val (.ref b_38), .val (.ref b_47), .val (.ref b49), .val (.ref b_61), .val (.int (Int32.ofNat i)), .val (.int (Int32.ofNat j)), .val (.int (md c2 c3 c4 i j)), .val (.int v21), .val (.int v22), .val (.int v23), .val (.int v24), .val (.int v25), .val (.int v26), .val (.int v27), .val (.int v28), .val (.int v29)] [(.int (1 : Int32))]))) (fun t k => XS.iload X83.here hx rfl (hb hby at_454) rfl (XS.iload X83.here hx rfl (hb hby at_456) rfl (XS.icmpNo X83.here hx rfl (hb hby at_458) rfl (teq (by rw [h29]; exact own_law i hi j hj c2 c3 c4 : (md c2 c3 c4 i j) = v29)).2 (XS.iconst X83.here hx rfl (hb hby at_461) (XS.goto X83.here hx rfl (pc0 := 462) (pc' := 466) rfl (hb hby at_462) (by decide) (by decide) k))))) ?_
      obtain ⟨fs, hr, hrun, hended, hW, hsame⟩ := X83.leave (v := some (.int (1 : Int32))) (fun h => by rw [Bd.returns] at h; cases h)
      refine ⟨_, _, ?_, hrun, hended, _, _, rfl, ?_, ⟨_, rfl⟩, hW, hsame.mono (by decide) (by decide)⟩
      · show Steps p.tables e below (T83.setTop (mkF m 466 #[.val (.int p1), .val (.int p2), .val (.int p3), .val (.int k1), .val (.int k2), .val (.int k3), .val (.int k4), .val (.ref b_1), .val (.ref b_3), .val (.ref b_5), .val (.ref b_7), .val (.ref b9), .val (.ref b_20), .val (.ref b_29), .val (.ref b_38), .val (.ref b_47), .val (.ref b49), .val (.ref b_61), .val (.int (Int32.ofNat i)), .val (.int (Int32.ofNat j)), .val (.int (md c2 c3 c4 i j)), .val (.int v21), .val (.int v22), .val (.int v23), .val (.int v24), .val (.int v25), .val (.int v26), .val (.int v27), .val (.int v28), .val (.int v29)] [(.int (1 : Int32))])) _
        exact retN X83 hx (t := .boolean) Bd.returns (by simp) (hb hby at_466) hr
      · show Q_rm0 Z p1 p2 p3 zc ca cl va1 va2 va3 va4 h0 n0 _ T83.heap _
        rw [eh83]
        exact ⟨rfl, N83⟩
    have j406 : ∀ v21 v22 v23 v24 v25 v26 v27 v28 : Int32, v21 = b32 c2 → v22 = b32 c3 → v23 = b32 c4 → v24 = 1 + b32 c2 → v25 = 1 + b32 c2 + b32 c3 → v26 = 1 + b32 c2 + b32 c3 + b32 c4 → v27 = sp27 c2 c3 c4 j → v28 = sp28 c2 c3 c4 i j → Gl p.tables e below (fun o U' => ∃ v L, o = .returned v ∧ Q_rm0 Z p1 p2 p3 zc ca cl va1 va2 va3 va4 h0 n0 v U'.heap L ∧ FrameEnd s o U' L room_1.cells room_1.slots) (T83.setTop (mkF m 406 #[.val (.int p1), .val (.int p2), .val (.int p3), .val (.int k1), .val (.int k2), .val (.int k3), .val (.int k4), .val (.ref b_1), .val (.ref b_3), .val (.ref b_5), .val (.ref b_7), .val (.ref b9), .val (.ref b_20), .val (.ref b_29), .val (.ref b_38), .val (.ref b_47), .val (.ref b49), .val (.ref b_61), .val (.int (Int32.ofNat i)), .val (.int (Int32.ofNat j)), .val (.int (md c2 c3 c4 i j)), .val (.int v21), .val (.int v22), .val (.int v23), .val (.int v24), .val (.int v25), .val (.int v26), .val (.int v27), .val (.int v28), .unset] [])) := by
      intro v21 v22 v23 v24 v25 v26 v27 v28 h21 h22 h23 h24 h25 h26 h27 h28
      have f451 : sp29 c2 c3 c4 i j = 0 → Gl p.tables e below (fun o U' => ∃ v L, o = .returned v ∧ Q_rm0 Z p1 p2 p3 zc ca cl va1 va2 va3 va4 h0 n0 v U'.heap L ∧ FrameEnd s o U' L room_1.cells room_1.slots) (T83.setTop (mkF m 451 #[.val (.int p1), .val (.int p2), .val (.int p3), .val (.int k1), .val (.int k2), .val (.int k3), .val (.int k4), .val (.ref b_1), .val (.ref b_3), .val (.ref b_5), .val (.ref b_7), .val (.ref b9), .val (.ref b_20), .val (.ref b_29), .val (.ref b_38), .val (.ref b_47), .val (.ref b49), .val (.ref b_61), .val (.int (Int32.ofNat i)), .val (.int (Int32.ofNat j)), .val (.int (md c2 c3 c4 i j)), .val (.int v21), .val (.int v22), .val (.int v23), .val (.int v24), .val (.int v25), .val (.int v26), .val (.int v27), .val (.int v28), .unset] [])) := by
        intro hyp
        refine Gl.step (B := (T83.setTop (mkF m 454 #[.val (.int p1), .val (.int p2), .val (.int p3), .val (.int k1), .val (.int k2), .val (.int k3), .val (.int k4), .val (.ref b_1), .val (.ref b_3), .val (.ref b_5), .val (.ref b_7), .val (.ref b9), .val (.ref b_20), .val (.ref b_29), .val (.ref b_38), .val (.ref b_47), .val (.ref b49), .val (.ref b_61), .val (.int (Int32.ofNat i)), .val (.int (Int32.ofNat j)), .val (.int (md c2 c3 c4 i j)), .val (.int v21), .val (.int v22), .val (.int v23), .val (.int v24), .val (.int v25), .val (.int v26), .val (.int v27), .val (.int v28), .val (.int (0 : Int32))] []))) (fun t k => XS.iconst X83.here hx rfl (hb hby at_451) (XS.istore X83.here hx rfl (hb hby at_452) rfl (l' := #[.val (.int p1), .val (.int p2), .val (.int p3), .val (.int k1), .val (.int k2), .val (.int k3), .val (.int k4), .val (.ref b_1), .val (.ref b_3), .val (.ref b_5), .val (.ref b_7), .val (.ref b9), .val (.ref b_20), .val (.ref b_29), .val (.ref b_38), .val (.ref b_47), .val (.ref b49), .val (.ref b_61), .val (.int (Int32.ofNat i)), .val (.int (Int32.ofNat j)), .val (.int (md c2 c3 c4 i j)), .val (.int v21), .val (.int v22), .val (.int v23), .val (.int v24), .val (.int v25), .val (.int v26), .val (.int v27), .val (.int v28), .val (.int (0 : Int32))]) rfl k)) ?_
        exact j454 v21 v22 v23 v24 v25 v26 v27 v28 (0 : Int32) h21 h22 h23 h24 h25 h26 h27 h28 (hyp.symm)
      have t447 : sp29 c2 c3 c4 i j = 1 → Gl p.tables e below (fun o U' => ∃ v L, o = .returned v ∧ Q_rm0 Z p1 p2 p3 zc ca cl va1 va2 va3 va4 h0 n0 v U'.heap L ∧ FrameEnd s o U' L room_1.cells room_1.slots) (T83.setTop (mkF m 447 #[.val (.int p1), .val (.int p2), .val (.int p3), .val (.int k1), .val (.int k2), .val (.int k3), .val (.int k4), .val (.ref b_1), .val (.ref b_3), .val (.ref b_5), .val (.ref b_7), .val (.ref b9), .val (.ref b_20), .val (.ref b_29), .val (.ref b_38), .val (.ref b_47), .val (.ref b49), .val (.ref b_61), .val (.int (Int32.ofNat i)), .val (.int (Int32.ofNat j)), .val (.int (md c2 c3 c4 i j)), .val (.int v21), .val (.int v22), .val (.int v23), .val (.int v24), .val (.int v25), .val (.int v26), .val (.int v27), .val (.int v28), .unset] [])) := by
        intro hyp
        refine Gl.step (B := (T83.setTop (mkF m 454 #[.val (.int p1), .val (.int p2), .val (.int p3), .val (.int k1), .val (.int k2), .val (.int k3), .val (.int k4), .val (.ref b_1), .val (.ref b_3), .val (.ref b_5), .val (.ref b_7), .val (.ref b9), .val (.ref b_20), .val (.ref b_29), .val (.ref b_38), .val (.ref b_47), .val (.ref b49), .val (.ref b_61), .val (.int (Int32.ofNat i)), .val (.int (Int32.ofNat j)), .val (.int (md c2 c3 c4 i j)), .val (.int v21), .val (.int v22), .val (.int v23), .val (.int v24), .val (.int v25), .val (.int v26), .val (.int v27), .val (.int v28), .val (.int (1 : Int32))] []))) (fun t k => XS.iconst X83.here hx rfl (hb hby at_447) (XS.goto X83.here hx rfl (pc0 := 448) (pc' := 452) rfl (hb hby at_448) (by decide) (by decide) (XS.istore X83.here hx rfl (hb hby at_452) rfl (l' := #[.val (.int p1), .val (.int p2), .val (.int p3), .val (.int k1), .val (.int k2), .val (.int k3), .val (.int k4), .val (.ref b_1), .val (.ref b_3), .val (.ref b_5), .val (.ref b_7), .val (.ref b9), .val (.ref b_20), .val (.ref b_29), .val (.ref b_38), .val (.ref b_47), .val (.ref b49), .val (.ref b_61), .val (.int (Int32.ofNat i)), .val (.int (Int32.ofNat j)), .val (.int (md c2 c3 c4 i j)), .val (.int v21), .val (.int v22), .val (.int v23), .val (.int v24), .val (.int v25), .val (.int v26), .val (.int v27), .val (.int v28), .val (.int (1 : Int32))]) rfl k))) ?_
        exact j454 v21 v22 v23 v24 v25 v26 v27 v28 (1 : Int32) h21 h22 h23 h24 h25 h26 h27 h28 (hyp.symm)
      refine Gl.step (B := (T83.setTop (mkF m 410 #[.val (.int p1), .val (.int p2), .val (.int p3), .val (.int k1), .val (.int k2), .val (.int k3), .val (.int k4), .val (.ref b_1), .val (.ref b_3), .val (.ref b_5), .val (.ref b_7), .val (.ref b9), .val (.ref b_20), .val (.ref b_29), .val (.ref b_38), .val (.ref b_47), .val (.ref b49), .val (.ref b_61), .val (.int (Int32.ofNat i)), .val (.int (Int32.ofNat j)), .val (.int (md c2 c3 c4 i j)), .val (.int v21), .val (.int v22), .val (.int v23), .val (.int v24), .val (.int v25), .val (.int v26), .val (.int v27), .val (.int v28), .unset] [(.int (Int32.ofNat j)), (.int (Int32.ofNat i))]))) (fun t k => XS.iload X83.here hx rfl (hb hby at_406) rfl (XS.iload X83.here hx rfl (hb hby at_408) rfl k)) ?_
      by_cases g0 : i = j
      · skip
        refine Gl.step (B := (T83.setTop (mkF m 447 #[.val (.int p1), .val (.int p2), .val (.int p3), .val (.int k1), .val (.int k2), .val (.int k3), .val (.int k4), .val (.ref b_1), .val (.ref b_3), .val (.ref b_5), .val (.ref b_7), .val (.ref b9), .val (.ref b_20), .val (.ref b_29), .val (.ref b_38), .val (.ref b_47), .val (.ref b49), .val (.ref b_61), .val (.int (Int32.ofNat i)), .val (.int (Int32.ofNat j)), .val (.int (md c2 c3 c4 i j)), .val (.int v21), .val (.int v22), .val (.int v23), .val (.int v24), .val (.int v25), .val (.int v26), .val (.int v27), .val (.int v28), .unset] []))) (fun t k => XS.icmpYes X83.here hx rfl (pc0 := 410) (pc' := 447) rfl (hb hby at_410) rfl (teq ((own_oeq (n := i) (m := j) (by omega) (by omega)).mpr g0 : (Int32.ofNat i) = (Int32.ofNat j))).1 (by decide) (by decide) k) ?_
        exact t447 (by unfold sp29; rw [if_pos g0])
      · skip
        refine Gl.step (B := (T83.setTop (mkF m 416 #[.val (.int p1), .val (.int p2), .val (.int p3), .val (.int k1), .val (.int k2), .val (.int k3), .val (.int k4), .val (.ref b_1), .val (.ref b_3), .val (.ref b_5), .val (.ref b_7), .val (.ref b9), .val (.ref b_20), .val (.ref b_29), .val (.ref b_38), .val (.ref b_47), .val (.ref b49), .val (.ref b_61), .val (.int (Int32.ofNat i)), .val (.int (Int32.ofNat j)), .val (.int (md c2 c3 c4 i j)), .val (.int v21), .val (.int v22), .val (.int v23), .val (.int v24), .val (.int v25), .val (.int v26), .val (.int v27), .val (.int v28), .unset] [(.int (5 : Int32)), (.int (Int32.ofNat i))]))) (fun t k => XS.icmpNo X83.here hx rfl (hb hby at_410) rfl (feq (fun z => g0 ((own_oeq (n := i) (m := j) (by omega) (by omega)).mp z) : ¬ ((Int32.ofNat i) = (Int32.ofNat j)))).1 (XS.iload X83.here hx rfl (hb hby at_413) rfl (XS.iconst X83.here hx rfl (hb hby at_415) k))) ?_
        by_cases g1 : 5 ≤ i
        · skip
          refine Gl.step (B := (T83.setTop (mkF m 451 #[.val (.int p1), .val (.int p2), .val (.int p3), .val (.int k1), .val (.int k2), .val (.int k3), .val (.int k4), .val (.ref b_1), .val (.ref b_3), .val (.ref b_5), .val (.ref b_7), .val (.ref b9), .val (.ref b_20), .val (.ref b_29), .val (.ref b_38), .val (.ref b_47), .val (.ref b49), .val (.ref b_61), .val (.int (Int32.ofNat i)), .val (.int (Int32.ofNat j)), .val (.int (md c2 c3 c4 i j)), .val (.int v21), .val (.int v22), .val (.int v23), .val (.int v24), .val (.int v25), .val (.int v26), .val (.int v27), .val (.int v28), .unset] []))) (fun t k => XS.icmpYes X83.here hx rfl (pc0 := 416) (pc' := 451) rfl (hb hby at_416) rfl (flt (fun z => (Nat.not_lt.mpr g1) ((own_olt (n := i) (m := 5) (by omega) (by omega)).mp z) : ¬ ((Int32.ofNat i) < (5 : Int32)))).2.1 (by decide) (by decide) k) ?_
          exact f451 (by unfold sp29; rw [if_neg g0, if_pos g1])
        · skip
          refine Gl.step (B := (T83.setTop (mkF m 422 #[.val (.int p1), .val (.int p2), .val (.int p3), .val (.int k1), .val (.int k2), .val (.int k3), .val (.int k4), .val (.ref b_1), .val (.ref b_3), .val (.ref b_5), .val (.ref b_7), .val (.ref b9), .val (.ref b_20), .val (.ref b_29), .val (.ref b_38), .val (.ref b_47), .val (.ref b49), .val (.ref b_61), .val (.int (Int32.ofNat i)), .val (.int (Int32.ofNat j)), .val (.int (md c2 c3 c4 i j)), .val (.int v21), .val (.int v22), .val (.int v23), .val (.int v24), .val (.int v25), .val (.int v26), .val (.int v27), .val (.int v28), .unset] [(.int (5 : Int32)), (.int (Int32.ofNat j))]))) (fun t k => XS.icmpNo X83.here hx rfl (hb hby at_416) rfl (tlt ((own_olt (n := i) (m := 5) (by omega) (by omega)).mpr (Nat.lt_of_not_le g1) : (Int32.ofNat i) < (5 : Int32))).2.1 (XS.iload X83.here hx rfl (hb hby at_419) rfl (XS.iconst X83.here hx rfl (hb hby at_421) k))) ?_
          by_cases g2 : 5 ≤ j
          · skip
            refine Gl.step (B := (T83.setTop (mkF m 451 #[.val (.int p1), .val (.int p2), .val (.int p3), .val (.int k1), .val (.int k2), .val (.int k3), .val (.int k4), .val (.ref b_1), .val (.ref b_3), .val (.ref b_5), .val (.ref b_7), .val (.ref b9), .val (.ref b_20), .val (.ref b_29), .val (.ref b_38), .val (.ref b_47), .val (.ref b49), .val (.ref b_61), .val (.int (Int32.ofNat i)), .val (.int (Int32.ofNat j)), .val (.int (md c2 c3 c4 i j)), .val (.int v21), .val (.int v22), .val (.int v23), .val (.int v24), .val (.int v25), .val (.int v26), .val (.int v27), .val (.int v28), .unset] []))) (fun t k => XS.icmpYes X83.here hx rfl (pc0 := 422) (pc' := 451) rfl (hb hby at_422) rfl (flt (fun z => (Nat.not_lt.mpr g2) ((own_olt (n := j) (m := 5) (by omega) (by omega)).mp z) : ¬ ((Int32.ofNat j) < (5 : Int32)))).2.1 (by decide) (by decide) k) ?_
            exact f451 (by unfold sp29; rw [if_neg g0, if_neg g1, if_pos g2])
          · skip
            refine Gl.step (B := (T83.setTop (mkF m 429 #[.val (.int p1), .val (.int p2), .val (.int p3), .val (.int k1), .val (.int k2), .val (.int k3), .val (.int k4), .val (.ref b_1), .val (.ref b_3), .val (.ref b_5), .val (.ref b_7), .val (.ref b9), .val (.ref b_20), .val (.ref b_29), .val (.ref b_38), .val (.ref b_47), .val (.ref b49), .val (.ref b_61), .val (.int (Int32.ofNat i)), .val (.int (Int32.ofNat j)), .val (.int (md c2 c3 c4 i j)), .val (.int v21), .val (.int v22), .val (.int v23), .val (.int v24), .val (.int v25), .val (.int v26), .val (.int v27), .val (.int v28), .unset] [(.int (Int32.ofNat i)), (.int (Int32.ofNat j))]))) (fun t k => XS.icmpNo X83.here hx rfl (hb hby at_422) rfl (tlt ((own_olt (n := j) (m := 5) (by omega) (by omega)).mpr (Nat.lt_of_not_le g2) : (Int32.ofNat j) < (5 : Int32))).2.1 (XS.iload X83.here hx rfl (hb hby at_425) rfl (XS.iload X83.here hx rfl (hb hby at_427) rfl k))) ?_
            by_cases g3 : i ≤ j
            · skip
              refine Gl.step (B := (T83.setTop (mkF m 451 #[.val (.int p1), .val (.int p2), .val (.int p3), .val (.int k1), .val (.int k2), .val (.int k3), .val (.int k4), .val (.ref b_1), .val (.ref b_3), .val (.ref b_5), .val (.ref b_7), .val (.ref b9), .val (.ref b_20), .val (.ref b_29), .val (.ref b_38), .val (.ref b_47), .val (.ref b49), .val (.ref b_61), .val (.int (Int32.ofNat i)), .val (.int (Int32.ofNat j)), .val (.int (md c2 c3 c4 i j)), .val (.int v21), .val (.int v22), .val (.int v23), .val (.int v24), .val (.int v25), .val (.int v26), .val (.int v27), .val (.int v28), .unset] []))) (fun t k => XS.icmpYes X83.here hx rfl (pc0 := 429) (pc' := 451) rfl (hb hby at_429) rfl (flt (fun z => (Nat.not_lt.mpr g3) ((own_olt (n := j) (m := i) (by omega) (by omega)).mp z) : ¬ ((Int32.ofNat j) < (Int32.ofNat i)))).2.1 (by decide) (by decide) k) ?_
              exact f451 (by unfold sp29; rw [if_neg g0, if_neg g1, if_neg g2, if_pos g3])
            · skip
              refine Gl.step (B := (T83.setTop (mkF m 434 #[.val (.int p1), .val (.int p2), .val (.int p3), .val (.int k1), .val (.int k2), .val (.int k3), .val (.int k4), .val (.ref b_1), .val (.ref b_3), .val (.ref b_5), .val (.ref b_7), .val (.ref b9), .val (.ref b_20), .val (.ref b_29), .val (.ref b_38), .val (.ref b_47), .val (.ref b49), .val (.ref b_61), .val (.int (Int32.ofNat i)), .val (.int (Int32.ofNat j)), .val (.int (md c2 c3 c4 i j)), .val (.int v21), .val (.int v22), .val (.int v23), .val (.int v24), .val (.int v25), .val (.int v26), .val (.int v27), .val (.int v28), .unset] [(.int v28)]))) (fun t k => XS.icmpNo X83.here hx rfl (hb hby at_429) rfl (tlt ((own_olt (n := j) (m := i) (by omega) (by omega)).mpr (Nat.lt_of_not_le g3) : (Int32.ofNat j) < (Int32.ofNat i))).2.1 (XS.iload X83.here hx rfl (hb hby at_432) rfl k)) ?_
              by_cases g4 : sp28 c2 c3 c4 i j = 0
              · skip
                refine Gl.step (B := (T83.setTop (mkF m 451 #[.val (.int p1), .val (.int p2), .val (.int p3), .val (.int k1), .val (.int k2), .val (.int k3), .val (.int k4), .val (.ref b_1), .val (.ref b_3), .val (.ref b_5), .val (.ref b_7), .val (.ref b9), .val (.ref b_20), .val (.ref b_29), .val (.ref b_38), .val (.ref b_47), .val (.ref b49), .val (.ref b_61), .val (.int (Int32.ofNat i)), .val (.int (Int32.ofNat j)), .val (.int (md c2 c3 c4 i j)), .val (.int v21), .val (.int v22), .val (.int v23), .val (.int v24), .val (.int v25), .val (.int v26), .val (.int v27), .val (.int v28), .unset] []))) (fun t k => XS.ifYes X83.here hx rfl (pc0 := 434) (pc' := 451) rfl (hb hby at_434) rfl ((if0 _ _).trans (teq (by rw [h28]; exact g4 : v28 = (0 : Int32))).1) (by decide) (by decide) k) ?_
                exact f451 (by unfold sp29; rw [if_neg g0, if_neg g1, if_neg g2, if_neg g3, if_pos g4])
              · skip
                refine Gl.step (B := (T83.setTop (mkF m 444 #[.val (.int p1), .val (.int p2), .val (.int p3), .val (.int k1), .val (.int k2), .val (.int k3), .val (.int k4), .val (.ref b_1), .val (.ref b_3), .val (.ref b_5), .val (.ref b_7), .val (.ref b9), .val (.ref b_20), .val (.ref b_29), .val (.ref b_38), .val (.ref b_47), .val (.ref b49), .val (.ref b_61), .val (.int (Int32.ofNat i)), .val (.int (Int32.ofNat j)), .val (.int (md c2 c3 c4 i j)), .val (.int v21), .val (.int v22), .val (.int v23), .val (.int v24), .val (.int v25), .val (.int v26), .val (.int v27), .val (.int v28), .unset] [(.int v27), (.int ((Int32.ofNat i) - (Int32.ofNat j)))]))) (fun t k => XS.ifNo X83.here hx rfl (hb hby at_434) rfl ((if0 _ _).trans (feq (by rw [h28]; exact g4 : ¬ (v28 = (0 : Int32)))).1) (XS.iload X83.here hx rfl (hb hby at_437) rfl (XS.iload X83.here hx rfl (hb hby at_439) rfl (XS.isub X83.here hx rfl (hb hby at_441) rfl (XS.iload X83.here hx rfl (hb hby at_442) rfl k))))) ?_
                by_cases g5 : sp27 c2 c3 c4 j < Int32.ofNat i - Int32.ofNat j
                · skip
                  refine Gl.step (B := (T83.setTop (mkF m 451 #[.val (.int p1), .val (.int p2), .val (.int p3), .val (.int k1), .val (.int k2), .val (.int k3), .val (.int k4), .val (.ref b_1), .val (.ref b_3), .val (.ref b_5), .val (.ref b_7), .val (.ref b9), .val (.ref b_20), .val (.ref b_29), .val (.ref b_38), .val (.ref b_47), .val (.ref b49), .val (.ref b_61), .val (.int (Int32.ofNat i)), .val (.int (Int32.ofNat j)), .val (.int (md c2 c3 c4 i j)), .val (.int v21), .val (.int v22), .val (.int v23), .val (.int v24), .val (.int v25), .val (.int v26), .val (.int v27), .val (.int v28), .unset] []))) (fun t k => XS.icmpYes X83.here hx rfl (pc0 := 444) (pc' := 451) rfl (hb hby at_444) rfl (tlt (by rw [h27]; exact g5 : v27 < ((Int32.ofNat i) - (Int32.ofNat j)))).2.2.1 (by decide) (by decide) k) ?_
                  exact f451 (by unfold sp29; rw [if_neg g0, if_neg g1, if_neg g2, if_neg g3, if_neg g4, if_pos g5])
                · skip
                  refine Gl.step (B := (T83.setTop (mkF m 447 #[.val (.int p1), .val (.int p2), .val (.int p3), .val (.int k1), .val (.int k2), .val (.int k3), .val (.int k4), .val (.ref b_1), .val (.ref b_3), .val (.ref b_5), .val (.ref b_7), .val (.ref b9), .val (.ref b_20), .val (.ref b_29), .val (.ref b_38), .val (.ref b_47), .val (.ref b49), .val (.ref b_61), .val (.int (Int32.ofNat i)), .val (.int (Int32.ofNat j)), .val (.int (md c2 c3 c4 i j)), .val (.int v21), .val (.int v22), .val (.int v23), .val (.int v24), .val (.int v25), .val (.int v26), .val (.int v27), .val (.int v28), .unset] []))) (fun t k => XS.icmpNo X83.here hx rfl (hb hby at_444) rfl (flt (by rw [h27]; exact g5 : ¬ (v27 < ((Int32.ofNat i) - (Int32.ofNat j))))).2.2.1 k) ?_
                  exact t447 (by unfold sp29; rw [if_neg g0, if_neg g1, if_neg g2, if_neg g3, if_neg g4, if_neg g5])
    have j348 : ∀ v21 v22 v23 v24 v25 v26 v27 : Int32, v21 = b32 c2 → v22 = b32 c3 → v23 = b32 c4 → v24 = 1 + b32 c2 → v25 = 1 + b32 c2 + b32 c3 → v26 = 1 + b32 c2 + b32 c3 + b32 c4 → v27 = sp27 c2 c3 c4 j → Gl p.tables e below (fun o U' => ∃ v L, o = .returned v ∧ Q_rm0 Z p1 p2 p3 zc ca cl va1 va2 va3 va4 h0 n0 v U'.heap L ∧ FrameEnd s o U' L room_1.cells room_1.slots) (T83.setTop (mkF m 348 #[.val (.int p1), .val (.int p2), .val (.int p3), .val (.int k1), .val (.int k2), .val (.int k3), .val (.int k4), .val (.ref b_1), .val (.ref b_3), .val (.ref b_5), .val (.ref b_7), .val (.ref b9), .val (.ref b_20), .val (.ref b_29), .val (.ref b_38), .val (.ref b_47), .val (.ref b49), .val (.ref b_61), .val (.int (Int32.ofNat i)), .val (.int (Int32.ofNat j)), .val (.int (md c2 c3 c4 i j)), .val (.int v21), .val (.int v22), .val (.int v23), .val (.int v24), .val (.int v25), .val (.int v26), .val (.int v27), .unset, .unset] [])) := by
      intro v21 v22 v23 v24 v25 v26 v27 h21 h22 h23 h24 h25 h26 h27
      have t399 : (ok 2 i j c2 = true ∧ ok 3 i j c3 = true ∧ ok 4 i j c4 = true) → Gl p.tables e below (fun o U' => ∃ v L, o = .returned v ∧ Q_rm0 Z p1 p2 p3 zc ca cl va1 va2 va3 va4 h0 n0 v U'.heap L ∧ FrameEnd s o U' L room_1.cells room_1.slots) (T83.setTop (mkF m 399 #[.val (.int p1), .val (.int p2), .val (.int p3), .val (.int k1), .val (.int k2), .val (.int k3), .val (.int k4), .val (.ref b_1), .val (.ref b_3), .val (.ref b_5), .val (.ref b_7), .val (.ref b9), .val (.ref b_20), .val (.ref b_29), .val (.ref b_38), .val (.ref b_47), .val (.ref b49), .val (.ref b_61), .val (.int (Int32.ofNat i)), .val (.int (Int32.ofNat j)), .val (.int (md c2 c3 c4 i j)), .val (.int v21), .val (.int v22), .val (.int v23), .val (.int v24), .val (.int v25), .val (.int v26), .val (.int v27), .unset, .unset] [])) := by
        intro hyp
        refine Gl.step (B := (T83.setTop (mkF m 406 #[.val (.int p1), .val (.int p2), .val (.int p3), .val (.int k1), .val (.int k2), .val (.int k3), .val (.int k4), .val (.ref b_1), .val (.ref b_3), .val (.ref b_5), .val (.ref b_7), .val (.ref b9), .val (.ref b_20), .val (.ref b_29), .val (.ref b_38), .val (.ref b_47), .val (.ref b49), .val (.ref b_61), .val (.int (Int32.ofNat i)), .val (.int (Int32.ofNat j)), .val (.int (md c2 c3 c4 i j)), .val (.int v21), .val (.int v22), .val (.int v23), .val (.int v24), .val (.int v25), .val (.int v26), .val (.int v27), .val (.int (1 : Int32)), .unset] []))) (fun t k => XS.iconst X83.here hx rfl (hb hby at_399) (XS.goto X83.here hx rfl (pc0 := 400) (pc' := 404) rfl (hb hby at_400) (by decide) (by decide) (XS.istore X83.here hx rfl (hb hby at_404) rfl (l' := #[.val (.int p1), .val (.int p2), .val (.int p3), .val (.int k1), .val (.int k2), .val (.int k3), .val (.int k4), .val (.ref b_1), .val (.ref b_3), .val (.ref b_5), .val (.ref b_7), .val (.ref b9), .val (.ref b_20), .val (.ref b_29), .val (.ref b_38), .val (.ref b_47), .val (.ref b49), .val (.ref b_61), .val (.int (Int32.ofNat i)), .val (.int (Int32.ofNat j)), .val (.int (md c2 c3 c4 i j)), .val (.int v21), .val (.int v22), .val (.int v23), .val (.int v24), .val (.int v25), .val (.int v26), .val (.int v27), .val (.int (1 : Int32)), .unset]) rfl k))) ?_
        exact j406 v21 v22 v23 v24 v25 v26 v27 (1 : Int32) h21 h22 h23 h24 h25 h26 h27 (by unfold sp28; rw [hyp.1, hyp.2.1, hyp.2.2]; rfl)
      have f403 : ¬ ((ok 2 i j c2 && ok 3 i j c3 && ok 4 i j c4) = true) → Gl p.tables e below (fun o U' => ∃ v L, o = .returned v ∧ Q_rm0 Z p1 p2 p3 zc ca cl va1 va2 va3 va4 h0 n0 v U'.heap L ∧ FrameEnd s o U' L room_1.cells room_1.slots) (T83.setTop (mkF m 403 #[.val (.int p1), .val (.int p2), .val (.int p3), .val (.int k1), .val (.int k2), .val (.int k3), .val (.int k4), .val (.ref b_1), .val (.ref b_3), .val (.ref b_5), .val (.ref b_7), .val (.ref b9), .val (.ref b_20), .val (.ref b_29), .val (.ref b_38), .val (.ref b_47), .val (.ref b49), .val (.ref b_61), .val (.int (Int32.ofNat i)), .val (.int (Int32.ofNat j)), .val (.int (md c2 c3 c4 i j)), .val (.int v21), .val (.int v22), .val (.int v23), .val (.int v24), .val (.int v25), .val (.int v26), .val (.int v27), .unset, .unset] [])) := by
        intro hyp
        refine Gl.step (B := (T83.setTop (mkF m 406 #[.val (.int p1), .val (.int p2), .val (.int p3), .val (.int k1), .val (.int k2), .val (.int k3), .val (.int k4), .val (.ref b_1), .val (.ref b_3), .val (.ref b_5), .val (.ref b_7), .val (.ref b9), .val (.ref b_20), .val (.ref b_29), .val (.ref b_38), .val (.ref b_47), .val (.ref b49), .val (.ref b_61), .val (.int (Int32.ofNat i)), .val (.int (Int32.ofNat j)), .val (.int (md c2 c3 c4 i j)), .val (.int v21), .val (.int v22), .val (.int v23), .val (.int v24), .val (.int v25), .val (.int v26), .val (.int v27), .val (.int (0 : Int32)), .unset] []))) (fun t k => XS.iconst X83.here hx rfl (hb hby at_403) (XS.istore X83.here hx rfl (hb hby at_404) rfl (l' := #[.val (.int p1), .val (.int p2), .val (.int p3), .val (.int k1), .val (.int k2), .val (.int k3), .val (.int k4), .val (.ref b_1), .val (.ref b_3), .val (.ref b_5), .val (.ref b_7), .val (.ref b9), .val (.ref b_20), .val (.ref b_29), .val (.ref b_38), .val (.ref b_47), .val (.ref b49), .val (.ref b_61), .val (.int (Int32.ofNat i)), .val (.int (Int32.ofNat j)), .val (.int (md c2 c3 c4 i j)), .val (.int v21), .val (.int v22), .val (.int v23), .val (.int v24), .val (.int v25), .val (.int v26), .val (.int v27), .val (.int (0 : Int32)), .unset]) rfl k)) ?_
        exact j406 v21 v22 v23 v24 v25 v26 v27 (0 : Int32) h21 h22 h23 h24 h25 h26 h27 (by unfold sp28; rw [if_neg hyp])
      have j382 : (ok 2 i j c2 = true ∧ ok 3 i j c3 = true) → Gl p.tables e below (fun o U' => ∃ v L, o = .returned v ∧ Q_rm0 Z p1 p2 p3 zc ca cl va1 va2 va3 va4 h0 n0 v U'.heap L ∧ FrameEnd s o U' L room_1.cells room_1.slots) (T83.setTop (mkF m 382 #[.val (.int p1), .val (.int p2), .val (.int p3), .val (.int k1), .val (.int k2), .val (.int k3), .val (.int k4), .val (.ref b_1), .val (.ref b_3), .val (.ref b_5), .val (.ref b_7), .val (.ref b9), .val (.ref b_20), .val (.ref b_29), .val (.ref b_38), .val (.ref b_47), .val (.ref b49), .val (.ref b_61), .val (.int (Int32.ofNat i)), .val (.int (Int32.ofNat j)), .val (.int (md c2 c3 c4 i j)), .val (.int v21), .val (.int v22), .val (.int v23), .val (.int v24), .val (.int v25), .val (.int v26), .val (.int v27), .unset, .unset] [])) := by
        intro hyp
        refine Gl.step (B := (T83.setTop (mkF m 385 #[.val (.int p1), .val (.int p2), .val (.int p3), .val (.int k1), .val (.int k2), .val (.int k3), .val (.int k4), .val (.ref b_1), .val (.ref b_3), .val (.ref b_5), .val (.ref b_7), .val (.ref b9), .val (.ref b_20), .val (.ref b_29), .val (.ref b_38), .val (.ref b_47), .val (.ref b49), .val (.ref b_61), .val (.int (Int32.ofNat i)), .val (.int (Int32.ofNat j)), .val (.int (md c2 c3 c4 i j)), .val (.int v21), .val (.int v22), .val (.int v23), .val (.int v24), .val (.int v25), .val (.int v26), .val (.int v27), .unset, .unset] [(.int (Int32.ofNat j)), (.int (4 : Int32))]))) (fun t k => XS.iconst X83.here hx rfl (hb hby at_382) (XS.iload X83.here hx rfl (hb hby at_383) rfl k)) ?_
        by_cases ga : j < 4
        · skip
          refine Gl.step (B := (T83.setTop (mkF m 391 #[.val (.int p1), .val (.int p2), .val (.int p3), .val (.int k1), .val (.int k2), .val (.int k3), .val (.int k4), .val (.ref b_1), .val (.ref b_3), .val (.ref b_5), .val (.ref b_7), .val (.ref b9), .val (.ref b_20), .val (.ref b_29), .val (.ref b_38), .val (.ref b_47), .val (.ref b49), .val (.ref b_61), .val (.int (Int32.ofNat i)), .val (.int (Int32.ofNat j)), .val (.int (md c2 c3 c4 i j)), .val (.int v21), .val (.int v22), .val (.int v23), .val (.int v24), .val (.int v25), .val (.int v26), .val (.int v27), .unset, .unset] [(.int (Int32.ofNat i)), (.int (4 : Int32))]))) (fun t k => XS.icmpNo X83.here hx rfl (hb hby at_385) rfl (tlt ((own_olt (n := j) (m := 4) (by omega) (by omega)).mpr ga : (Int32.ofNat j) < (4 : Int32))).2.2.2 (XS.iconst X83.here hx rfl (hb hby at_388) (XS.iload X83.here hx rfl (hb hby at_389) rfl k))) ?_
          by_cases gb : i < 4
          · skip
            refine Gl.step (B := (T83.setTop (mkF m 399 #[.val (.int p1), .val (.int p2), .val (.int p3), .val (.int k1), .val (.int k2), .val (.int k3), .val (.int k4), .val (.ref b_1), .val (.ref b_3), .val (.ref b_5), .val (.ref b_7), .val (.ref b9), .val (.ref b_20), .val (.ref b_29), .val (.ref b_38), .val (.ref b_47), .val (.ref b49), .val (.ref b_61), .val (.int (Int32.ofNat i)), .val (.int (Int32.ofNat j)), .val (.int (md c2 c3 c4 i j)), .val (.int v21), .val (.int v22), .val (.int v23), .val (.int v24), .val (.int v25), .val (.int v26), .val (.int v27), .unset, .unset] []))) (fun t k => XS.icmpYes X83.here hx rfl (pc0 := 391) (pc' := 399) rfl (hb hby at_391) rfl (tlt ((own_olt (n := i) (m := 4) (by omega) (by omega)).mpr gb : (Int32.ofNat i) < (4 : Int32))).2.2.1 (by decide) (by decide) k) ?_
            exact t399 ⟨hyp.1, hyp.2, (by unfold ok; rw [decide_eq_true gb]; simp)⟩
          · skip
            refine Gl.step (B := (T83.setTop (mkF m 396 #[.val (.int p1), .val (.int p2), .val (.int p3), .val (.int k1), .val (.int k2), .val (.int k3), .val (.int k4), .val (.ref b_1), .val (.ref b_3), .val (.ref b_5), .val (.ref b_7), .val (.ref b9), .val (.ref b_20), .val (.ref b_29), .val (.ref b_38), .val (.ref b_47), .val (.ref b49), .val (.ref b_61), .val (.int (Int32.ofNat i)), .val (.int (Int32.ofNat j)), .val (.int (md c2 c3 c4 i j)), .val (.int v21), .val (.int v22), .val (.int v23), .val (.int v24), .val (.int v25), .val (.int v26), .val (.int v27), .unset, .unset] [(.int v23)]))) (fun t k => XS.icmpNo X83.here hx rfl (hb hby at_391) rfl (flt (fun z => gb ((own_olt (n := i) (m := 4) (by omega) (by omega)).mp z) : ¬ ((Int32.ofNat i) < (4 : Int32)))).2.2.1 (XS.iload X83.here hx rfl (hb hby at_394) rfl k)) ?_
            by_cases gc : c4 = true
            · skip
              refine Gl.step (B := (T83.setTop (mkF m 399 #[.val (.int p1), .val (.int p2), .val (.int p3), .val (.int k1), .val (.int k2), .val (.int k3), .val (.int k4), .val (.ref b_1), .val (.ref b_3), .val (.ref b_5), .val (.ref b_7), .val (.ref b9), .val (.ref b_20), .val (.ref b_29), .val (.ref b_38), .val (.ref b_47), .val (.ref b49), .val (.ref b_61), .val (.int (Int32.ofNat i)), .val (.int (Int32.ofNat j)), .val (.int (md c2 c3 c4 i j)), .val (.int v21), .val (.int v22), .val (.int v23), .val (.int v24), .val (.int v25), .val (.int v26), .val (.int v27), .unset, .unset] []))) (fun t k => XS.ifNo X83.here hx rfl (hb hby at_396) rfl ((if0 _ _).trans (feq (by rw [h23, own_bt gc]; decide : ¬ (v23 = (0 : Int32)))).1) k) ?_
              exact t399 ⟨hyp.1, hyp.2, (by unfold ok; rw [gc]; simp)⟩
            · skip
              refine Gl.step (B := (T83.setTop (mkF m 403 #[.val (.int p1), .val (.int p2), .val (.int p3), .val (.int k1), .val (.int k2), .val (.int k3), .val (.int k4), .val (.ref b_1), .val (.ref b_3), .val (.ref b_5), .val (.ref b_7), .val (.ref b9), .val (.ref b_20), .val (.ref b_29), .val (.ref b_38), .val (.ref b_47), .val (.ref b49), .val (.ref b_61), .val (.int (Int32.ofNat i)), .val (.int (Int32.ofNat j)), .val (.int (md c2 c3 c4 i j)), .val (.int v21), .val (.int v22), .val (.int v23), .val (.int v24), .val (.int v25), .val (.int v26), .val (.int v27), .unset, .unset] []))) (fun t k => XS.ifYes X83.here hx rfl (pc0 := 396) (pc' := 403) rfl (hb hby at_396) rfl ((if0 _ _).trans (teq (by rw [h23, own_bf gc] : v23 = (0 : Int32))).1) (by decide) (by decide) k) ?_
              exact f403 (by have q : ok 4 i j c4 = false := (by unfold ok; rw [decide_eq_false (by omega : ¬ 4 ≤ j), decide_eq_false gb]; cases c4 with | false => rfl | true => exact absurd rfl gc); rw [q]; simp)
        · skip
          refine Gl.step (B := (T83.setTop (mkF m 399 #[.val (.int p1), .val (.int p2), .val (.int p3), .val (.int k1), .val (.int k2), .val (.int k3), .val (.int k4), .val (.ref b_1), .val (.ref b_3), .val (.ref b_5), .val (.ref b_7), .val (.ref b9), .val (.ref b_20), .val (.ref b_29), .val (.ref b_38), .val (.ref b_47), .val (.ref b49), .val (.ref b_61), .val (.int (Int32.ofNat i)), .val (.int (Int32.ofNat j)), .val (.int (md c2 c3 c4 i j)), .val (.int v21), .val (.int v22), .val (.int v23), .val (.int v24), .val (.int v25), .val (.int v26), .val (.int v27), .unset, .unset] []))) (fun t k => XS.icmpYes X83.here hx rfl (pc0 := 385) (pc' := 399) rfl (hb hby at_385) rfl (flt (fun z => ga ((own_olt (n := j) (m := 4) (by omega) (by omega)).mp z) : ¬ ((Int32.ofNat j) < (4 : Int32)))).2.2.2 (by decide) (by decide) k) ?_
          exact t399 ⟨hyp.1, hyp.2, (by unfold ok; rw [decide_eq_true (Nat.le_of_not_lt ga)]; simp)⟩
      have j365 : ok 2 i j c2 = true → Gl p.tables e below (fun o U' => ∃ v L, o = .returned v ∧ Q_rm0 Z p1 p2 p3 zc ca cl va1 va2 va3 va4 h0 n0 v U'.heap L ∧ FrameEnd s o U' L room_1.cells room_1.slots) (T83.setTop (mkF m 365 #[.val (.int p1), .val (.int p2), .val (.int p3), .val (.int k1), .val (.int k2), .val (.int k3), .val (.int k4), .val (.ref b_1), .val (.ref b_3), .val (.ref b_5), .val (.ref b_7), .val (.ref b9), .val (.ref b_20), .val (.ref b_29), .val (.ref b_38), .val (.ref b_47), .val (.ref b49), .val (.ref b_61), .val (.int (Int32.ofNat i)), .val (.int (Int32.ofNat j)), .val (.int (md c2 c3 c4 i j)), .val (.int v21), .val (.int v22), .val (.int v23), .val (.int v24), .val (.int v25), .val (.int v26), .val (.int v27), .unset, .unset] [])) := by
        intro hyp
        refine Gl.step (B := (T83.setTop (mkF m 368 #[.val (.int p1), .val (.int p2), .val (.int p3), .val (.int k1), .val (.int k2), .val (.int k3), .val (.int k4), .val (.ref b_1), .val (.ref b_3), .val (.ref b_5), .val (.ref b_7), .val (.ref b9), .val (.ref b_20), .val (.ref b_29), .val (.ref b_38), .val (.ref b_47), .val (.ref b49), .val (.ref b_61), .val (.int (Int32.ofNat i)), .val (.int (Int32.ofNat j)), .val (.int (md c2 c3 c4 i j)), .val (.int v21), .val (.int v22), .val (.int v23), .val (.int v24), .val (.int v25), .val (.int v26), .val (.int v27), .unset, .unset] [(.int (Int32.ofNat j)), (.int (3 : Int32))]))) (fun t k => XS.iconst X83.here hx rfl (hb hby at_365) (XS.iload X83.here hx rfl (hb hby at_366) rfl k)) ?_
        by_cases ga : j < 3
        · skip
          refine Gl.step (B := (T83.setTop (mkF m 374 #[.val (.int p1), .val (.int p2), .val (.int p3), .val (.int k1), .val (.int k2), .val (.int k3), .val (.int k4), .val (.ref b_1), .val (.ref b_3), .val (.ref b_5), .val (.ref b_7), .val (.ref b9), .val (.ref b_20), .val (.ref b_29), .val (.ref b_38), .val (.ref b_47), .val (.ref b49), .val (.ref b_61), .val (.int (Int32.ofNat i)), .val (.int (Int32.ofNat j)), .val (.int (md c2 c3 c4 i j)), .val (.int v21), .val (.int v22), .val (.int v23), .val (.int v24), .val (.int v25), .val (.int v26), .val (.int v27), .unset, .unset] [(.int (Int32.ofNat i)), (.int (3 : Int32))]))) (fun t k => XS.icmpNo X83.here hx rfl (hb hby at_368) rfl (tlt ((own_olt (n := j) (m := 3) (by omega) (by omega)).mpr ga : (Int32.ofNat j) < (3 : Int32))).2.2.2 (XS.iconst X83.here hx rfl (hb hby at_371) (XS.iload X83.here hx rfl (hb hby at_372) rfl k))) ?_
          by_cases gb : i < 3
          · skip
            refine Gl.step (B := (T83.setTop (mkF m 382 #[.val (.int p1), .val (.int p2), .val (.int p3), .val (.int k1), .val (.int k2), .val (.int k3), .val (.int k4), .val (.ref b_1), .val (.ref b_3), .val (.ref b_5), .val (.ref b_7), .val (.ref b9), .val (.ref b_20), .val (.ref b_29), .val (.ref b_38), .val (.ref b_47), .val (.ref b49), .val (.ref b_61), .val (.int (Int32.ofNat i)), .val (.int (Int32.ofNat j)), .val (.int (md c2 c3 c4 i j)), .val (.int v21), .val (.int v22), .val (.int v23), .val (.int v24), .val (.int v25), .val (.int v26), .val (.int v27), .unset, .unset] []))) (fun t k => XS.icmpYes X83.here hx rfl (pc0 := 374) (pc' := 382) rfl (hb hby at_374) rfl (tlt ((own_olt (n := i) (m := 3) (by omega) (by omega)).mpr gb : (Int32.ofNat i) < (3 : Int32))).2.2.1 (by decide) (by decide) k) ?_
            exact j382 ⟨hyp, (by unfold ok; rw [decide_eq_true gb]; simp)⟩
          · skip
            refine Gl.step (B := (T83.setTop (mkF m 379 #[.val (.int p1), .val (.int p2), .val (.int p3), .val (.int k1), .val (.int k2), .val (.int k3), .val (.int k4), .val (.ref b_1), .val (.ref b_3), .val (.ref b_5), .val (.ref b_7), .val (.ref b9), .val (.ref b_20), .val (.ref b_29), .val (.ref b_38), .val (.ref b_47), .val (.ref b49), .val (.ref b_61), .val (.int (Int32.ofNat i)), .val (.int (Int32.ofNat j)), .val (.int (md c2 c3 c4 i j)), .val (.int v21), .val (.int v22), .val (.int v23), .val (.int v24), .val (.int v25), .val (.int v26), .val (.int v27), .unset, .unset] [(.int v22)]))) (fun t k => XS.icmpNo X83.here hx rfl (hb hby at_374) rfl (flt (fun z => gb ((own_olt (n := i) (m := 3) (by omega) (by omega)).mp z) : ¬ ((Int32.ofNat i) < (3 : Int32)))).2.2.1 (XS.iload X83.here hx rfl (hb hby at_377) rfl k)) ?_
            by_cases gc : c3 = true
            · skip
              refine Gl.step (B := (T83.setTop (mkF m 382 #[.val (.int p1), .val (.int p2), .val (.int p3), .val (.int k1), .val (.int k2), .val (.int k3), .val (.int k4), .val (.ref b_1), .val (.ref b_3), .val (.ref b_5), .val (.ref b_7), .val (.ref b9), .val (.ref b_20), .val (.ref b_29), .val (.ref b_38), .val (.ref b_47), .val (.ref b49), .val (.ref b_61), .val (.int (Int32.ofNat i)), .val (.int (Int32.ofNat j)), .val (.int (md c2 c3 c4 i j)), .val (.int v21), .val (.int v22), .val (.int v23), .val (.int v24), .val (.int v25), .val (.int v26), .val (.int v27), .unset, .unset] []))) (fun t k => XS.ifNo X83.here hx rfl (hb hby at_379) rfl ((if0 _ _).trans (feq (by rw [h22, own_bt gc]; decide : ¬ (v22 = (0 : Int32)))).1) k) ?_
              exact j382 ⟨hyp, (by unfold ok; rw [gc]; simp)⟩
            · skip
              refine Gl.step (B := (T83.setTop (mkF m 403 #[.val (.int p1), .val (.int p2), .val (.int p3), .val (.int k1), .val (.int k2), .val (.int k3), .val (.int k4), .val (.ref b_1), .val (.ref b_3), .val (.ref b_5), .val (.ref b_7), .val (.ref b9), .val (.ref b_20), .val (.ref b_29), .val (.ref b_38), .val (.ref b_47), .val (.ref b49), .val (.ref b_61), .val (.int (Int32.ofNat i)), .val (.int (Int32.ofNat j)), .val (.int (md c2 c3 c4 i j)), .val (.int v21), .val (.int v22), .val (.int v23), .val (.int v24), .val (.int v25), .val (.int v26), .val (.int v27), .unset, .unset] []))) (fun t k => XS.ifYes X83.here hx rfl (pc0 := 379) (pc' := 403) rfl (hb hby at_379) rfl ((if0 _ _).trans (teq (by rw [h22, own_bf gc] : v22 = (0 : Int32))).1) (by decide) (by decide) k) ?_
              exact f403 (by have q : ok 3 i j c3 = false := (by unfold ok; rw [decide_eq_false (by omega : ¬ 3 ≤ j), decide_eq_false gb]; cases c3 with | false => rfl | true => exact absurd rfl gc); rw [q]; simp)
        · skip
          refine Gl.step (B := (T83.setTop (mkF m 382 #[.val (.int p1), .val (.int p2), .val (.int p3), .val (.int k1), .val (.int k2), .val (.int k3), .val (.int k4), .val (.ref b_1), .val (.ref b_3), .val (.ref b_5), .val (.ref b_7), .val (.ref b9), .val (.ref b_20), .val (.ref b_29), .val (.ref b_38), .val (.ref b_47), .val (.ref b49), .val (.ref b_61), .val (.int (Int32.ofNat i)), .val (.int (Int32.ofNat j)), .val (.int (md c2 c3 c4 i j)), .val (.int v21), .val (.int v22), .val (.int v23), .val (.int v24), .val (.int v25), .val (.int v26), .val (.int v27), .unset, .unset] []))) (fun t k => XS.icmpYes X83.here hx rfl (pc0 := 368) (pc' := 382) rfl (hb hby at_368) rfl (flt (fun z => ga ((own_olt (n := j) (m := 3) (by omega) (by omega)).mp z) : ¬ ((Int32.ofNat j) < (3 : Int32)))).2.2.2 (by decide) (by decide) k) ?_
          exact j382 ⟨hyp, (by unfold ok; rw [decide_eq_true (Nat.le_of_not_lt ga)]; simp)⟩
      refine Gl.step (B := (T83.setTop (mkF m 351 #[.val (.int p1), .val (.int p2), .val (.int p3), .val (.int k1), .val (.int k2), .val (.int k3), .val (.int k4), .val (.ref b_1), .val (.ref b_3), .val (.ref b_5), .val (.ref b_7), .val (.ref b9), .val (.ref b_20), .val (.ref b_29), .val (.ref b_38), .val (.ref b_47), .val (.ref b49), .val (.ref b_61), .val (.int (Int32.ofNat i)), .val (.int (Int32.ofNat j)), .val (.int (md c2 c3 c4 i j)), .val (.int v21), .val (.int v22), .val (.int v23), .val (.int v24), .val (.int v25), .val (.int v26), .val (.int v27), .unset, .unset] [(.int (Int32.ofNat j)), (.int (2 : Int32))]))) (fun t k => XS.iconst X83.here hx rfl (hb hby at_348) (XS.iload X83.here hx rfl (hb hby at_349) rfl k)) ?_
      by_cases ga : j < 2
      · skip
        refine Gl.step (B := (T83.setTop (mkF m 357 #[.val (.int p1), .val (.int p2), .val (.int p3), .val (.int k1), .val (.int k2), .val (.int k3), .val (.int k4), .val (.ref b_1), .val (.ref b_3), .val (.ref b_5), .val (.ref b_7), .val (.ref b9), .val (.ref b_20), .val (.ref b_29), .val (.ref b_38), .val (.ref b_47), .val (.ref b49), .val (.ref b_61), .val (.int (Int32.ofNat i)), .val (.int (Int32.ofNat j)), .val (.int (md c2 c3 c4 i j)), .val (.int v21), .val (.int v22), .val (.int v23), .val (.int v24), .val (.int v25), .val (.int v26), .val (.int v27), .unset, .unset] [(.int (Int32.ofNat i)), (.int (2 : Int32))]))) (fun t k => XS.icmpNo X83.here hx rfl (hb hby at_351) rfl (tlt ((own_olt (n := j) (m := 2) (by omega) (by omega)).mpr ga : (Int32.ofNat j) < (2 : Int32))).2.2.2 (XS.iconst X83.here hx rfl (hb hby at_354) (XS.iload X83.here hx rfl (hb hby at_355) rfl k))) ?_
        by_cases gb : i < 2
        · skip
          refine Gl.step (B := (T83.setTop (mkF m 365 #[.val (.int p1), .val (.int p2), .val (.int p3), .val (.int k1), .val (.int k2), .val (.int k3), .val (.int k4), .val (.ref b_1), .val (.ref b_3), .val (.ref b_5), .val (.ref b_7), .val (.ref b9), .val (.ref b_20), .val (.ref b_29), .val (.ref b_38), .val (.ref b_47), .val (.ref b49), .val (.ref b_61), .val (.int (Int32.ofNat i)), .val (.int (Int32.ofNat j)), .val (.int (md c2 c3 c4 i j)), .val (.int v21), .val (.int v22), .val (.int v23), .val (.int v24), .val (.int v25), .val (.int v26), .val (.int v27), .unset, .unset] []))) (fun t k => XS.icmpYes X83.here hx rfl (pc0 := 357) (pc' := 365) rfl (hb hby at_357) rfl (tlt ((own_olt (n := i) (m := 2) (by omega) (by omega)).mpr gb : (Int32.ofNat i) < (2 : Int32))).2.2.1 (by decide) (by decide) k) ?_
          exact j365 (by unfold ok; rw [decide_eq_true gb]; simp)
        · skip
          refine Gl.step (B := (T83.setTop (mkF m 362 #[.val (.int p1), .val (.int p2), .val (.int p3), .val (.int k1), .val (.int k2), .val (.int k3), .val (.int k4), .val (.ref b_1), .val (.ref b_3), .val (.ref b_5), .val (.ref b_7), .val (.ref b9), .val (.ref b_20), .val (.ref b_29), .val (.ref b_38), .val (.ref b_47), .val (.ref b49), .val (.ref b_61), .val (.int (Int32.ofNat i)), .val (.int (Int32.ofNat j)), .val (.int (md c2 c3 c4 i j)), .val (.int v21), .val (.int v22), .val (.int v23), .val (.int v24), .val (.int v25), .val (.int v26), .val (.int v27), .unset, .unset] [(.int v21)]))) (fun t k => XS.icmpNo X83.here hx rfl (hb hby at_357) rfl (flt (fun z => gb ((own_olt (n := i) (m := 2) (by omega) (by omega)).mp z) : ¬ ((Int32.ofNat i) < (2 : Int32)))).2.2.1 (XS.iload X83.here hx rfl (hb hby at_360) rfl k)) ?_
          by_cases gc : c2 = true
          · skip
            refine Gl.step (B := (T83.setTop (mkF m 365 #[.val (.int p1), .val (.int p2), .val (.int p3), .val (.int k1), .val (.int k2), .val (.int k3), .val (.int k4), .val (.ref b_1), .val (.ref b_3), .val (.ref b_5), .val (.ref b_7), .val (.ref b9), .val (.ref b_20), .val (.ref b_29), .val (.ref b_38), .val (.ref b_47), .val (.ref b49), .val (.ref b_61), .val (.int (Int32.ofNat i)), .val (.int (Int32.ofNat j)), .val (.int (md c2 c3 c4 i j)), .val (.int v21), .val (.int v22), .val (.int v23), .val (.int v24), .val (.int v25), .val (.int v26), .val (.int v27), .unset, .unset] []))) (fun t k => XS.ifNo X83.here hx rfl (hb hby at_362) rfl ((if0 _ _).trans (feq (by rw [h21, own_bt gc]; decide : ¬ (v21 = (0 : Int32)))).1) k) ?_
            exact j365 (by unfold ok; rw [gc]; simp)
          · skip
            refine Gl.step (B := (T83.setTop (mkF m 403 #[.val (.int p1), .val (.int p2), .val (.int p3), .val (.int k1), .val (.int k2), .val (.int k3), .val (.int k4), .val (.ref b_1), .val (.ref b_3), .val (.ref b_5), .val (.ref b_7), .val (.ref b9), .val (.ref b_20), .val (.ref b_29), .val (.ref b_38), .val (.ref b_47), .val (.ref b49), .val (.ref b_61), .val (.int (Int32.ofNat i)), .val (.int (Int32.ofNat j)), .val (.int (md c2 c3 c4 i j)), .val (.int v21), .val (.int v22), .val (.int v23), .val (.int v24), .val (.int v25), .val (.int v26), .val (.int v27), .unset, .unset] []))) (fun t k => XS.ifYes X83.here hx rfl (pc0 := 362) (pc' := 403) rfl (hb hby at_362) rfl ((if0 _ _).trans (teq (by rw [h21, own_bf gc] : v21 = (0 : Int32))).1) (by decide) (by decide) k) ?_
            exact f403 (by have q : ok 2 i j c2 = false := (by unfold ok; rw [decide_eq_false (by omega : ¬ 2 ≤ j), decide_eq_false gb]; cases c2 with | false => rfl | true => exact absurd rfl gc); rw [q]; simp)
      · skip
        refine Gl.step (B := (T83.setTop (mkF m 365 #[.val (.int p1), .val (.int p2), .val (.int p3), .val (.int k1), .val (.int k2), .val (.int k3), .val (.int k4), .val (.ref b_1), .val (.ref b_3), .val (.ref b_5), .val (.ref b_7), .val (.ref b9), .val (.ref b_20), .val (.ref b_29), .val (.ref b_38), .val (.ref b_47), .val (.ref b49), .val (.ref b_61), .val (.int (Int32.ofNat i)), .val (.int (Int32.ofNat j)), .val (.int (md c2 c3 c4 i j)), .val (.int v21), .val (.int v22), .val (.int v23), .val (.int v24), .val (.int v25), .val (.int v26), .val (.int v27), .unset, .unset] []))) (fun t k => XS.icmpYes X83.here hx rfl (pc0 := 351) (pc' := 365) rfl (hb hby at_351) rfl (flt (fun z => ga ((own_olt (n := j) (m := 2) (by omega) (by omega)).mp z) : ¬ ((Int32.ofNat j) < (2 : Int32)))).2.2.2 (by decide) (by decide) k) ?_
        exact j365 (by unfold ok; rw [decide_eq_true (Nat.le_of_not_lt ga)]; simp)
    have j303 : ∀ v21 v22 v23 v24 v25 v26 : Int32, v21 = b32 c2 → v22 = b32 c3 → v23 = b32 c4 → v24 = 1 + b32 c2 → v25 = 1 + b32 c2 + b32 c3 → v26 = 1 + b32 c2 + b32 c3 + b32 c4 → Gl p.tables e below (fun o U' => ∃ v L, o = .returned v ∧ Q_rm0 Z p1 p2 p3 zc ca cl va1 va2 va3 va4 h0 n0 v U'.heap L ∧ FrameEnd s o U' L room_1.cells room_1.slots) (T83.setTop (mkF m 303 #[.val (.int p1), .val (.int p2), .val (.int p3), .val (.int k1), .val (.int k2), .val (.int k3), .val (.int k4), .val (.ref b_1), .val (.ref b_3), .val (.ref b_5), .val (.ref b_7), .val (.ref b9), .val (.ref b_20), .val (.ref b_29), .val (.ref b_38), .val (.ref b_47), .val (.ref b49), .val (.ref b_61), .val (.int (Int32.ofNat i)), .val (.int (Int32.ofNat j)), .val (.int (md c2 c3 c4 i j)), .val (.int v21), .val (.int v22), .val (.int v23), .val (.int v24), .val (.int v25), .val (.int v26), .unset, .unset, .unset] [])) := by
      intro v21 v22 v23 v24 v25 v26 h21 h22 h23 h24 h25 h26
      refine Gl.step (B := (T83.setTop (mkF m 305 #[.val (.int p1), .val (.int p2), .val (.int p3), .val (.int k1), .val (.int k2), .val (.int k3), .val (.int k4), .val (.ref b_1), .val (.ref b_3), .val (.ref b_5), .val (.ref b_7), .val (.ref b9), .val (.ref b_20), .val (.ref b_29), .val (.ref b_38), .val (.ref b_47), .val (.ref b49), .val (.ref b_61), .val (.int (Int32.ofNat i)), .val (.int (Int32.ofNat j)), .val (.int (md c2 c3 c4 i j)), .val (.int v21), .val (.int v22), .val (.int v23), .val (.int v24), .val (.int v25), .val (.int v26), .unset, .unset, .unset] [(.int (Int32.ofNat j))]))) (fun t k => XS.iload X83.here hx rfl (hb hby at_303) rfl k) ?_
      by_cases g0 : j = 0
      · skip
        refine Gl.step (B := (T83.setTop (mkF m 348 #[.val (.int p1), .val (.int p2), .val (.int p3), .val (.int k1), .val (.int k2), .val (.int k3), .val (.int k4), .val (.ref b_1), .val (.ref b_3), .val (.ref b_5), .val (.ref b_7), .val (.ref b9), .val (.ref b_20), .val (.ref b_29), .val (.ref b_38), .val (.ref b_47), .val (.ref b49), .val (.ref b_61), .val (.int (Int32.ofNat i)), .val (.int (Int32.ofNat j)), .val (.int (md c2 c3 c4 i j)), .val (.int v21), .val (.int v22), .val (.int v23), .val (.int v24), .val (.int v25), .val (.int v26), .val (.int (0 : Int32)), .unset, .unset] []))) (fun t k => XS.ifNo X83.here hx rfl (hb hby at_305) rfl ((if0 _ _).trans (teq ((own_oeq (n := j) (m := 0) (by omega) (by omega)).mpr g0 : (Int32.ofNat j) = (0 : Int32))).2) (XS.iconst X83.here hx rfl (hb hby at_308) (XS.goto X83.here hx rfl (pc0 := 309) (pc' := 346) rfl (hb hby at_309) (by decide) (by decide) (XS.istore X83.here hx rfl (hb hby at_346) rfl (l' := #[.val (.int p1), .val (.int p2), .val (.int p3), .val (.int k1), .val (.int k2), .val (.int k3), .val (.int k4), .val (.ref b_1), .val (.ref b_3), .val (.ref b_5), .val (.ref b_7), .val (.ref b9), .val (.ref b_20), .val (.ref b_29), .val (.ref b_38), .val (.ref b_47), .val (.ref b49), .val (.ref b_61), .val (.int (Int32.ofNat i)), .val (.int (Int32.ofNat j)), .val (.int (md c2 c3 c4 i j)), .val (.int v21), .val (.int v22), .val (.int v23), .val (.int v24), .val (.int v25), .val (.int v26), .val (.int (0 : Int32)), .unset, .unset]) rfl k)))) ?_
        exact j348 v21 v22 v23 v24 v25 v26 (0 : Int32) h21 h22 h23 h24 h25 h26 (by rw [g0]; rfl)
      · skip
        refine Gl.step (B := (T83.setTop (mkF m 315 #[.val (.int p1), .val (.int p2), .val (.int p3), .val (.int k1), .val (.int k2), .val (.int k3), .val (.int k4), .val (.ref b_1), .val (.ref b_3), .val (.ref b_5), .val (.ref b_7), .val (.ref b9), .val (.ref b_20), .val (.ref b_29), .val (.ref b_38), .val (.ref b_47), .val (.ref b49), .val (.ref b_61), .val (.int (Int32.ofNat i)), .val (.int (Int32.ofNat j)), .val (.int (md c2 c3 c4 i j)), .val (.int v21), .val (.int v22), .val (.int v23), .val (.int v24), .val (.int v25), .val (.int v26), .unset, .unset, .unset] [(.int (1 : Int32)), (.int (Int32.ofNat j))]))) (fun t k => XS.ifYes X83.here hx rfl (pc0 := 305) (pc' := 312) rfl (hb hby at_305) rfl ((if0 _ _).trans (feq (fun z => g0 ((own_oeq (n := j) (m := 0) (by omega) (by omega)).mp z) : ¬ ((Int32.ofNat j) = (0 : Int32)))).2) (by decide) (by decide) (XS.iload X83.here hx rfl (hb hby at_312) rfl (XS.iconst X83.here hx rfl (hb hby at_314) k))) ?_
        by_cases g1 : j = 1
        · skip
          refine Gl.step (B := (T83.setTop (mkF m 348 #[.val (.int p1), .val (.int p2), .val (.int p3), .val (.int k1), .val (.int k2), .val (.int k3), .val (.int k4), .val (.ref b_1), .val (.ref b_3), .val (.ref b_5), .val (.ref b_7), .val (.ref b9), .val (.ref b_20), .val (.ref b_29), .val (.ref b_38), .val (.ref b_47), .val (.ref b49), .val (.ref b_61), .val (.int (Int32.ofNat i)), .val (.int (Int32.ofNat j)), .val (.int (md c2 c3 c4 i j)), .val (.int v21), .val (.int v22), .val (.int v23), .val (.int v24), .val (.int v25), .val (.int v26), .val (.int (1 : Int32)), .unset, .unset] []))) (fun t k => XS.icmpNo X83.here hx rfl (hb hby at_315) rfl (teq ((own_oeq (n := j) (m := 1) (by omega) (by omega)).mpr g1 : (Int32.ofNat j) = (1 : Int32))).2 (XS.iconst X83.here hx rfl (hb hby at_318) (XS.goto X83.here hx rfl (pc0 := 319) (pc' := 346) rfl (hb hby at_319) (by decide) (by decide) (XS.istore X83.here hx rfl (hb hby at_346) rfl (l' := #[.val (.int p1), .val (.int p2), .val (.int p3), .val (.int k1), .val (.int k2), .val (.int k3), .val (.int k4), .val (.ref b_1), .val (.ref b_3), .val (.ref b_5), .val (.ref b_7), .val (.ref b9), .val (.ref b_20), .val (.ref b_29), .val (.ref b_38), .val (.ref b_47), .val (.ref b49), .val (.ref b_61), .val (.int (Int32.ofNat i)), .val (.int (Int32.ofNat j)), .val (.int (md c2 c3 c4 i j)), .val (.int v21), .val (.int v22), .val (.int v23), .val (.int v24), .val (.int v25), .val (.int v26), .val (.int (1 : Int32)), .unset, .unset]) rfl k)))) ?_
          exact j348 v21 v22 v23 v24 v25 v26 (1 : Int32) h21 h22 h23 h24 h25 h26 (by rw [g1]; rfl)
        · skip
          refine Gl.step (B := (T83.setTop (mkF m 325 #[.val (.int p1), .val (.int p2), .val (.int p3), .val (.int k1), .val (.int k2), .val (.int k3), .val (.int k4), .val (.ref b_1), .val (.ref b_3), .val (.ref b_5), .val (.ref b_7), .val (.ref b9), .val (.ref b_20), .val (.ref b_29), .val (.ref b_38), .val (.ref b_47), .val (.ref b49), .val (.ref b_61), .val (.int (Int32.ofNat i)), .val (.int (Int32.ofNat j)), .val (.int (md c2 c3 c4 i j)), .val (.int v21), .val (.int v22), .val (.int v23), .val (.int v24), .val (.int v25), .val (.int v26), .unset, .unset, .unset] [(.int (2 : Int32)), (.int (Int32.ofNat j))]))) (fun t k => XS.icmpYes X83.here hx rfl (pc0 := 315) (pc' := 322) rfl (hb hby at_315) rfl (feq (fun z => g1 ((own_oeq (n := j) (m := 1) (by omega) (by omega)).mp z) : ¬ ((Int32.ofNat j) = (1 : Int32)))).2 (by decide) (by decide) (XS.iload X83.here hx rfl (hb hby at_322) rfl (XS.iconst X83.here hx rfl (hb hby at_324) k))) ?_
          by_cases g2 : j = 2
          · skip
            refine Gl.step (B := (T83.setTop (mkF m 348 #[.val (.int p1), .val (.int p2), .val (.int p3), .val (.int k1), .val (.int k2), .val (.int k3), .val (.int k4), .val (.ref b_1), .val (.ref b_3), .val (.ref b_5), .val (.ref b_7), .val (.ref b9), .val (.ref b_20), .val (.ref b_29), .val (.ref b_38), .val (.ref b_47), .val (.ref b49), .val (.ref b_61), .val (.int (Int32.ofNat i)), .val (.int (Int32.ofNat j)), .val (.int (md c2 c3 c4 i j)), .val (.int v21), .val (.int v22), .val (.int v23), .val (.int v24), .val (.int v25), .val (.int v26), .val (.int v24), .unset, .unset] []))) (fun t k => XS.icmpNo X83.here hx rfl (hb hby at_325) rfl (teq ((own_oeq (n := j) (m := 2) (by omega) (by omega)).mpr g2 : (Int32.ofNat j) = (2 : Int32))).2 (XS.iload X83.here hx rfl (hb hby at_328) rfl (XS.goto X83.here hx rfl (pc0 := 330) (pc' := 346) rfl (hb hby at_330) (by decide) (by decide) (XS.istore X83.here hx rfl (hb hby at_346) rfl (l' := #[.val (.int p1), .val (.int p2), .val (.int p3), .val (.int k1), .val (.int k2), .val (.int k3), .val (.int k4), .val (.ref b_1), .val (.ref b_3), .val (.ref b_5), .val (.ref b_7), .val (.ref b9), .val (.ref b_20), .val (.ref b_29), .val (.ref b_38), .val (.ref b_47), .val (.ref b49), .val (.ref b_61), .val (.int (Int32.ofNat i)), .val (.int (Int32.ofNat j)), .val (.int (md c2 c3 c4 i j)), .val (.int v21), .val (.int v22), .val (.int v23), .val (.int v24), .val (.int v25), .val (.int v26), .val (.int v24), .unset, .unset]) rfl k)))) ?_
            exact j348 v21 v22 v23 v24 v25 v26 v24 h21 h22 h23 h24 h25 h26 (by rw [h24, g2]; rfl)
          · skip
            refine Gl.step (B := (T83.setTop (mkF m 336 #[.val (.int p1), .val (.int p2), .val (.int p3), .val (.int k1), .val (.int k2), .val (.int k3), .val (.int k4), .val (.ref b_1), .val (.ref b_3), .val (.ref b_5), .val (.ref b_7), .val (.ref b9), .val (.ref b_20), .val (.ref b_29), .val (.ref b_38), .val (.ref b_47), .val (.ref b49), .val (.ref b_61), .val (.int (Int32.ofNat i)), .val (.int (Int32.ofNat j)), .val (.int (md c2 c3 c4 i j)), .val (.int v21), .val (.int v22), .val (.int v23), .val (.int v24), .val (.int v25), .val (.int v26), .unset, .unset, .unset] [(.int (3 : Int32)), (.int (Int32.ofNat j))]))) (fun t k => XS.icmpYes X83.here hx rfl (pc0 := 325) (pc' := 333) rfl (hb hby at_325) rfl (feq (fun z => g2 ((own_oeq (n := j) (m := 2) (by omega) (by omega)).mp z) : ¬ ((Int32.ofNat j) = (2 : Int32)))).2 (by decide) (by decide) (XS.iload X83.here hx rfl (hb hby at_333) rfl (XS.iconst X83.here hx rfl (hb hby at_335) k))) ?_
            by_cases g3 : j = 3
            · skip
              refine Gl.step (B := (T83.setTop (mkF m 348 #[.val (.int p1), .val (.int p2), .val (.int p3), .val (.int k1), .val (.int k2), .val (.int k3), .val (.int k4), .val (.ref b_1), .val (.ref b_3), .val (.ref b_5), .val (.ref b_7), .val (.ref b9), .val (.ref b_20), .val (.ref b_29), .val (.ref b_38), .val (.ref b_47), .val (.ref b49), .val (.ref b_61), .val (.int (Int32.ofNat i)), .val (.int (Int32.ofNat j)), .val (.int (md c2 c3 c4 i j)), .val (.int v21), .val (.int v22), .val (.int v23), .val (.int v24), .val (.int v25), .val (.int v26), .val (.int v25), .unset, .unset] []))) (fun t k => XS.icmpNo X83.here hx rfl (hb hby at_336) rfl (teq ((own_oeq (n := j) (m := 3) (by omega) (by omega)).mpr g3 : (Int32.ofNat j) = (3 : Int32))).2 (XS.iload X83.here hx rfl (hb hby at_339) rfl (XS.goto X83.here hx rfl (pc0 := 341) (pc' := 346) rfl (hb hby at_341) (by decide) (by decide) (XS.istore X83.here hx rfl (hb hby at_346) rfl (l' := #[.val (.int p1), .val (.int p2), .val (.int p3), .val (.int k1), .val (.int k2), .val (.int k3), .val (.int k4), .val (.ref b_1), .val (.ref b_3), .val (.ref b_5), .val (.ref b_7), .val (.ref b9), .val (.ref b_20), .val (.ref b_29), .val (.ref b_38), .val (.ref b_47), .val (.ref b49), .val (.ref b_61), .val (.int (Int32.ofNat i)), .val (.int (Int32.ofNat j)), .val (.int (md c2 c3 c4 i j)), .val (.int v21), .val (.int v22), .val (.int v23), .val (.int v24), .val (.int v25), .val (.int v26), .val (.int v25), .unset, .unset]) rfl k)))) ?_
              exact j348 v21 v22 v23 v24 v25 v26 v25 h21 h22 h23 h24 h25 h26 (by rw [h25, g3]; rfl)
            · skip
              refine Gl.step (B := (T83.setTop (mkF m 348 #[.val (.int p1), .val (.int p2), .val (.int p3), .val (.int k1), .val (.int k2), .val (.int k3), .val (.int k4), .val (.ref b_1), .val (.ref b_3), .val (.ref b_5), .val (.ref b_7), .val (.ref b9), .val (.ref b_20), .val (.ref b_29), .val (.ref b_38), .val (.ref b_47), .val (.ref b49), .val (.ref b_61), .val (.int (Int32.ofNat i)), .val (.int (Int32.ofNat j)), .val (.int (md c2 c3 c4 i j)), .val (.int v21), .val (.int v22), .val (.int v23), .val (.int v24), .val (.int v25), .val (.int v26), .val (.int v26), .unset, .unset] []))) (fun t k => XS.icmpYes X83.here hx rfl (pc0 := 336) (pc' := 344) rfl (hb hby at_336) rfl (feq (fun z => g3 ((own_oeq (n := j) (m := 3) (by omega) (by omega)).mp z) : ¬ ((Int32.ofNat j) = (3 : Int32)))).2 (by decide) (by decide) (XS.iload X83.here hx rfl (hb hby at_344) rfl (XS.istore X83.here hx rfl (hb hby at_346) rfl (l' := #[.val (.int p1), .val (.int p2), .val (.int p3), .val (.int k1), .val (.int k2), .val (.int k3), .val (.int k4), .val (.ref b_1), .val (.ref b_3), .val (.ref b_5), .val (.ref b_7), .val (.ref b9), .val (.ref b_20), .val (.ref b_29), .val (.ref b_38), .val (.ref b_47), .val (.ref b49), .val (.ref b_61), .val (.int (Int32.ofNat i)), .val (.int (Int32.ofNat j)), .val (.int (md c2 c3 c4 i j)), .val (.int v21), .val (.int v22), .val (.int v23), .val (.int v24), .val (.int v25), .val (.int v26), .val (.int v26), .unset, .unset]) rfl k))) ?_
              exact j348 v21 v22 v23 v24 v25 v26 v26 h21 h22 h23 h24 h25 h26 (by rw [h26]; exact (own_27 g0 g1 g2 g3).symm)
    have j288 : ∀ v21 v22 v23 v24 v25 : Int32, v21 = b32 c2 → v22 = b32 c3 → v23 = b32 c4 → v24 = 1 + b32 c2 → v25 = 1 + b32 c2 + b32 c3 → Gl p.tables e below (fun o U' => ∃ v L, o = .returned v ∧ Q_rm0 Z p1 p2 p3 zc ca cl va1 va2 va3 va4 h0 n0 v U'.heap L ∧ FrameEnd s o U' L room_1.cells room_1.slots) (T83.setTop (mkF m 288 #[.val (.int p1), .val (.int p2), .val (.int p3), .val (.int k1), .val (.int k2), .val (.int k3), .val (.int k4), .val (.ref b_1), .val (.ref b_3), .val (.ref b_5), .val (.ref b_7), .val (.ref b9), .val (.ref b_20), .val (.ref b_29), .val (.ref b_38), .val (.ref b_47), .val (.ref b49), .val (.ref b_61), .val (.int (Int32.ofNat i)), .val (.int (Int32.ofNat j)), .val (.int (md c2 c3 c4 i j)), .val (.int v21), .val (.int v22), .val (.int v23), .val (.int v24), .val (.int v25), .unset, .unset, .unset, .unset] [])) := by
      intro v21 v22 v23 v24 v25 h21 h22 h23 h24 h25
      refine Gl.step (B := (T83.setTop (mkF m 292 #[.val (.int p1), .val (.int p2), .val (.int p3), .val (.int k1), .val (.int k2), .val (.int k3), .val (.int k4), .val (.ref b_1), .val (.ref b_3), .val (.ref b_5), .val (.ref b_7), .val (.ref b9), .val (.ref b_20), .val (.ref b_29), .val (.ref b_38), .val (.ref b_47), .val (.ref b49), .val (.ref b_61), .val (.int (Int32.ofNat i)), .val (.int (Int32.ofNat j)), .val (.int (md c2 c3 c4 i j)), .val (.int v21), .val (.int v22), .val (.int v23), .val (.int v24), .val (.int v25), .unset, .unset, .unset, .unset] [(.int v23), (.int v25)]))) (fun t k => XS.iload X83.here hx rfl (hb hby at_288) rfl (XS.iload X83.here hx rfl (hb hby at_290) rfl k)) ?_
      by_cases gc : c4 = true
      · skip
        refine Gl.step (B := (T83.setTop (mkF m 303 #[.val (.int p1), .val (.int p2), .val (.int p3), .val (.int k1), .val (.int k2), .val (.int k3), .val (.int k4), .val (.ref b_1), .val (.ref b_3), .val (.ref b_5), .val (.ref b_7), .val (.ref b9), .val (.ref b_20), .val (.ref b_29), .val (.ref b_38), .val (.ref b_47), .val (.ref b49), .val (.ref b_61), .val (.int (Int32.ofNat i)), .val (.int (Int32.ofNat j)), .val (.int (md c2 c3 c4 i j)), .val (.int v21), .val (.int v22), .val (.int v23), .val (.int v24), .val (.int v25), .val (.int (v25 + (1 : Int32))), .unset, .unset, .unset] []))) (fun t k => XS.ifNo X83.here hx rfl (hb hby at_292) rfl ((if0 _ _).trans (feq (by rw [h23, own_bt gc]; decide : ¬ (v23 = (0 : Int32)))).1) (XS.iconst X83.here hx rfl (hb hby at_295) (XS.goto X83.here hx rfl (pc0 := 296) (pc' := 300) rfl (hb hby at_296) (by decide) (by decide) (XS.iadd X83.here hx rfl (hb hby at_300) rfl (XS.istore X83.here hx rfl (hb hby at_301) rfl (l' := #[.val (.int p1), .val (.int p2), .val (.int p3), .val (.int k1), .val (.int k2), .val (.int k3), .val (.int k4), .val (.ref b_1), .val (.ref b_3), .val (.ref b_5), .val (.ref b_7), .val (.ref b9), .val (.ref b_20), .val (.ref b_29), .val (.ref b_38), .val (.ref b_47), .val (.ref b49), .val (.ref b_61), .val (.int (Int32.ofNat i)), .val (.int (Int32.ofNat j)), .val (.int (md c2 c3 c4 i j)), .val (.int v21), .val (.int v22), .val (.int v23), .val (.int v24), .val (.int v25), .val (.int (v25 + (1 : Int32))), .unset, .unset, .unset]) rfl k))))) ?_
        exact j303 v21 v22 v23 v24 v25 (v25 + (1 : Int32)) h21 h22 h23 h24 h25 (by rw [h25, own_bt gc])
      · skip
        refine Gl.step (B := (T83.setTop (mkF m 303 #[.val (.int p1), .val (.int p2), .val (.int p3), .val (.int k1), .val (.int k2), .val (.int k3), .val (.int k4), .val (.ref b_1), .val (.ref b_3), .val (.ref b_5), .val (.ref b_7), .val (.ref b9), .val (.ref b_20), .val (.ref b_29), .val (.ref b_38), .val (.ref b_47), .val (.ref b49), .val (.ref b_61), .val (.int (Int32.ofNat i)), .val (.int (Int32.ofNat j)), .val (.int (md c2 c3 c4 i j)), .val (.int v21), .val (.int v22), .val (.int v23), .val (.int v24), .val (.int v25), .val (.int (v25 + (0 : Int32))), .unset, .unset, .unset] []))) (fun t k => XS.ifYes X83.here hx rfl (pc0 := 292) (pc' := 299) rfl (hb hby at_292) rfl ((if0 _ _).trans (teq (by rw [h23, own_bf gc] : v23 = (0 : Int32))).1) (by decide) (by decide) (XS.iconst X83.here hx rfl (hb hby at_299) (XS.iadd X83.here hx rfl (hb hby at_300) rfl (XS.istore X83.here hx rfl (hb hby at_301) rfl (l' := #[.val (.int p1), .val (.int p2), .val (.int p3), .val (.int k1), .val (.int k2), .val (.int k3), .val (.int k4), .val (.ref b_1), .val (.ref b_3), .val (.ref b_5), .val (.ref b_7), .val (.ref b9), .val (.ref b_20), .val (.ref b_29), .val (.ref b_38), .val (.ref b_47), .val (.ref b49), .val (.ref b_61), .val (.int (Int32.ofNat i)), .val (.int (Int32.ofNat j)), .val (.int (md c2 c3 c4 i j)), .val (.int v21), .val (.int v22), .val (.int v23), .val (.int v24), .val (.int v25), .val (.int (v25 + (0 : Int32))), .unset, .unset, .unset]) rfl k)))) ?_
        exact j303 v21 v22 v23 v24 v25 (v25 + (0 : Int32)) h21 h22 h23 h24 h25 (by rw [h25, own_bf gc])
    have j273 : ∀ v21 v22 v23 v24 : Int32, v21 = b32 c2 → v22 = b32 c3 → v23 = b32 c4 → v24 = 1 + b32 c2 → Gl p.tables e below (fun o U' => ∃ v L, o = .returned v ∧ Q_rm0 Z p1 p2 p3 zc ca cl va1 va2 va3 va4 h0 n0 v U'.heap L ∧ FrameEnd s o U' L room_1.cells room_1.slots) (T83.setTop (mkF m 273 #[.val (.int p1), .val (.int p2), .val (.int p3), .val (.int k1), .val (.int k2), .val (.int k3), .val (.int k4), .val (.ref b_1), .val (.ref b_3), .val (.ref b_5), .val (.ref b_7), .val (.ref b9), .val (.ref b_20), .val (.ref b_29), .val (.ref b_38), .val (.ref b_47), .val (.ref b49), .val (.ref b_61), .val (.int (Int32.ofNat i)), .val (.int (Int32.ofNat j)), .val (.int (md c2 c3 c4 i j)), .val (.int v21), .val (.int v22), .val (.int v23), .val (.int v24), .unset, .unset, .unset, .unset, .unset] [])) := by
      intro v21 v22 v23 v24 h21 h22 h23 h24
      refine Gl.step (B := (T83.setTop (mkF m 277 #[.val (.int p1), .val (.int p2), .val (.int p3), .val (.int k1), .val (.int k2), .val (.int k3), .val (.int k4), .val (.ref b_1), .val (.ref b_3), .val (.ref b_5), .val (.ref b_7), .val (.ref b9), .val (.ref b_20), .val (.ref b_29), .val (.ref b_38), .val (.ref b_47), .val (.ref b49), .val (.ref b_61), .val (.int (Int32.ofNat i)), .val (.int (Int32.ofNat j)), .val (.int (md c2 c3 c4 i j)), .val (.int v21), .val (.int v22), .val (.int v23), .val (.int v24), .unset, .unset, .unset, .unset, .unset] [(.int v22), (.int v24)]))) (fun t k => XS.iload X83.here hx rfl (hb hby at_273) rfl (XS.iload X83.here hx rfl (hb hby at_275) rfl k)) ?_
      by_cases gc : c3 = true
      · skip
        refine Gl.step (B := (T83.setTop (mkF m 288 #[.val (.int p1), .val (.int p2), .val (.int p3), .val (.int k1), .val (.int k2), .val (.int k3), .val (.int k4), .val (.ref b_1), .val (.ref b_3), .val (.ref b_5), .val (.ref b_7), .val (.ref b9), .val (.ref b_20), .val (.ref b_29), .val (.ref b_38), .val (.ref b_47), .val (.ref b49), .val (.ref b_61), .val (.int (Int32.ofNat i)), .val (.int (Int32.ofNat j)), .val (.int (md c2 c3 c4 i j)), .val (.int v21), .val (.int v22), .val (.int v23), .val (.int v24), .val (.int (v24 + (1 : Int32))), .unset, .unset, .unset, .unset] []))) (fun t k => XS.ifNo X83.here hx rfl (hb hby at_277) rfl ((if0 _ _).trans (feq (by rw [h22, own_bt gc]; decide : ¬ (v22 = (0 : Int32)))).1) (XS.iconst X83.here hx rfl (hb hby at_280) (XS.goto X83.here hx rfl (pc0 := 281) (pc' := 285) rfl (hb hby at_281) (by decide) (by decide) (XS.iadd X83.here hx rfl (hb hby at_285) rfl (XS.istore X83.here hx rfl (hb hby at_286) rfl (l' := #[.val (.int p1), .val (.int p2), .val (.int p3), .val (.int k1), .val (.int k2), .val (.int k3), .val (.int k4), .val (.ref b_1), .val (.ref b_3), .val (.ref b_5), .val (.ref b_7), .val (.ref b9), .val (.ref b_20), .val (.ref b_29), .val (.ref b_38), .val (.ref b_47), .val (.ref b49), .val (.ref b_61), .val (.int (Int32.ofNat i)), .val (.int (Int32.ofNat j)), .val (.int (md c2 c3 c4 i j)), .val (.int v21), .val (.int v22), .val (.int v23), .val (.int v24), .val (.int (v24 + (1 : Int32))), .unset, .unset, .unset, .unset]) rfl k))))) ?_
        exact j288 v21 v22 v23 v24 (v24 + (1 : Int32)) h21 h22 h23 h24 (by rw [h24, own_bt gc])
      · skip
        refine Gl.step (B := (T83.setTop (mkF m 288 #[.val (.int p1), .val (.int p2), .val (.int p3), .val (.int k1), .val (.int k2), .val (.int k3), .val (.int k4), .val (.ref b_1), .val (.ref b_3), .val (.ref b_5), .val (.ref b_7), .val (.ref b9), .val (.ref b_20), .val (.ref b_29), .val (.ref b_38), .val (.ref b_47), .val (.ref b49), .val (.ref b_61), .val (.int (Int32.ofNat i)), .val (.int (Int32.ofNat j)), .val (.int (md c2 c3 c4 i j)), .val (.int v21), .val (.int v22), .val (.int v23), .val (.int v24), .val (.int (v24 + (0 : Int32))), .unset, .unset, .unset, .unset] []))) (fun t k => XS.ifYes X83.here hx rfl (pc0 := 277) (pc' := 284) rfl (hb hby at_277) rfl ((if0 _ _).trans (teq (by rw [h22, own_bf gc] : v22 = (0 : Int32))).1) (by decide) (by decide) (XS.iconst X83.here hx rfl (hb hby at_284) (XS.iadd X83.here hx rfl (hb hby at_285) rfl (XS.istore X83.here hx rfl (hb hby at_286) rfl (l' := #[.val (.int p1), .val (.int p2), .val (.int p3), .val (.int k1), .val (.int k2), .val (.int k3), .val (.int k4), .val (.ref b_1), .val (.ref b_3), .val (.ref b_5), .val (.ref b_7), .val (.ref b9), .val (.ref b_20), .val (.ref b_29), .val (.ref b_38), .val (.ref b_47), .val (.ref b49), .val (.ref b_61), .val (.int (Int32.ofNat i)), .val (.int (Int32.ofNat j)), .val (.int (md c2 c3 c4 i j)), .val (.int v21), .val (.int v22), .val (.int v23), .val (.int v24), .val (.int (v24 + (0 : Int32))), .unset, .unset, .unset, .unset]) rfl k)))) ?_
        exact j288 v21 v22 v23 v24 (v24 + (0 : Int32)) h21 h22 h23 h24 (by rw [h24, own_bf gc])
    have j259 : ∀ v21 v22 v23 : Int32, v21 = b32 c2 → v22 = b32 c3 → v23 = b32 c4 → Gl p.tables e below (fun o U' => ∃ v L, o = .returned v ∧ Q_rm0 Z p1 p2 p3 zc ca cl va1 va2 va3 va4 h0 n0 v U'.heap L ∧ FrameEnd s o U' L room_1.cells room_1.slots) (T83.setTop (mkF m 259 #[.val (.int p1), .val (.int p2), .val (.int p3), .val (.int k1), .val (.int k2), .val (.int k3), .val (.int k4), .val (.ref b_1), .val (.ref b_3), .val (.ref b_5), .val (.ref b_7), .val (.ref b9), .val (.ref b_20), .val (.ref b_29), .val (.ref b_38), .val (.ref b_47), .val (.ref b49), .val (.ref b_61), .val (.int (Int32.ofNat i)), .val (.int (Int32.ofNat j)), .val (.int (md c2 c3 c4 i j)), .val (.int v21), .val (.int v22), .val (.int v23), .unset, .unset, .unset, .unset, .unset, .unset] [])) := by
      intro v21 v22 v23 h21 h22 h23
      refine Gl.step (B := (T83.setTop (mkF m 262 #[.val (.int p1), .val (.int p2), .val (.int p3), .val (.int k1), .val (.int k2), .val (.int k3), .val (.int k4), .val (.ref b_1), .val (.ref b_3), .val (.ref b_5), .val (.ref b_7), .val (.ref b9), .val (.ref b_20), .val (.ref b_29), .val (.ref b_38), .val (.ref b_47), .val (.ref b49), .val (.ref b_61), .val (.int (Int32.ofNat i)), .val (.int (Int32.ofNat j)), .val (.int (md c2 c3 c4 i j)), .val (.int v21), .val (.int v22), .val (.int v23), .unset, .unset, .unset, .unset, .unset, .unset] [(.int v21), (.int (1 : Int32))]))) (fun t k => XS.iconst X83.here hx rfl (hb hby at_259) (XS.iload X83.here hx rfl (hb hby at_260) rfl k)) ?_
      by_cases gc : c2 = true
      · skip
        refine Gl.step (B := (T83.setTop (mkF m 273 #[.val (.int p1), .val (.int p2), .val (.int p3), .val (.int k1), .val (.int k2), .val (.int k3), .val (.int k4), .val (.ref b_1), .val (.ref b_3), .val (.ref b_5), .val (.ref b_7), .val (.ref b9), .val (.ref b_20), .val (.ref b_29), .val (.ref b_38), .val (.ref b_47), .val (.ref b49), .val (.ref b_61), .val (.int (Int32.ofNat i)), .val (.int (Int32.ofNat j)), .val (.int (md c2 c3 c4 i j)), .val (.int v21), .val (.int v22), .val (.int v23), .val (.int ((1 : Int32) + (1 : Int32))), .unset, .unset, .unset, .unset, .unset] []))) (fun t k => XS.ifNo X83.here hx rfl (hb hby at_262) rfl ((if0 _ _).trans (feq (by rw [h21, own_bt gc]; decide : ¬ (v21 = (0 : Int32)))).1) (XS.iconst X83.here hx rfl (hb hby at_265) (XS.goto X83.here hx rfl (pc0 := 266) (pc' := 270) rfl (hb hby at_266) (by decide) (by decide) (XS.iadd X83.here hx rfl (hb hby at_270) rfl (XS.istore X83.here hx rfl (hb hby at_271) rfl (l' := #[.val (.int p1), .val (.int p2), .val (.int p3), .val (.int k1), .val (.int k2), .val (.int k3), .val (.int k4), .val (.ref b_1), .val (.ref b_3), .val (.ref b_5), .val (.ref b_7), .val (.ref b9), .val (.ref b_20), .val (.ref b_29), .val (.ref b_38), .val (.ref b_47), .val (.ref b49), .val (.ref b_61), .val (.int (Int32.ofNat i)), .val (.int (Int32.ofNat j)), .val (.int (md c2 c3 c4 i j)), .val (.int v21), .val (.int v22), .val (.int v23), .val (.int ((1 : Int32) + (1 : Int32))), .unset, .unset, .unset, .unset, .unset]) rfl k))))) ?_
        exact j273 v21 v22 v23 ((1 : Int32) + (1 : Int32)) h21 h22 h23 (by rw [own_bt gc])
      · skip
        refine Gl.step (B := (T83.setTop (mkF m 273 #[.val (.int p1), .val (.int p2), .val (.int p3), .val (.int k1), .val (.int k2), .val (.int k3), .val (.int k4), .val (.ref b_1), .val (.ref b_3), .val (.ref b_5), .val (.ref b_7), .val (.ref b9), .val (.ref b_20), .val (.ref b_29), .val (.ref b_38), .val (.ref b_47), .val (.ref b49), .val (.ref b_61), .val (.int (Int32.ofNat i)), .val (.int (Int32.ofNat j)), .val (.int (md c2 c3 c4 i j)), .val (.int v21), .val (.int v22), .val (.int v23), .val (.int ((1 : Int32) + (0 : Int32))), .unset, .unset, .unset, .unset, .unset] []))) (fun t k => XS.ifYes X83.here hx rfl (pc0 := 262) (pc' := 269) rfl (hb hby at_262) rfl ((if0 _ _).trans (teq (by rw [h21, own_bf gc] : v21 = (0 : Int32))).1) (by decide) (by decide) (XS.iconst X83.here hx rfl (hb hby at_269) (XS.iadd X83.here hx rfl (hb hby at_270) rfl (XS.istore X83.here hx rfl (hb hby at_271) rfl (l' := #[.val (.int p1), .val (.int p2), .val (.int p3), .val (.int k1), .val (.int k2), .val (.int k3), .val (.int k4), .val (.ref b_1), .val (.ref b_3), .val (.ref b_5), .val (.ref b_7), .val (.ref b9), .val (.ref b_20), .val (.ref b_29), .val (.ref b_38), .val (.ref b_47), .val (.ref b49), .val (.ref b_61), .val (.int (Int32.ofNat i)), .val (.int (Int32.ofNat j)), .val (.int (md c2 c3 c4 i j)), .val (.int v21), .val (.int v22), .val (.int v23), .val (.int ((1 : Int32) + (0 : Int32))), .unset, .unset, .unset, .unset, .unset]) rfl k)))) ?_
        exact j273 v21 v22 v23 ((1 : Int32) + (0 : Int32)) h21 h22 h23 (by rw [own_bf gc])
    have j232 : ∀ v21 v22 : Int32, v21 = b32 c2 → v22 = b32 c3 → Gl p.tables e below (fun o U' => ∃ v L, o = .returned v ∧ Q_rm0 Z p1 p2 p3 zc ca cl va1 va2 va3 va4 h0 n0 v U'.heap L ∧ FrameEnd s o U' L room_1.cells room_1.slots) (T83.setTop (mkF m 232 #[.val (.int p1), .val (.int p2), .val (.int p3), .val (.int k1), .val (.int k2), .val (.int k3), .val (.int k4), .val (.ref b_1), .val (.ref b_3), .val (.ref b_5), .val (.ref b_7), .val (.ref b9), .val (.ref b_20), .val (.ref b_29), .val (.ref b_38), .val (.ref b_47), .val (.ref b49), .val (.ref b_61), .val (.int (Int32.ofNat i)), .val (.int (Int32.ofNat j)), .val (.int (md c2 c3 c4 i j)), .val (.int v21), .val (.int v22), .unset, .unset, .unset, .unset, .unset, .unset, .unset] [])) := by
      intro v21 v22 h21 h22
      refine Gl.step (B := (T83.setTop (mkF m 235 #[.val (.int p1), .val (.int p2), .val (.int p3), .val (.int k1), .val (.int k2), .val (.int k3), .val (.int k4), .val (.ref b_1), .val (.ref b_3), .val (.ref b_5), .val (.ref b_7), .val (.ref b9), .val (.ref b_20), .val (.ref b_29), .val (.ref b_38), .val (.ref b_47), .val (.ref b49), .val (.ref b_61), .val (.int (Int32.ofNat i)), .val (.int (Int32.ofNat j)), .val (.int (md c2 c3 c4 i j)), .val (.int v21), .val (.int v22), .unset, .unset, .unset, .unset, .unset, .unset, .unset] [(.int k1), (.int k4)]))) (fun t k => XS.iload X83.here hx rfl (hb hby at_232) rfl (XS.iloadN X83.here hx rfl (hb hby at_234) rfl k)) ?_
      by_cases g0 : k4 = k1
      · skip
        refine Gl.step (B := (T83.setTop (mkF m 259 #[.val (.int p1), .val (.int p2), .val (.int p3), .val (.int k1), .val (.int k2), .val (.int k3), .val (.int k4), .val (.ref b_1), .val (.ref b_3), .val (.ref b_5), .val (.ref b_7), .val (.ref b9), .val (.ref b_20), .val (.ref b_29), .val (.ref b_38), .val (.ref b_47), .val (.ref b49), .val (.ref b_61), .val (.int (Int32.ofNat i)), .val (.int (Int32.ofNat j)), .val (.int (md c2 c3 c4 i j)), .val (.int v21), .val (.int v22), .val (.int (0 : Int32)), .unset, .unset, .unset, .unset, .unset, .unset] []))) (fun t k => XS.icmpYes X83.here hx rfl (pc0 := 235) (pc' := 256) rfl (hb hby at_235) rfl (teq (g0 : k4 = k1)).1 (by decide) (by decide) (XS.iconst X83.here hx rfl (hb hby at_256) (XS.istore X83.here hx rfl (hb hby at_257) rfl (l' := #[.val (.int p1), .val (.int p2), .val (.int p3), .val (.int k1), .val (.int k2), .val (.int k3), .val (.int k4), .val (.ref b_1), .val (.ref b_3), .val (.ref b_5), .val (.ref b_7), .val (.ref b9), .val (.ref b_20), .val (.ref b_29), .val (.ref b_38), .val (.ref b_47), .val (.ref b49), .val (.ref b_61), .val (.int (Int32.ofNat i)), .val (.int (Int32.ofNat j)), .val (.int (md c2 c3 c4 i j)), .val (.int v21), .val (.int v22), .val (.int (0 : Int32)), .unset, .unset, .unset, .unset, .unset, .unset]) rfl k))) ?_
        exact j259 v21 v22 (0 : Int32) h21 h22 (own_b0 hc4 (Or.inr (Or.inr g0)))
      · skip
        refine Gl.step (B := (T83.setTop (mkF m 242 #[.val (.int p1), .val (.int p2), .val (.int p3), .val (.int k1), .val (.int k2), .val (.int k3), .val (.int k4), .val (.ref b_1), .val (.ref b_3), .val (.ref b_5), .val (.ref b_7), .val (.ref b9), .val (.ref b_20), .val (.ref b_29), .val (.ref b_38), .val (.ref b_47), .val (.ref b49), .val (.ref b_61), .val (.int (Int32.ofNat i)), .val (.int (Int32.ofNat j)), .val (.int (md c2 c3 c4 i j)), .val (.int v21), .val (.int v22), .unset, .unset, .unset, .unset, .unset, .unset, .unset] [(.int k2), (.int k4)]))) (fun t k => XS.icmpNo X83.here hx rfl (hb hby at_235) rfl (feq (g0 : ¬ (k4 = k1))).1 (XS.iload X83.here hx rfl (hb hby at_238) rfl (XS.iload X83.here hx rfl (hb hby at_240) rfl k))) ?_
        by_cases g1 : k4 = k2
        · skip
          refine Gl.step (B := (T83.setTop (mkF m 259 #[.val (.int p1), .val (.int p2), .val (.int p3), .val (.int k1), .val (.int k2), .val (.int k3), .val (.int k4), .val (.ref b_1), .val (.ref b_3), .val (.ref b_5), .val (.ref b_7), .val (.ref b9), .val (.ref b_20), .val (.ref b_29), .val (.ref b_38), .val (.ref b_47), .val (.ref b49), .val (.ref b_61), .val (.int (Int32.ofNat i)), .val (.int (Int32.ofNat j)), .val (.int (md c2 c3 c4 i j)), .val (.int v21), .val (.int v22), .val (.int (0 : Int32)), .unset, .unset, .unset, .unset, .unset, .unset] []))) (fun t k => XS.icmpYes X83.here hx rfl (pc0 := 242) (pc' := 256) rfl (hb hby at_242) rfl (teq (g1 : k4 = k2)).1 (by decide) (by decide) (XS.iconst X83.here hx rfl (hb hby at_256) (XS.istore X83.here hx rfl (hb hby at_257) rfl (l' := #[.val (.int p1), .val (.int p2), .val (.int p3), .val (.int k1), .val (.int k2), .val (.int k3), .val (.int k4), .val (.ref b_1), .val (.ref b_3), .val (.ref b_5), .val (.ref b_7), .val (.ref b9), .val (.ref b_20), .val (.ref b_29), .val (.ref b_38), .val (.ref b_47), .val (.ref b49), .val (.ref b_61), .val (.int (Int32.ofNat i)), .val (.int (Int32.ofNat j)), .val (.int (md c2 c3 c4 i j)), .val (.int v21), .val (.int v22), .val (.int (0 : Int32)), .unset, .unset, .unset, .unset, .unset, .unset]) rfl k))) ?_
          exact j259 v21 v22 (0 : Int32) h21 h22 (own_b0 hc4 (Or.inr (Or.inl g1)))
        · skip
          refine Gl.step (B := (T83.setTop (mkF m 249 #[.val (.int p1), .val (.int p2), .val (.int p3), .val (.int k1), .val (.int k2), .val (.int k3), .val (.int k4), .val (.ref b_1), .val (.ref b_3), .val (.ref b_5), .val (.ref b_7), .val (.ref b9), .val (.ref b_20), .val (.ref b_29), .val (.ref b_38), .val (.ref b_47), .val (.ref b49), .val (.ref b_61), .val (.int (Int32.ofNat i)), .val (.int (Int32.ofNat j)), .val (.int (md c2 c3 c4 i j)), .val (.int v21), .val (.int v22), .unset, .unset, .unset, .unset, .unset, .unset, .unset] [(.int k3), (.int k4)]))) (fun t k => XS.icmpNo X83.here hx rfl (hb hby at_242) rfl (feq (g1 : ¬ (k4 = k2))).1 (XS.iload X83.here hx rfl (hb hby at_245) rfl (XS.iload X83.here hx rfl (hb hby at_247) rfl k))) ?_
          by_cases g2 : k4 = k3
          · skip
            refine Gl.step (B := (T83.setTop (mkF m 259 #[.val (.int p1), .val (.int p2), .val (.int p3), .val (.int k1), .val (.int k2), .val (.int k3), .val (.int k4), .val (.ref b_1), .val (.ref b_3), .val (.ref b_5), .val (.ref b_7), .val (.ref b9), .val (.ref b_20), .val (.ref b_29), .val (.ref b_38), .val (.ref b_47), .val (.ref b49), .val (.ref b_61), .val (.int (Int32.ofNat i)), .val (.int (Int32.ofNat j)), .val (.int (md c2 c3 c4 i j)), .val (.int v21), .val (.int v22), .val (.int (0 : Int32)), .unset, .unset, .unset, .unset, .unset, .unset] []))) (fun t k => XS.icmpYes X83.here hx rfl (pc0 := 249) (pc' := 256) rfl (hb hby at_249) rfl (teq (g2 : k4 = k3)).1 (by decide) (by decide) (XS.iconst X83.here hx rfl (hb hby at_256) (XS.istore X83.here hx rfl (hb hby at_257) rfl (l' := #[.val (.int p1), .val (.int p2), .val (.int p3), .val (.int k1), .val (.int k2), .val (.int k3), .val (.int k4), .val (.ref b_1), .val (.ref b_3), .val (.ref b_5), .val (.ref b_7), .val (.ref b9), .val (.ref b_20), .val (.ref b_29), .val (.ref b_38), .val (.ref b_47), .val (.ref b49), .val (.ref b_61), .val (.int (Int32.ofNat i)), .val (.int (Int32.ofNat j)), .val (.int (md c2 c3 c4 i j)), .val (.int v21), .val (.int v22), .val (.int (0 : Int32)), .unset, .unset, .unset, .unset, .unset, .unset]) rfl k))) ?_
            exact j259 v21 v22 (0 : Int32) h21 h22 (own_b0 hc4 (Or.inl g2))
          · skip
            refine Gl.step (B := (T83.setTop (mkF m 259 #[.val (.int p1), .val (.int p2), .val (.int p3), .val (.int k1), .val (.int k2), .val (.int k3), .val (.int k4), .val (.ref b_1), .val (.ref b_3), .val (.ref b_5), .val (.ref b_7), .val (.ref b9), .val (.ref b_20), .val (.ref b_29), .val (.ref b_38), .val (.ref b_47), .val (.ref b49), .val (.ref b_61), .val (.int (Int32.ofNat i)), .val (.int (Int32.ofNat j)), .val (.int (md c2 c3 c4 i j)), .val (.int v21), .val (.int v22), .val (.int (1 : Int32)), .unset, .unset, .unset, .unset, .unset, .unset] []))) (fun t k => XS.icmpNo X83.here hx rfl (hb hby at_249) rfl (feq (g2 : ¬ (k4 = k3))).1 (XS.iconst X83.here hx rfl (hb hby at_252) (XS.goto X83.here hx rfl (pc0 := 253) (pc' := 257) rfl (hb hby at_253) (by decide) (by decide) (XS.istore X83.here hx rfl (hb hby at_257) rfl (l' := #[.val (.int p1), .val (.int p2), .val (.int p3), .val (.int k1), .val (.int k2), .val (.int k3), .val (.int k4), .val (.ref b_1), .val (.ref b_3), .val (.ref b_5), .val (.ref b_7), .val (.ref b9), .val (.ref b_20), .val (.ref b_29), .val (.ref b_38), .val (.ref b_47), .val (.ref b49), .val (.ref b_61), .val (.int (Int32.ofNat i)), .val (.int (Int32.ofNat j)), .val (.int (md c2 c3 c4 i j)), .val (.int v21), .val (.int v22), .val (.int (1 : Int32)), .unset, .unset, .unset, .unset, .unset, .unset]) rfl k)))) ?_
            exact j259 v21 v22 (1 : Int32) h21 h22 (own_b1 hc4 (by simp only [g0, g1, g2, or_self, not_false_eq_true]))
    have j212 : ∀ v21 : Int32, v21 = b32 c2 → Gl p.tables e below (fun o U' => ∃ v L, o = .returned v ∧ Q_rm0 Z p1 p2 p3 zc ca cl va1 va2 va3 va4 h0 n0 v U'.heap L ∧ FrameEnd s o U' L room_1.cells room_1.slots) (T83.setTop (mkF m 212 #[.val (.int p1), .val (.int p2), .val (.int p3), .val (.int k1), .val (.int k2), .val (.int k3), .val (.int k4), .val (.ref b_1), .val (.ref b_3), .val (.ref b_5), .val (.ref b_7), .val (.ref b9), .val (.ref b_20), .val (.ref b_29), .val (.ref b_38), .val (.ref b_47), .val (.ref b49), .val (.ref b_61), .val (.int (Int32.ofNat i)), .val (.int (Int32.ofNat j)), .val (.int (md c2 c3 c4 i j)), .val (.int v21), .unset, .unset, .unset, .unset, .unset, .unset, .unset, .unset] [])) := by
      intro v21 h21
      refine Gl.step (B := (T83.setTop (mkF m 215 #[.val (.int p1), .val (.int p2), .val (.int p3), .val (.int k1), .val (.int k2), .val (.int k3), .val (.int k4), .val (.ref b_1), .val (.ref b_3), .val (.ref b_5), .val (.ref b_7), .val (.ref b9), .val (.ref b_20), .val (.ref b_29), .val (.ref b_38), .val (.ref b_47), .val (.ref b49), .val (.ref b_61), .val (.int (Int32.ofNat i)), .val (.int (Int32.ofNat j)), .val (.int (md c2 c3 c4 i j)), .val (.int v21), .unset, .unset, .unset, .unset, .unset, .unset, .unset, .unset] [(.int k1), (.int k3)]))) (fun t k => XS.iload X83.here hx rfl (hb hby at_212) rfl (XS.iloadN X83.here hx rfl (hb hby at_214) rfl k)) ?_
      by_cases g0 : k3 = k1
      · skip
        refine Gl.step (B := (T83.setTop (mkF m 232 #[.val (.int p1), .val (.int p2), .val (.int p3), .val (.int k1), .val (.int k2), .val (.int k3), .val (.int k4), .val (.ref b_1), .val (.ref b_3), .val (.ref b_5), .val (.ref b_7), .val (.ref b9), .val (.ref b_20), .val (.ref b_29), .val (.ref b_38), .val (.ref b_47), .val (.ref b49), .val (.ref b_61), .val (.int (Int32.ofNat i)), .val (.int (Int32.ofNat j)), .val (.int (md c2 c3 c4 i j)), .val (.int v21), .val (.int (0 : Int32)), .unset, .unset, .unset, .unset, .unset, .unset, .unset] []))) (fun t k => XS.icmpYes X83.here hx rfl (pc0 := 215) (pc' := 229) rfl (hb hby at_215) rfl (teq (g0 : k3 = k1)).1 (by decide) (by decide) (XS.iconst X83.here hx rfl (hb hby at_229) (XS.istore X83.here hx rfl (hb hby at_230) rfl (l' := #[.val (.int p1), .val (.int p2), .val (.int p3), .val (.int k1), .val (.int k2), .val (.int k3), .val (.int k4), .val (.ref b_1), .val (.ref b_3), .val (.ref b_5), .val (.ref b_7), .val (.ref b9), .val (.ref b_20), .val (.ref b_29), .val (.ref b_38), .val (.ref b_47), .val (.ref b49), .val (.ref b_61), .val (.int (Int32.ofNat i)), .val (.int (Int32.ofNat j)), .val (.int (md c2 c3 c4 i j)), .val (.int v21), .val (.int (0 : Int32)), .unset, .unset, .unset, .unset, .unset, .unset, .unset]) rfl k))) ?_
        exact j232 v21 (0 : Int32) h21 (own_b0 hc3 (Or.inr g0))
      · skip
        refine Gl.step (B := (T83.setTop (mkF m 222 #[.val (.int p1), .val (.int p2), .val (.int p3), .val (.int k1), .val (.int k2), .val (.int k3), .val (.int k4), .val (.ref b_1), .val (.ref b_3), .val (.ref b_5), .val (.ref b_7), .val (.ref b9), .val (.ref b_20), .val (.ref b_29), .val (.ref b_38), .val (.ref b_47), .val (.ref b49), .val (.ref b_61), .val (.int (Int32.ofNat i)), .val (.int (Int32.ofNat j)), .val (.int (md c2 c3 c4 i j)), .val (.int v21), .unset, .unset, .unset, .unset, .unset, .unset, .unset, .unset] [(.int k2), (.int k3)]))) (fun t k => XS.icmpNo X83.here hx rfl (hb hby at_215) rfl (feq (g0 : ¬ (k3 = k1))).1 (XS.iload X83.here hx rfl (hb hby at_218) rfl (XS.iload X83.here hx rfl (hb hby at_220) rfl k))) ?_
        by_cases g1 : k3 = k2
        · skip
          refine Gl.step (B := (T83.setTop (mkF m 232 #[.val (.int p1), .val (.int p2), .val (.int p3), .val (.int k1), .val (.int k2), .val (.int k3), .val (.int k4), .val (.ref b_1), .val (.ref b_3), .val (.ref b_5), .val (.ref b_7), .val (.ref b9), .val (.ref b_20), .val (.ref b_29), .val (.ref b_38), .val (.ref b_47), .val (.ref b49), .val (.ref b_61), .val (.int (Int32.ofNat i)), .val (.int (Int32.ofNat j)), .val (.int (md c2 c3 c4 i j)), .val (.int v21), .val (.int (0 : Int32)), .unset, .unset, .unset, .unset, .unset, .unset, .unset] []))) (fun t k => XS.icmpYes X83.here hx rfl (pc0 := 222) (pc' := 229) rfl (hb hby at_222) rfl (teq (g1 : k3 = k2)).1 (by decide) (by decide) (XS.iconst X83.here hx rfl (hb hby at_229) (XS.istore X83.here hx rfl (hb hby at_230) rfl (l' := #[.val (.int p1), .val (.int p2), .val (.int p3), .val (.int k1), .val (.int k2), .val (.int k3), .val (.int k4), .val (.ref b_1), .val (.ref b_3), .val (.ref b_5), .val (.ref b_7), .val (.ref b9), .val (.ref b_20), .val (.ref b_29), .val (.ref b_38), .val (.ref b_47), .val (.ref b49), .val (.ref b_61), .val (.int (Int32.ofNat i)), .val (.int (Int32.ofNat j)), .val (.int (md c2 c3 c4 i j)), .val (.int v21), .val (.int (0 : Int32)), .unset, .unset, .unset, .unset, .unset, .unset, .unset]) rfl k))) ?_
          exact j232 v21 (0 : Int32) h21 (own_b0 hc3 (Or.inl g1))
        · skip
          refine Gl.step (B := (T83.setTop (mkF m 232 #[.val (.int p1), .val (.int p2), .val (.int p3), .val (.int k1), .val (.int k2), .val (.int k3), .val (.int k4), .val (.ref b_1), .val (.ref b_3), .val (.ref b_5), .val (.ref b_7), .val (.ref b9), .val (.ref b_20), .val (.ref b_29), .val (.ref b_38), .val (.ref b_47), .val (.ref b49), .val (.ref b_61), .val (.int (Int32.ofNat i)), .val (.int (Int32.ofNat j)), .val (.int (md c2 c3 c4 i j)), .val (.int v21), .val (.int (1 : Int32)), .unset, .unset, .unset, .unset, .unset, .unset, .unset] []))) (fun t k => XS.icmpNo X83.here hx rfl (hb hby at_222) rfl (feq (g1 : ¬ (k3 = k2))).1 (XS.iconst X83.here hx rfl (hb hby at_225) (XS.goto X83.here hx rfl (pc0 := 226) (pc' := 230) rfl (hb hby at_226) (by decide) (by decide) (XS.istore X83.here hx rfl (hb hby at_230) rfl (l' := #[.val (.int p1), .val (.int p2), .val (.int p3), .val (.int k1), .val (.int k2), .val (.int k3), .val (.int k4), .val (.ref b_1), .val (.ref b_3), .val (.ref b_5), .val (.ref b_7), .val (.ref b9), .val (.ref b_20), .val (.ref b_29), .val (.ref b_38), .val (.ref b_47), .val (.ref b49), .val (.ref b_61), .val (.int (Int32.ofNat i)), .val (.int (Int32.ofNat j)), .val (.int (md c2 c3 c4 i j)), .val (.int v21), .val (.int (1 : Int32)), .unset, .unset, .unset, .unset, .unset, .unset, .unset]) rfl k)))) ?_
          exact j232 v21 (1 : Int32) h21 (own_b1 hc3 (by simp only [g0, g1, or_self, not_false_eq_true]))
    refine Gl.step (B := (T83.setTop (mkF m 202 #[.val (.int p1), .val (.int p2), .val (.int p3), .val (.int k1), .val (.int k2), .val (.int k3), .val (.int k4), .val (.ref b_1), .val (.ref b_3), .val (.ref b_5), .val (.ref b_7), .val (.ref b9), .val (.ref b_20), .val (.ref b_29), .val (.ref b_38), .val (.ref b_47), .val (.ref b49), .val (.ref b_61), .val (.int (Int32.ofNat i)), .val (.int (Int32.ofNat j)), .val (.int (md c2 c3 c4 i j)), .unset, .unset, .unset, .unset, .unset, .unset, .unset, .unset, .unset] [(.int k1), (.int k2)]))) (fun t k => XS.iload X83.here hx rfl (hb hby at_199) rfl (XS.iloadN X83.here hx rfl (hb hby at_201) rfl k)) ?_
    by_cases g0 : k2 = k1
    · skip
      refine Gl.step (B := (T83.setTop (mkF m 212 #[.val (.int p1), .val (.int p2), .val (.int p3), .val (.int k1), .val (.int k2), .val (.int k3), .val (.int k4), .val (.ref b_1), .val (.ref b_3), .val (.ref b_5), .val (.ref b_7), .val (.ref b9), .val (.ref b_20), .val (.ref b_29), .val (.ref b_38), .val (.ref b_47), .val (.ref b49), .val (.ref b_61), .val (.int (Int32.ofNat i)), .val (.int (Int32.ofNat j)), .val (.int (md c2 c3 c4 i j)), .val (.int (0 : Int32)), .unset, .unset, .unset, .unset, .unset, .unset, .unset, .unset] []))) (fun t k => XS.icmpYes X83.here hx rfl (pc0 := 202) (pc' := 209) rfl (hb hby at_202) rfl (teq (g0 : k2 = k1)).1 (by decide) (by decide) (XS.iconst X83.here hx rfl (hb hby at_209) (XS.istore X83.here hx rfl (hb hby at_210) rfl (l' := #[.val (.int p1), .val (.int p2), .val (.int p3), .val (.int k1), .val (.int k2), .val (.int k3), .val (.int k4), .val (.ref b_1), .val (.ref b_3), .val (.ref b_5), .val (.ref b_7), .val (.ref b9), .val (.ref b_20), .val (.ref b_29), .val (.ref b_38), .val (.ref b_47), .val (.ref b49), .val (.ref b_61), .val (.int (Int32.ofNat i)), .val (.int (Int32.ofNat j)), .val (.int (md c2 c3 c4 i j)), .val (.int (0 : Int32)), .unset, .unset, .unset, .unset, .unset, .unset, .unset, .unset]) rfl k))) ?_
      exact j212 (0 : Int32) (own_b0 hc2 g0)
    · skip
      refine Gl.step (B := (T83.setTop (mkF m 212 #[.val (.int p1), .val (.int p2), .val (.int p3), .val (.int k1), .val (.int k2), .val (.int k3), .val (.int k4), .val (.ref b_1), .val (.ref b_3), .val (.ref b_5), .val (.ref b_7), .val (.ref b9), .val (.ref b_20), .val (.ref b_29), .val (.ref b_38), .val (.ref b_47), .val (.ref b49), .val (.ref b_61), .val (.int (Int32.ofNat i)), .val (.int (Int32.ofNat j)), .val (.int (md c2 c3 c4 i j)), .val (.int (1 : Int32)), .unset, .unset, .unset, .unset, .unset, .unset, .unset, .unset] []))) (fun t k => XS.icmpNo X83.here hx rfl (hb hby at_202) rfl (feq (g0 : ¬ (k2 = k1))).1 (XS.iconst X83.here hx rfl (hb hby at_205) (XS.goto X83.here hx rfl (pc0 := 206) (pc' := 210) rfl (hb hby at_206) (by decide) (by decide) (XS.istore X83.here hx rfl (hb hby at_210) rfl (l' := #[.val (.int p1), .val (.int p2), .val (.int p3), .val (.int k1), .val (.int k2), .val (.int k3), .val (.int k4), .val (.ref b_1), .val (.ref b_3), .val (.ref b_5), .val (.ref b_7), .val (.ref b9), .val (.ref b_20), .val (.ref b_29), .val (.ref b_38), .val (.ref b_47), .val (.ref b49), .val (.ref b_61), .val (.int (Int32.ofNat i)), .val (.int (Int32.ofNat j)), .val (.int (md c2 c3 c4 i j)), .val (.int (1 : Int32)), .unset, .unset, .unset, .unset, .unset, .unset, .unset, .unset]) rfl k)))) ?_
      exact j212 (1 : Int32) (own_b1 hc2 (by simp only [g0, or_self, not_false_eq_true]))
  obtain ⟨s₂, o, g1, g2, g3, g4⟩ := go
  exact ⟨s₂, o, castTop (ef_rm0 m p1 p2 p3) g1, g2, g3, g4⟩
section Own4
variable {args : Array Value} {s : State}
theorem own_sib {C f d g e : String} (h0 : (Cond.initializedFor C f d).before args s = true) (h1 : (Cond.laysStatic C f d).before args s = true) (h2 : (Cond.laysStatic C g e).before args s = true) : (Cond.initializedFor C g e).before args s = true := by
  obtain ⟨c, k, i, fd, a, cell, hc, hf, -⟩ := Cond.laysStatic_spec h1
  obtain ⟨c', k', i', fd', a', cell', hc', hf', -⟩ := Cond.laysStatic_spec h2
  cases hc.symm.trans hc'
  have hk : s.vm.classes[c]? = some k := (State.fieldFound?_spec hf).1
  have hk' : s.vm.classes[c]? = some k' := (State.fieldFound?_spec hf').1
  cases hk.symm.trans hk'
  have hi := Cond.initializedFor_spec hf h0
  simp [Cond.before, Cond.holds, Cond.value, hf', hi]
theorem own_eqi {t : Term} {n : Int32} (h : (Cond.eq t (.int n)).value args s none s [] = some true) : t.eval args s none [] s = some (.int n) := by
  simp only [Cond.value, show (Term.int n).eval args s none [] s = some (.int n) from rfl] at h
  cases hv : t.eval args s none [] s with
  | none => simp [hv] at h
  | some y => cases y <;> simp [hv] at h <;> simp [h]
abbrev own_cache : Term := .static "java/lang/Integer$IntegerCache" "cache" "[Ljava/lang/Integer;"
def own_body : Cond := .and (.exactly (.elem own_cache (.index 0)) "java/lang/Integer") (.eq (.field (.elem own_cache (.index 0)) "java/lang/Integer" "value" "I") (.sub (.index 0) (.int 128)))
theorem own_box (h1 : (Cond.arrayOf own_cache (.object "java/lang/Integer")).value args s none s [] = some true) (h2 : (Cond.eq (.length own_cache) (.int 256)).value args s none s [] = some true) (h3 : (Cond.all own_cache own_body).value args s none s [] = some true) :
    ∃ (d : Addr) (arr : Cell), own_cache.eval args s none [] s = some (.ref d) ∧ Arr s s.heap d arr (.object "java/lang/Integer") ∧ arr.slots.size = 256 ∧ ∀ n, n < 256 → ∃ w : Addr, arr.slots[n]? = some (.ref w) := by
  have hdn := own_eqi h2
  obtain ⟨d, arr, hd, harr, hsmall, hdnv⟩ := Lib.length_spec hdn
  have hsize : arr.slots.size = 256 := by
    have h7 : arr.slots.size.toInt32 = 256 := (Value.int.inj hdnv).symm
    have h6 : (Int32.ofNat arr.slots.size).toNatClampNeg = arr.slots.size := i32_toNatClampNeg_ofNat hsmall
    have h5 : Int32.ofNat arr.slots.size = 256 := h7
    rw [h5] at h6
    exact h6.symm.trans (by decide)
  obtain ⟨hdc, -⟩ := Lib.arrayAt_spec harr
  have hisArr := Cond.arrayOf_spec (beq_iff_eq.mpr h1 : (Cond.arrayOf own_cache (.object "java/lang/Integer")).holds args s none s [] = true) hd hdc
  refine ⟨d, arr, hd, ⟨hdc, hisArr.1, hisArr.2⟩, hsize, fun n hn => ?_⟩
  have hbody := Cond.all_elim hd harr h3 n (by rw [hsize]; exact hn)
  obtain ⟨hb1, -⟩ := and_e hbody
  obtain ⟨w, hew⟩ := exa_v hb1
  have hdI : own_cache.eval args s none [n] s = some (.ref d) := by
    have h9 := hd
    simp only [own_cache, Term.eval] at h9 ⊢
    exact h9
  have hix : (Term.index 0).eval args s none [n] s = some (.int (Int32.ofNat n)) := rfl
  have hx0 : ¬ (Int32.ofNat n < 0) := Int32.ofNat_not_neg (by omega)
  have hx1 : (Int32.ofNat n).toNatClampNeg = n := i32_toNatClampNeg_ofNat (by omega)
  rw [Term.eval, hdI] at hew
  exact ⟨w, by simpa [hix, harr, hx0, hx1] using hew⟩
end Own4
set_option maxRecDepth 65536 in
set_option maxHeartbeats 40000000 in
theorem comes_1 {Post : Tables → Env → Array Value → State → Outcome → State → Prop} (hpost : ∀ tb e args s v u, (limb_1_1.after args s (.returned v) u = true ∧ limb_1_2.after args s (.returned v) u = true ∧ True) → FrameEnd s (.returned v) u (Jvm.fieldLocs frame_1_writes args s ++ Jvm.arrayLocs frame_1_arrays args s ++ Jvm.staticLocs frame_1_statics s) 72 320 → Post tb e args s (.returned v) u) :
    ArmFor flags0 classFile x code maxLocals ret World_1 tables_1 room_1 Calls_1 rest_1 Pre_1 Post := by
  intro l hfl _ _ p e ha hc hk s m args below hf hA hF happ hP
  obtain ⟨hcalls, hrest, hpre⟩ := hP
  obtain ⟨-, -, -, hnamed, -, -, -, hat⟩ := (Spec.applies_iff hf).mp happ
  obtain ⟨hg, hn⟩ := and_e (Cond.before_iff.mp (show (Jvm.Cond.and given_1 narrow_1).before args s = true from hpre))
  obtain ⟨g0, g1⟩ := and_e hg
  obtain ⟨g2, g3⟩ := and_e g1
  obtain ⟨g4, g5⟩ := and_e g3
  obtain ⟨w0, w1, w2, rfl⟩ : ∃ w0 w1 w2 : Value, args = #[w0, w1, w2] := by
    have hs : args.size = 3 := by simpa [Cond.value, given_1] using g0
    obtain ⟨L⟩ := args
    match L, hs with
    | [w0, w1, w2], _ => exact ⟨w0, w1, w2, rfl⟩
  have hw := fun d (hd : d ∈ tables_1) => atoms_spec (ws := Jvm.Cond.code x code maxLocals ret :: tables_1) hat d (List.mem_cons_of_mem _ hd)
  obtain ⟨i0, ei0⟩ := is_v g2
  obtain rfl : w0 = (.int i0) := Option.some.inj ei0
  obtain ⟨i1, ei1⟩ := is_v g4
  obtain rfl : w1 = (.int i1) := Option.some.inj ei1
  obtain ⟨i2, ei2⟩ := is_v g5
  obtain rfl : w2 = (.int i2) := Option.some.inj ei2
  have hr := Cond.before_iff.mp (show rest_1_c.before _ s = true from hrest)
  obtain ⟨r0, x0⟩ := and_e hr
  obtain ⟨r1, x1⟩ := and_e x0
  obtain ⟨r2, x2⟩ := and_e x1
  obtain ⟨r3, x3⟩ := and_e x2
  obtain ⟨r4, x4⟩ := and_e x3
  obtain ⟨r5, x5⟩ := and_e x4
  obtain ⟨r6, x6⟩ := and_e x5
  obtain ⟨r7, x7⟩ := and_e x6
  obtain ⟨r8, x8⟩ := and_e x7
  obtain ⟨r9, x9⟩ := and_e x8
  obtain ⟨r10, x10⟩ := and_e x9
  obtain ⟨r11, x11⟩ := and_e x10
  obtain ⟨r12, x12⟩ := and_e x11
  obtain ⟨r13, x13⟩ := and_e x12
  obtain ⟨r14, x14⟩ := and_e x13
  obtain ⟨r15, x15⟩ := and_e x14
  obtain ⟨r16, x16⟩ := and_e x15
  obtain ⟨zc, ez⟩ := is_v r1
  have S : Sta s s.heap "java/lang/String" "COMPACT_STRINGS" "Z" (.int zc) := Sta.start ez (Or.inl (Cond.before_iff.mpr r0))
  have hz : ¬ (zc = (0 : Int32)) := fun q => by
    have u := not_v r2
    subst q
    rw [eq_i ez (Term.int_eval (0)) rfl] at u
    simp at u
  have eh := own_eqi r12
  have SH : Sta s s.heap "java/lang/Integer$IntegerCache" "high" "I" (.int (127 : Int32)) := Sta.start eh (Or.inl (Cond.before_iff.mpr r10))
  obtain ⟨ca, cl, eca, hA2, hsize, hbox⟩ := own_box r13 r15 r16
  have SC : Sta s s.heap "java/lang/Integer$IntegerCache" "cache" "[Ljava/lang/Integer;" (.ref ca) := Sta.start eca (Or.inl (own_sib (Cond.before_iff.mpr r10) (Cond.before_iff.mpr r9) (Cond.before_iff.mpr r11)))
  have hin1 : ¬ (((1 : Int32) + (128 : Int32)) < 0 ∨ cl.slots.size ≤ ((1 : Int32) + (128 : Int32)).toNatClampNeg) := by rw [hsize]; decide
  obtain ⟨va1, hv1⟩ := hbox 129 (by decide)
  have hat1 : cl.slots[((1 : Int32) + (128 : Int32)).toNatClampNeg]? = some (.ref va1) := by rw [show ((1 : Int32) + (128 : Int32)).toNatClampNeg = 129 from by decide]; exact hv1
  have hin2 : ¬ (((2 : Int32) + (128 : Int32)) < 0 ∨ cl.slots.size ≤ ((2 : Int32) + (128 : Int32)).toNatClampNeg) := by rw [hsize]; decide
  obtain ⟨va2, hv2⟩ := hbox 130 (by decide)
  have hat2 : cl.slots[((2 : Int32) + (128 : Int32)).toNatClampNeg]? = some (.ref va2) := by rw [show ((2 : Int32) + (128 : Int32)).toNatClampNeg = 130 from by decide]; exact hv2
  have hin3 : ¬ (((3 : Int32) + (128 : Int32)) < 0 ∨ cl.slots.size ≤ ((3 : Int32) + (128 : Int32)).toNatClampNeg) := by rw [hsize]; decide
  obtain ⟨va3, hv3⟩ := hbox 131 (by decide)
  have hat3 : cl.slots[((3 : Int32) + (128 : Int32)).toNatClampNeg]? = some (.ref va3) := by rw [show ((3 : Int32) + (128 : Int32)).toNatClampNeg = 131 from by decide]; exact hv3
  have hin4 : ¬ (((4 : Int32) + (128 : Int32)) < 0 ∨ cl.slots.size ≤ ((4 : Int32) + (128 : Int32)).toNatClampNeg) := by rw [hsize]; decide
  obtain ⟨va4, hv4⟩ := hbox 132 (by decide)
  have hat4 : cl.slots[((4 : Int32) + (128 : Int32)).toNatClampNeg]? = some (.ref va4) := by rw [show ((4 : Int32) + (128 : Int32)).toNatClampNeg = 132 from by decide]; exact hv4
  obtain ⟨n, o, h1, h2, h3, _, L, rfl, ⟨rfl, N⟩, hq⟩ := rm0 l s _ hw tables_1 i0 i1 i2 zc ca cl va1 va2 va3 va4 s.heap s.heap.size (Old.start s) S hz SH SC hA2 hin1 hin2 hin3 hin4 hat1 hat2 hat3 hat4 p e ha hc hk s m _ below hf ((Spec.applies_iff_loose hf).mp happ).1 ⟨rfl, State.Warmed39.refl s, rfl⟩ trivial
  exact ⟨n, _, h1, h2, h3, hpost _ _ _ _ _ _ ⟨Cond.after_iff.mpr rfl, Cond.after_iff.mpr (eq_i res_at (Term.int_eval (1)) rfl), trivial⟩ ⟨hq.1, hq.2.1, (hq.2.2.sift fun y hy => Or.inr (N y hy)).mono (by decide) (by decide)⟩⟩
theorem main_1_1 : Claimed_1_1 := comes_1 fun _ _ _ _ _ _ h hF => ⟨h.1, hF⟩
theorem main_1_2 : Claimed_1_2 := comes_1 fun _ _ _ _ _ _ h hF => ⟨h.2.1, hF⟩
end Jvm.Pilot.@@N@@
namespace Jvm.Pilot.@@N@@
open Jvm Jvm.ClassFile Sem Op Lib Jvm.Free Jvm.Stand Jvm.Pilot.@@N@@.Jvm.D
/-! MADE BY PROGRAM (witnessworld.py) out of the Statement's table words and the real class files: 26 classes; the members and pool entries that the words name. The judged class is class 1, her method 1. -/
namespace start1
open Jvm.ClassFile
def u (s : String) : CpInfo := .utf8 (stringToUtf16 s)
/-- a pool by its gaps: so many unusable entries, then the entry; so many at the end -/
def gap : Nat → List CpInfo → List CpInfo
  | 0, r => r
  | n + 1, r => .unusable :: gap n r
def poolList (es : List (Nat × CpInfo)) (last : Nat) : List CpInfo := es.foldr (fun e r => gap e.1 (e.2 :: r)) (gap last [])
def pool (es : List (Nat × CpInfo)) (last : Nat) : Array CpInfo := ⟨poolList es last⟩
def fileOf (pool : Array CpInfo) (this : Nat) (attrs : Array Attribute := #[]) (ms : Array MethodInfo := #[]) (fl : Nat := 33) (sup : Nat := 0) (ifs : Array Nat := #[]) (fds : Array FieldInfo := #[]) : ClassFile where
  minorVersion := 0
  majorVersion := 65
  constantPool := pool
  accessFlags := fl
  thisClass := this
  superClass := sup
  interfaces := ifs
  fields := fds
  methods := ms
  attributes := attrs
def plain (name : String) (sup : Option ClassId) : Class where
  name := name
  kind := .ordinary
  loader := none
  accessFlags := 33
  super := sup
  interfaces := #[]
  cf := none
  fields := #[]
  methods := #[]
  instanceTypes := #[]
  staticTypes := #[]
  resolved := #[]
  callSites := []
  init := .initialized
  statics := none
  mirror := none

def pool0 : Array CpInfo := pool [(5, u "<init>"), (0, u "()V"), (1, .class_ 10), (1, u "java/lang/Object")] 113

def k0c0 : Code := { maxStack := 0, maxLocals := 1, code := object_method_1_code, exceptionTable := #[], attributes := #[] }
def k0m0 : Method := { name := "<init>", desc := "()V", sig := { parameters := [], returnType := none }, accessFlags := 1, code := some k0c0 }
/-- java/lang/Object -/
def k0 : Class := { plain "java/lang/Object" none with
  accessFlags := 33
  interfaces := #[]
  cf := some (fileOf pool0 8 #[] #[{ accessFlags := 1, nameIndex := 5, descriptorIndex := 6, attributes := #[] }] 33 0 #[] #[])
  fields := #[]
  methods := #[k0m0]
  instanceTypes := #[]
  staticTypes := #[]
  resolved := Array.replicate 124 none
  statics := none }

def pool1 : Array CpInfo := pool [(2, .class_ 4), (0, .nameAndType 5 6), (0, u "java/lang/Object"), (0, u "<init>"), (0, u "()V"), (0, .methodref 8 9), (0, .class_ 10), (0, .nameAndType 11 12), (0, u "com/example/isogloss/isogloss/util/PersistentMapIsMadeFromPinLaw"), (0, u "key"), (0, u "(I)Ljava/lang/String;"), (0, .class_ 14), (0, u "com/example/isogloss/isogloss/util/PersistentMap"), (0, .methodref 13 3), (0, .methodref 17 18), (0, .class_ 19), (0, .nameAndType 20 21), (0, u "java/lang/Integer"), (0, u "valueOf"), (0, u "(I)Ljava/lang/Integer;"), (0, .methodref 13 23), (0, .nameAndType 24 25), (0, u "with"), (0, u "(Ljava/lang/String;Ljava/lang/Object;)Lcom/example/isogloss/isogloss/util/PersistentMap;"), (0, .integer 2147483647), (0, .methodref 8 28), (0, .nameAndType 29 30), (0, u "pick"), (0, u "(ILcom/example/isogloss/isogloss/util/PersistentMap;Lcom/example/isogloss/isogloss/util/PersistentMap;Lcom/example/isogloss/isogloss/util/PersistentMap;Lcom/example/isogloss/isogloss/util/PersistentMap;Lcom/example/isogloss/isogloss/util/PersistentMap;Lcom/example/isogloss/isogloss/util/PersistentMap;Lcom/example/isogloss/isogloss/util/PersistentMap;)Lcom/example/isogloss/isogloss/util/PersistentMap;"), (0, .methodref 13 32), (0, .nameAndType 33 34), (0, u "isMadeFrom"), (0, u "(Lcom/example/isogloss/isogloss/util/PersistentMap;)Z"), (0, .class_ 36), (0, u "java/lang/String"), (0, .methodref 35 38), (0, .nameAndType 5 39), (0, u "([C)V"), (2, u "law"), (0, u "(III)Z")] 5

def k1m0 : Method := { name := "<init>", desc := "()V", sig := { parameters := [], returnType := none }, accessFlags := 1, code := none }
def k1c1 : Code := { maxStack := 9, maxLocals := 30, code := code, exceptionTable := #[], attributes := #[] }
def k1m1 : Method := { name := "law", desc := "(III)Z", sig := { parameters := [.int, .int, .int], returnType := some .boolean }, accessFlags := 9, code := some k1c1 }
def k1c2 : Code := { maxStack := 4, maxLocals := 2, code := method_3_code, exceptionTable := #[], attributes := #[] }
def k1m2 : Method := { name := "key", desc := "(I)Ljava/lang/String;", sig := { parameters := [.int], returnType := some (.object "java/lang/String") }, accessFlags := 10, code := some k1c2 }
def k1c3 : Code := { maxStack := 2, maxLocals := 8, code := method_4_code, exceptionTable := #[], attributes := #[] }
def k1m3 : Method := { name := "pick", desc := "(ILcom/example/isogloss/isogloss/util/PersistentMap;Lcom/example/isogloss/isogloss/util/PersistentMap;Lcom/example/isogloss/isogloss/util/PersistentMap;Lcom/example/isogloss/isogloss/util/PersistentMap;Lcom/example/isogloss/isogloss/util/PersistentMap;Lcom/example/isogloss/isogloss/util/PersistentMap;Lcom/example/isogloss/isogloss/util/PersistentMap;)Lcom/example/isogloss/isogloss/util/PersistentMap;", sig := { parameters := [.int, (.object "com/example/isogloss/isogloss/util/PersistentMap"), (.object "com/example/isogloss/isogloss/util/PersistentMap"), (.object "com/example/isogloss/isogloss/util/PersistentMap"), (.object "com/example/isogloss/isogloss/util/PersistentMap"), (.object "com/example/isogloss/isogloss/util/PersistentMap"), (.object "com/example/isogloss/isogloss/util/PersistentMap"), (.object "com/example/isogloss/isogloss/util/PersistentMap")], returnType := some (.object "com/example/isogloss/isogloss/util/PersistentMap") }, accessFlags := 10, code := some k1c3 }
/-- com/example/isogloss/isogloss/util/PersistentMapIsMadeFromPinLaw -/
def k1 : Class := { plain "com/example/isogloss/isogloss/util/PersistentMapIsMadeFromPinLaw" (some 0) with
  accessFlags := 49
  interfaces := #[]
  cf := some (fileOf pool1 8 #[] #[{ accessFlags := 1, nameIndex := 5, descriptorIndex := 6, attributes := #[] }, { accessFlags := 9, nameIndex := 42, descriptorIndex := 43, attributes := #[] }, { accessFlags := 10, nameIndex := 11, descriptorIndex := 12, attributes := #[] }, { accessFlags := 10, nameIndex := 29, descriptorIndex := 30, attributes := #[] }] 49 2 #[] #[])
  fields := #[]
  methods := #[k1m0, k1m1, k1m2, k1m3]
  instanceTypes := #[]
  staticTypes := #[]
  resolved := Array.replicate 49 none
  statics := none }

def pool2 : Array CpInfo := pool [(1, .class_ 2), (0, u "java/io/Serializable"), (0, .class_ 4), (0, u "java/lang/Object")] 2

/-- java/io/Serializable -/
def k2 : Class := { plain "java/io/Serializable" (some 0) with
  accessFlags := 1537
  interfaces := #[]
  cf := some (fileOf pool2 1 #[] #[] 1537 3 #[] #[])
  fields := #[]
  methods := #[]
  instanceTypes := #[]
  staticTypes := #[]
  resolved := Array.replicate 7 none
  statics := none }

def pool3 : Array CpInfo := pool [(1, .class_ 2), (0, u "java/lang/Comparable"), (0, .class_ 4), (0, u "java/lang/Object")] 7

/-- java/lang/Comparable -/
def k3 : Class := { plain "java/lang/Comparable" (some 0) with
  accessFlags := 1537
  interfaces := #[]
  cf := some (fileOf pool3 1 #[] #[] 1537 3 #[] #[])
  fields := #[]
  methods := #[]
  instanceTypes := #[]
  staticTypes := #[]
  resolved := Array.replicate 12 none
  statics := none }

def pool4 : Array CpInfo := pool [(2, .class_ 4), (1, u "java/lang/CharSequence"), (42, .class_ 48), (0, u "java/lang/CharSequence$1CodePointIterator"), (10, .class_ 60), (0, u "java/lang/CharSequence$1CharIterator"), (5, .class_ 67), (0, u "java/lang/Object")] 63

/-- java/lang/CharSequence -/
def k4 : Class := { plain "java/lang/CharSequence" (some 0) with
  accessFlags := 1537
  interfaces := #[]
  cf := some (fileOf pool4 2 #[.nestMembers #[47, 59]] #[] 1537 66 #[] #[])
  fields := #[]
  methods := #[]
  instanceTypes := #[]
  staticTypes := #[]
  resolved := Array.replicate 131 none
  statics := none }

def pool5 : Array CpInfo := pool [(1, .class_ 2), (0, u "java/lang/constant/Constable"), (0, .class_ 4), (0, u "java/lang/Object")] 6

/-- java/lang/constant/Constable -/
def k5 : Class := { plain "java/lang/constant/Constable" (some 0) with
  accessFlags := 1537
  interfaces := #[]
  cf := some (fileOf pool5 1 #[] #[] 1537 3 #[] #[])
  fields := #[]
  methods := #[]
  instanceTypes := #[]
  staticTypes := #[]
  resolved := Array.replicate 11 none
  statics := none }

def pool6 : Array CpInfo := pool [(1, .class_ 2), (0, u "java/lang/constant/ConstantDesc"), (0, .class_ 4), (0, u "java/lang/Object")] 32

/-- java/lang/constant/ConstantDesc -/
def k6 : Class := { plain "java/lang/constant/ConstantDesc" (some 0) with
  accessFlags := 1537
  interfaces := #[]
  cf := some (fileOf pool6 1 #[] #[] 1537 3 #[] #[])
  fields := #[]
  methods := #[]
  instanceTypes := #[]
  staticTypes := #[]
  resolved := Array.replicate 37 none
  statics := none }

def pool7 : Array CpInfo := pool [(1, .methodref 2 3), (0, .class_ 4), (0, .nameAndType 5 6), (0, u "java/lang/Object"), (0, u "<init>"), (0, u "()V"), (2, .fieldref 10 11), (0, .class_ 12), (0, .nameAndType 13 14), (0, u "java/lang/String"), (0, u "value"), (0, u "[B"), (0, .fieldref 10 16), (0, .nameAndType 17 18), (0, u "coder"), (0, u "B"), (2, u "hash"), (0, u "I"), (2, u "hashIsZero"), (0, u "Z"), (0, .methodref 10 28), (0, .nameAndType 5 29), (0, u "([CIILjava/lang/Void;)V"), (8, .fieldref 10 39), (0, .nameAndType 40 26), (0, u "COMPACT_STRINGS"), (1, .class_ 44), (1, u "java/lang/StringUTF16"), (0, u "compress"), (1, .methodref 42 48), (0, .nameAndType 49 50), (0, u "coderFromArrayLen"), (0, u "([BI)B"), (56, .class_ 109), (1, u "java/lang/StringLatin1"), (67, .methodref 42 178), (0, .nameAndType 45 179), (0, u "([CII)[B"), (155, .methodref 10 336), (0, .nameAndType 17 337), (0, u "()B"), (237, .class_ 576), (0, u "java/lang/CharSequence"), (9, .methodref 107 587), (0, .nameAndType 588 589), (0, u "compareTo"), (0, u "([B[B)I"), (9, u "CASE_INSENSITIVE_ORDER"), (0, u "Ljava/util/Comparator;"), (112, u "(Ljava/lang/String;)I"), (296, u "([C)V"), (90, u "serialPersistentFields"), (0, u "[Ljava/io/ObjectStreamField;"), (0, .class_ 1104), (0, u "java/lang/String$CaseInsensitiveComparator"), (1, .class_ 1107), (0, u "java/io/Serializable"), (0, .class_ 1109), (0, u "java/lang/Comparable"), (0, .class_ 1111), (0, u "java/lang/constant/Constable"), (0, .class_ 1113), (0, u "java/lang/constant/ConstantDesc"), (2, u "serialVersionUID"), (0, u "J"), (3, u "REPL"), (0, u "C"), (2, u "LATIN1"), (1, u "UTF16")] 323

def k7m0 : Method := { name := "<init>", desc := "()V", sig := { parameters := [], returnType := none }, accessFlags := 1, code := none }
def k7c1 : Code := { maxStack := 5, maxLocals := 2, code := jdk_42_method_3_code, exceptionTable := #[], attributes := #[] }
def k7m1 : Method := { name := "<init>", desc := "([C)V", sig := { parameters := [(.array .char)], returnType := none }, accessFlags := 1, code := some k7c1 }
def k7c2 : Code := { maxStack := 2, maxLocals := 5, code := jdk_42_method_71_code, exceptionTable := #[], attributes := #[] }
def k7m2 : Method := { name := "compareTo", desc := "(Ljava/lang/String;)I", sig := { parameters := [(.object "java/lang/String")], returnType := some .int }, accessFlags := 1, code := some k7c2 }
def k7c3 : Code := { maxStack := 4, maxLocals := 6, code := jdk_42_method_149_code, exceptionTable := #[], attributes := #[] }
def k7m3 : Method := { name := "<init>", desc := "([CIILjava/lang/Void;)V", sig := { parameters := [(.array .char), .int, .int, (.object "java/lang/Void")], returnType := none }, accessFlags := 2, code := some k7c3 }
def k7c4 : Code := { maxStack := 1, maxLocals := 1, code := jdk_42_method_152_code, exceptionTable := #[], attributes := #[] }
def k7m4 : Method := { name := "coder", desc := "()B", sig := { parameters := [], returnType := some .byte }, accessFlags := 0, code := some k7c4 }
/-- java/lang/String -/
def k7 : Class := { plain "java/lang/String" (some 0) with
  accessFlags := 49
  interfaces := #[2, 3, 4, 5, 6]
  cf := some (fileOf pool7 10 #[.nestMembers #[1103]] #[{ accessFlags := 1, nameIndex := 5, descriptorIndex := 6, attributes := #[] }, { accessFlags := 1, nameIndex := 5, descriptorIndex := 1010, attributes := #[] }, { accessFlags := 1, nameIndex := 588, descriptorIndex := 713, attributes := #[] }, { accessFlags := 2, nameIndex := 5, descriptorIndex := 29, attributes := #[] }, { accessFlags := 0, nameIndex := 17, descriptorIndex := 337, attributes := #[] }] 49 2 #[1106, 1108, 575, 1110, 1112] #[{ accessFlags := 18, nameIndex := 13, descriptorIndex := 14, attributes := #[] }, { accessFlags := 18, nameIndex := 17, descriptorIndex := 18, attributes := #[] }, { accessFlags := 2, nameIndex := 21, descriptorIndex := 22, attributes := #[] }, { accessFlags := 2, nameIndex := 25, descriptorIndex := 26, attributes := #[] }, { accessFlags := 26, nameIndex := 1116, descriptorIndex := 1117, attributes := #[] }, { accessFlags := 24, nameIndex := 40, descriptorIndex := 26, attributes := #[] }, { accessFlags := 26, nameIndex := 1101, descriptorIndex := 1102, attributes := #[] }, { accessFlags := 26, nameIndex := 1121, descriptorIndex := 1122, attributes := #[] }, { accessFlags := 25, nameIndex := 599, descriptorIndex := 600, attributes := #[] }, { accessFlags := 24, nameIndex := 1125, descriptorIndex := 18, attributes := #[] }, { accessFlags := 24, nameIndex := 1127, descriptorIndex := 18, attributes := #[] }])
  fields := #[{ name := "value", type := (.array .byte), accessFlags := 18, slot := 0, constantValue := 0 }, { name := "coder", type := .byte, accessFlags := 18, slot := 1, constantValue := 0 }, { name := "hash", type := .int, accessFlags := 2, slot := 2, constantValue := 0 }, { name := "hashIsZero", type := .boolean, accessFlags := 2, slot := 3, constantValue := 0 }, { name := "serialVersionUID", type := .long, accessFlags := 26, slot := 0, constantValue := 0 }, { name := "COMPACT_STRINGS", type := .boolean, accessFlags := 24, slot := 1, constantValue := 0 }, { name := "serialPersistentFields", type := (.array (.object "java/io/ObjectStreamField")), accessFlags := 26, slot := 2, constantValue := 0 }, { name := "REPL", type := .char, accessFlags := 26, slot := 3, constantValue := 0 }, { name := "CASE_INSENSITIVE_ORDER", type := (.object "java/util/Comparator"), accessFlags := 25, slot := 4, constantValue := 0 }, { name := "LATIN1", type := .byte, accessFlags := 24, slot := 5, constantValue := 0 }, { name := "UTF16", type := .byte, accessFlags := 24, slot := 6, constantValue := 0 }]
  methods := #[k7m0, k7m1, k7m2, k7m3, k7m4]
  instanceTypes := #[(.array .byte), .byte, .int, .boolean]
  staticTypes := #[.long, .boolean, (.array (.object "java/io/ObjectStreamField")), .char, (.object "java/util/Comparator"), .byte, .byte]
  resolved := Array.replicate 1451 none
  statics := some 0 }

def pool8 : Array CpInfo := pool [(6, .class_ 8), (1, u "java/lang/Object"), (0, u "<init>"), (0, u "()V"), (1, .class_ 14), (1, u "java/lang/StringUTF16"), (31, u "$assertionsDisabled"), (0, u "Z"), (13, u "HI_BYTE_SHIFT"), (0, u "I"), (2, u "LO_BYTE_SHIFT"), (49, .methodref 12 116), (0, .nameAndType 117 118), (0, u "compress"), (0, u "([CI[BII)I"), (3, u "([CII)[B"), (138, u "coderFromArrayLen"), (0, u "([BI)B"), (106, .class_ 371), (1, u "java/lang/StringUTF16$LinesSpliterator"), (58, u "MAX_LENGTH"), (196, .class_ 628), (0, u "java/lang/StringUTF16$CodePointsSpliterator"), (0, .class_ 630), (0, u "java/lang/StringUTF16$CharsSpliterator")] 4

def k8m0 : Method := { name := "<init>", desc := "()V", sig := { parameters := [], returnType := none }, accessFlags := 0, code := none }
def k8c1 : Code := { maxStack := 2, maxLocals := 2, code := jdk_52_method_15_code, exceptionTable := #[], attributes := #[] }
def k8m1 : Method := { name := "coderFromArrayLen", desc := "([BI)B", sig := { parameters := [(.array .byte), .int], returnType := some .byte }, accessFlags := 8, code := some k8c1 }
def k8c2 : Code := { maxStack := 5, maxLocals := 6, code := jdk_52_method_16_code, exceptionTable := #[], attributes := #[] }
def k8m2 : Method := { name := "compress", desc := "([CII)[B", sig := { parameters := [(.array .char), .int, .int], returnType := some (.array .byte) }, accessFlags := 9, code := some k8c2 }
def k8c3 : Code := { maxStack := 3, maxLocals := 7, code := jdk_52_method_21_code, exceptionTable := #[], attributes := #[] }
def k8m3 : Method := { name := "compress", desc := "([CI[BII)I", sig := { parameters := [(.array .char), .int, (.array .byte), .int, .int], returnType := some .int }, accessFlags := 9, code := some k8c3 }
/-- java/lang/StringUTF16 -/
def k8 : Class := { plain "java/lang/StringUTF16" (some 0) with
  accessFlags := 48
  interfaces := #[]
  cf := some (fileOf pool8 12 #[.nestMembers #[627, 629, 369]] #[{ accessFlags := 0, nameIndex := 9, descriptorIndex := 10, attributes := #[] }, { accessFlags := 8, nameIndex := 261, descriptorIndex := 262, attributes := #[] }, { accessFlags := 9, nameIndex := 117, descriptorIndex := 122, attributes := #[] }, { accessFlags := 9, nameIndex := 117, descriptorIndex := 118, attributes := #[] }] 48 6 #[] #[{ accessFlags := 26, nameIndex := 61, descriptorIndex := 62, attributes := #[] }, { accessFlags := 26, nameIndex := 65, descriptorIndex := 62, attributes := #[] }, { accessFlags := 24, nameIndex := 430, descriptorIndex := 62, attributes := #[] }, { accessFlags := 4120, nameIndex := 46, descriptorIndex := 47, attributes := #[] }])
  fields := #[{ name := "HI_BYTE_SHIFT", type := .int, accessFlags := 26, slot := 0, constantValue := 0 }, { name := "LO_BYTE_SHIFT", type := .int, accessFlags := 26, slot := 1, constantValue := 0 }, { name := "MAX_LENGTH", type := .int, accessFlags := 24, slot := 2, constantValue := 0 }, { name := "$assertionsDisabled", type := .boolean, accessFlags := 4120, slot := 3, constantValue := 0 }]
  methods := #[k8m0, k8m1, k8m2, k8m3]
  instanceTypes := #[]
  staticTypes := #[.int, .int, .int, .boolean]
  resolved := Array.replicate 635 none
  statics := none }

def pool9 : Array CpInfo := pool [(1, .methodref 2 3), (0, .class_ 4), (0, .nameAndType 5 6), (0, u "com/example/isogloss/isogloss/util/PersistentMap"), (0, u "<init>"), (0, u "(Lcom/example/isogloss/isogloss/util/PersistentMap$Node;ILcom/example/isogloss/isogloss/util/PersistentMap;)V"), (0, .methodref 8 9), (0, .class_ 10), (0, .nameAndType 5 11), (0, u "java/lang/Object"), (0, u "()V"), (0, .fieldref 2 13), (0, .nameAndType 14 15), (0, u "root"), (0, u "Lcom/example/isogloss/isogloss/util/PersistentMap$Node;"), (0, .fieldref 2 17), (0, .nameAndType 18 19), (0, u "size"), (0, u "I"), (0, .fieldref 2 21), (0, .nameAndType 22 23), (0, u "base"), (0, u "Lcom/example/isogloss/isogloss/util/PersistentMap;"), (0, .fieldref 25 26), (0, .class_ 27), (0, .nameAndType 28 29), (0, u "com/example/isogloss/isogloss/util/PersistentMap$Node"), (0, u "key"), (0, u "Ljava/lang/String;"), (0, .methodref 31 32), (0, .class_ 33), (0, .nameAndType 34 35), (0, u "java/lang/String"), (0, u "compareTo"), (0, u "(Ljava/lang/String;)I"), (0, .fieldref 25 37), (0, .nameAndType 38 39), (0, u "value"), (0, u "Ljava/lang/Object;"), (0, .fieldref 25 41), (0, .nameAndType 42 15), (0, u "left"), (0, .fieldref 25 44), (0, .nameAndType 45 15), (0, u "right"), (0, .methodref 2 47), (0, .nameAndType 48 49), (0, u "get"), (0, u "(Ljava/lang/String;)Ljava/lang/Object;"), (0, .methodref 2 51), (0, .nameAndType 52 53), (0, u "put"), (0, u "(Lcom/example/isogloss/isogloss/util/PersistentMap$Node;Ljava/lang/String;Ljava/lang/Object;)Lcom/example/isogloss/isogloss/util/PersistentMap$Node;"), (6, u "isMadeFrom"), (0, u "(Lcom/example/isogloss/isogloss/util/PersistentMap;)Z"), (32, u "with"), (0, u "(Ljava/lang/String;Ljava/lang/Object;)Lcom/example/isogloss/isogloss/util/PersistentMap;"), (23, .methodref 25 120), (0, .nameAndType 5 121), (0, u "(Ljava/lang/String;Ljava/lang/Object;Lcom/example/isogloss/isogloss/util/PersistentMap$Node;Lcom/example/isogloss/isogloss/util/PersistentMap$Node;)V"), (0, .methodref 2 123), (0, .nameAndType 124 125), (0, u "balanced"), (0, u "(Ljava/lang/String;Ljava/lang/Object;Lcom/example/isogloss/isogloss/util/PersistentMap$Node;Lcom/example/isogloss/isogloss/util/PersistentMap$Node;)Lcom/example/isogloss/isogloss/util/PersistentMap$Node;"), (0, .methodref 2 127), (0, .nameAndType 128 129), (0, u "height"), (0, u "(Lcom/example/isogloss/isogloss/util/PersistentMap$Node;)I"), (0, .fieldref 25 131), (0, .nameAndType 128 19)] 28

def k9c0 : Code := { maxStack := 4, maxLocals := 1, code := prog_164_method_1_code, exceptionTable := #[], attributes := #[] }
def k9m0 : Method := { name := "<init>", desc := "()V", sig := { parameters := [], returnType := none }, accessFlags := 1, code := some k9c0 }
def k9c1 : Code := { maxStack := 2, maxLocals := 4, code := prog_164_method_2_code, exceptionTable := #[], attributes := #[] }
def k9m1 : Method := { name := "<init>", desc := "(Lcom/example/isogloss/isogloss/util/PersistentMap$Node;ILcom/example/isogloss/isogloss/util/PersistentMap;)V", sig := { parameters := [(.object "com/example/isogloss/isogloss/util/PersistentMap$Node"), .int, (.object "com/example/isogloss/isogloss/util/PersistentMap")], returnType := none }, accessFlags := 2, code := some k9c1 }
def k9c2 : Code := { maxStack := 2, maxLocals := 4, code := prog_164_method_4_code, exceptionTable := #[], attributes := #[] }
def k9m2 : Method := { name := "get", desc := "(Ljava/lang/String;)Ljava/lang/Object;", sig := { parameters := [(.object "java/lang/String")], returnType := some (.object "java/lang/Object") }, accessFlags := 1, code := some k9c2 }
def k9c3 : Code := { maxStack := 5, maxLocals := 3, code := prog_164_method_5_code, exceptionTable := #[], attributes := #[] }
def k9m3 : Method := { name := "with", desc := "(Ljava/lang/String;Ljava/lang/Object;)Lcom/example/isogloss/isogloss/util/PersistentMap;", sig := { parameters := [(.object "java/lang/String"), (.object "java/lang/Object")], returnType := some (.object "com/example/isogloss/isogloss/util/PersistentMap") }, accessFlags := 1, code := some k9c3 }
def k9c4 : Code := { maxStack := 2, maxLocals := 5, code := prog_164_method_6_code, exceptionTable := #[], attributes := #[] }
def k9m4 : Method := { name := "isMadeFrom", desc := "(Lcom/example/isogloss/isogloss/util/PersistentMap;)Z", sig := { parameters := [(.object "com/example/isogloss/isogloss/util/PersistentMap")], returnType := some .boolean }, accessFlags := 1, code := some k9c4 }
def k9c5 : Code := { maxStack := 6, maxLocals := 4, code := prog_164_method_11_code, exceptionTable := #[], attributes := #[] }
def k9m5 : Method := { name := "put", desc := "(Lcom/example/isogloss/isogloss/util/PersistentMap$Node;Ljava/lang/String;Ljava/lang/Object;)Lcom/example/isogloss/isogloss/util/PersistentMap$Node;", sig := { parameters := [(.object "com/example/isogloss/isogloss/util/PersistentMap$Node"), (.object "java/lang/String"), (.object "java/lang/Object")], returnType := some (.object "com/example/isogloss/isogloss/util/PersistentMap$Node") }, accessFlags := 10, code := some k9c5 }
def k9c6 : Code := { maxStack := 11, maxLocals := 5, code := prog_164_method_12_code, exceptionTable := #[], attributes := #[] }
def k9m6 : Method := { name := "balanced", desc := "(Ljava/lang/String;Ljava/lang/Object;Lcom/example/isogloss/isogloss/util/PersistentMap$Node;Lcom/example/isogloss/isogloss/util/PersistentMap$Node;)Lcom/example/isogloss/isogloss/util/PersistentMap$Node;", sig := { parameters := [(.object "java/lang/String"), (.object "java/lang/Object"), (.object "com/example/isogloss/isogloss/util/PersistentMap$Node"), (.object "com/example/isogloss/isogloss/util/PersistentMap$Node")], returnType := some (.object "com/example/isogloss/isogloss/util/PersistentMap$Node") }, accessFlags := 10, code := some k9c6 }
def k9c7 : Code := { maxStack := 1, maxLocals := 1, code := prog_164_method_13_code, exceptionTable := #[], attributes := #[] }
def k9m7 : Method := { name := "height", desc := "(Lcom/example/isogloss/isogloss/util/PersistentMap$Node;)I", sig := { parameters := [(.object "com/example/isogloss/isogloss/util/PersistentMap$Node")], returnType := some .int }, accessFlags := 10, code := some k9c7 }
/-- com/example/isogloss/isogloss/util/PersistentMap -/
def k9 : Class := { plain "com/example/isogloss/isogloss/util/PersistentMap" (some 0) with
  accessFlags := 49
  interfaces := #[]
  cf := some (fileOf pool9 2 #[.nestMembers #[25]] #[{ accessFlags := 1, nameIndex := 5, descriptorIndex := 11, attributes := #[] }, { accessFlags := 2, nameIndex := 5, descriptorIndex := 6, attributes := #[] }, { accessFlags := 1, nameIndex := 48, descriptorIndex := 49, attributes := #[] }, { accessFlags := 1, nameIndex := 94, descriptorIndex := 95, attributes := #[] }, { accessFlags := 1, nameIndex := 60, descriptorIndex := 61, attributes := #[] }, { accessFlags := 10, nameIndex := 52, descriptorIndex := 53, attributes := #[] }, { accessFlags := 10, nameIndex := 124, descriptorIndex := 125, attributes := #[] }, { accessFlags := 10, nameIndex := 128, descriptorIndex := 129, attributes := #[] }] 49 8 #[] #[{ accessFlags := 18, nameIndex := 14, descriptorIndex := 15, attributes := #[] }, { accessFlags := 18, nameIndex := 18, descriptorIndex := 19, attributes := #[] }, { accessFlags := 18, nameIndex := 22, descriptorIndex := 23, attributes := #[] }])
  fields := #[{ name := "root", type := (.object "com/example/isogloss/isogloss/util/PersistentMap$Node"), accessFlags := 18, slot := 0, constantValue := 0 }, { name := "size", type := .int, accessFlags := 18, slot := 1, constantValue := 0 }, { name := "base", type := (.object "com/example/isogloss/isogloss/util/PersistentMap"), accessFlags := 18, slot := 2, constantValue := 0 }]
  methods := #[k9m0, k9m1, k9m2, k9m3, k9m4, k9m5, k9m6, k9m7]
  instanceTypes := #[(.object "com/example/isogloss/isogloss/util/PersistentMap$Node"), .int, (.object "com/example/isogloss/isogloss/util/PersistentMap")]
  staticTypes := #[]
  resolved := (((((((Array.replicate 160 none).setIfInBounds 24 (some (.field 13 0))).setIfInBounds 36 (some (.field 13 1))).setIfInBounds 40 (some (.field 13 2))).setIfInBounds 43 (some (.field 13 3))).setIfInBounds 130 (some (.field 13 4))).setIfInBounds 119 (some (.method ⟨13, 0⟩))).setIfInBounds 25 (some (.cls 13))
  statics := none }

def pool10 : Array CpInfo := pool [(2, .class_ 4), (1, u "java/lang/Object"), (0, u "<init>"), (0, u "()V"), (1, .class_ 10), (1, u "java/lang/Number"), (2, .class_ 14), (0, u "java/io/Serializable"), (0, u "serialVersionUID"), (0, u "J")] 20

def k10m0 : Method := { name := "<init>", desc := "()V", sig := { parameters := [], returnType := none }, accessFlags := 1, code := none }
/-- java/lang/Number -/
def k10 : Class := { plain "java/lang/Number" (some 0) with
  accessFlags := 1057
  interfaces := #[2]
  cf := some (fileOf pool10 8 #[] #[{ accessFlags := 1, nameIndex := 5, descriptorIndex := 6, attributes := #[] }] 1057 2 #[13] #[{ accessFlags := 26, nameIndex := 15, descriptorIndex := 16, attributes := #[] }])
  fields := #[{ name := "serialVersionUID", type := .long, accessFlags := 26, slot := 0, constantValue := 0 }]
  methods := #[k10m0]
  instanceTypes := #[]
  staticTypes := #[.long]
  resolved := Array.replicate 37 none
  statics := none }

def pool11 : Array CpInfo := pool [(1, .class_ 2), (0, u "java/lang/Integer"), (16, u "digits"), (0, u "[C"), (64, u "DigitOnes"), (0, u "[B"), (2, u "DigitTens"), (97, u "valueOf"), (0, u "(I)Ljava/lang/Integer;"), (0, .class_ 190), (0, u "java/lang/Integer$IntegerCache"), (0, .fieldref 189 192), (0, .nameAndType 193 194), (0, u "high"), (0, u "I"), (0, .fieldref 189 196), (0, .nameAndType 197 198), (0, u "cache"), (0, u "[Ljava/lang/Integer;"), (4, .class_ 204), (0, u "java/lang/Number"), (2, u "value"), (94, u "TYPE"), (0, u "Ljava/lang/Class;"), (0, .class_ 305), (0, u "java/lang/Comparable"), (0, .class_ 307), (0, u "java/lang/constant/Constable"), (0, .class_ 309), (0, u "java/lang/constant/ConstantDesc"), (0, u "MIN_VALUE"), (1, u "MAX_VALUE"), (3, u "SIZE"), (1, u "BYTES"), (1, u "serialVersionUID"), (0, u "J")] 131

def k11c0 : Code := { maxStack := 3, maxLocals := 1, code := jdk_33_method_22_code, exceptionTable := #[], attributes := #[] }
def k11m0 : Method := { name := "valueOf", desc := "(I)Ljava/lang/Integer;", sig := { parameters := [.int], returnType := some (.object "java/lang/Integer") }, accessFlags := 9, code := some k11c0 }
/-- java/lang/Integer -/
def k11 : Class := { plain "java/lang/Integer" (some 10) with
  accessFlags := 49
  interfaces := #[3, 5, 6]
  cf := some (fileOf pool11 1 #[.nestMembers #[189]] #[{ accessFlags := 9, nameIndex := 187, descriptorIndex := 188, attributes := #[] }] 49 203 #[304, 306, 308] #[{ accessFlags := 25, nameIndex := 310, descriptorIndex := 194, attributes := #[] }, { accessFlags := 25, nameIndex := 312, descriptorIndex := 194, attributes := #[] }, { accessFlags := 25, nameIndex := 302, descriptorIndex := 303, attributes := #[] }, { accessFlags := 24, nameIndex := 19, descriptorIndex := 20, attributes := #[] }, { accessFlags := 24, nameIndex := 89, descriptorIndex := 86, attributes := #[] }, { accessFlags := 24, nameIndex := 85, descriptorIndex := 86, attributes := #[] }, { accessFlags := 18, nameIndex := 207, descriptorIndex := 194, attributes := #[] }, { accessFlags := 25, nameIndex := 316, descriptorIndex := 194, attributes := #[] }, { accessFlags := 25, nameIndex := 318, descriptorIndex := 194, attributes := #[] }, { accessFlags := 26, nameIndex := 320, descriptorIndex := 321, attributes := #[] }])
  fields := #[{ name := "MIN_VALUE", type := .int, accessFlags := 25, slot := 0, constantValue := 0 }, { name := "MAX_VALUE", type := .int, accessFlags := 25, slot := 1, constantValue := 0 }, { name := "TYPE", type := (.object "java/lang/Class"), accessFlags := 25, slot := 2, constantValue := 0 }, { name := "digits", type := (.array .char), accessFlags := 24, slot := 3, constantValue := 0 }, { name := "DigitTens", type := (.array .byte), accessFlags := 24, slot := 4, constantValue := 0 }, { name := "DigitOnes", type := (.array .byte), accessFlags := 24, slot := 5, constantValue := 0 }, { name := "value", type := .int, accessFlags := 18, slot := 0, constantValue := 0 }, { name := "SIZE", type := .int, accessFlags := 25, slot := 6, constantValue := 0 }, { name := "BYTES", type := .int, accessFlags := 25, slot := 7, constantValue := 0 }, { name := "serialVersionUID", type := .long, accessFlags := 26, slot := 8, constantValue := 0 }]
  methods := #[k11m0]
  instanceTypes := #[.int]
  staticTypes := #[.int, .int, (.object "java/lang/Class"), (.array .char), (.array .byte), (.array .byte), .int, .int, .long]
  resolved := Array.replicate 453 none
  statics := none }

def pool12 : Array CpInfo := pool [(2, .class_ 4), (1, u "java/lang/Object"), (0, u "<init>"), (0, u "()V"), (0, .class_ 8), (0, u "java/lang/Integer"), (7, .class_ 18), (1, u "java/lang/Integer$IntegerCache"), (0, u "$assertionsDisabled"), (0, u "Z"), (26, u "high"), (0, u "I"), (8, u "archivedCache"), (0, u "[Ljava/lang/Integer;"), (12, u "cache"), (0, u "low")] 27

def k12m0 : Method := { name := "<init>", desc := "()V", sig := { parameters := [], returnType := none }, accessFlags := 2, code := none }
/-- java/lang/Integer$IntegerCache -/
def k12 : Class := { plain "java/lang/Integer$IntegerCache" (some 0) with
  accessFlags := 48
  interfaces := #[]
  cf := some (fileOf pool12 16 #[.nestHost 7] #[{ accessFlags := 2, nameIndex := 5, descriptorIndex := 6, attributes := #[] }] 48 2 #[] #[{ accessFlags := 24, nameIndex := 72, descriptorIndex := 48, attributes := #[] }, { accessFlags := 24, nameIndex := 47, descriptorIndex := 48, attributes := #[] }, { accessFlags := 24, nameIndex := 71, descriptorIndex := 58, attributes := #[] }, { accessFlags := 8, nameIndex := 57, descriptorIndex := 58, attributes := #[] }, { accessFlags := 4120, nameIndex := 19, descriptorIndex := 20, attributes := #[] }])
  fields := #[{ name := "low", type := .int, accessFlags := 24, slot := 0, constantValue := 0 }, { name := "high", type := .int, accessFlags := 24, slot := 1, constantValue := 0 }, { name := "cache", type := (.array (.object "java/lang/Integer")), accessFlags := 24, slot := 2, constantValue := 0 }, { name := "archivedCache", type := (.array (.object "java/lang/Integer")), accessFlags := 8, slot := 3, constantValue := 0 }, { name := "$assertionsDisabled", type := .boolean, accessFlags := 4120, slot := 4, constantValue := 0 }]
  methods := #[k12m0]
  instanceTypes := #[]
  staticTypes := #[.int, .int, (.array (.object "java/lang/Integer")), (.array (.object "java/lang/Integer")), .boolean]
  resolved := Array.replicate 100 none
  statics := some 1 }

def pool13 : Array CpInfo := pool [(1, .methodref 2 3), (0, .class_ 4), (0, .nameAndType 5 6), (0, u "java/lang/Object"), (0, u "<init>"), (0, u "()V"), (0, .fieldref 8 9), (0, .class_ 10), (0, .nameAndType 11 12), (0, u "com/example/isogloss/isogloss/util/PersistentMap$Node"), (0, u "key"), (0, u "Ljava/lang/String;"), (0, .fieldref 8 14), (0, .nameAndType 15 16), (0, u "value"), (0, u "Ljava/lang/Object;"), (0, .fieldref 8 18), (0, .nameAndType 19 20), (0, u "left"), (0, u "Lcom/example/isogloss/isogloss/util/PersistentMap$Node;"), (0, .fieldref 8 22), (0, .nameAndType 23 20), (0, u "right"), (0, .methodref 25 26), (0, .class_ 27), (0, .nameAndType 28 29), (0, u "com/example/isogloss/isogloss/util/PersistentMap"), (0, u "height"), (0, u "(Lcom/example/isogloss/isogloss/util/PersistentMap$Node;)I"), (0, .methodref 31 32), (0, .class_ 33), (0, .nameAndType 34 35), (0, u "java/lang/Math"), (0, u "max"), (0, u "(II)I"), (0, .fieldref 8 37), (0, .nameAndType 28 38), (0, u "I"), (3, u "(Ljava/lang/String;Ljava/lang/Object;Lcom/example/isogloss/isogloss/util/PersistentMap$Node;Lcom/example/isogloss/isogloss/util/PersistentMap$Node;)V")] 9

def k13c0 : Code := { maxStack := 4, maxLocals := 5, code := prog_165_method_1_code, exceptionTable := #[], attributes := #[] }
def k13m0 : Method := { name := "<init>", desc := "(Ljava/lang/String;Ljava/lang/Object;Lcom/example/isogloss/isogloss/util/PersistentMap$Node;Lcom/example/isogloss/isogloss/util/PersistentMap$Node;)V", sig := { parameters := [(.object "java/lang/String"), (.object "java/lang/Object"), (.object "com/example/isogloss/isogloss/util/PersistentMap$Node"), (.object "com/example/isogloss/isogloss/util/PersistentMap$Node")], returnType := none }, accessFlags := 2, code := some k13c0 }
/-- com/example/isogloss/isogloss/util/PersistentMap$Node -/
def k13 : Class := { plain "com/example/isogloss/isogloss/util/PersistentMap$Node" (some 0) with
  accessFlags := 48
  interfaces := #[]
  cf := some (fileOf pool13 8 #[.nestHost 25] #[{ accessFlags := 2, nameIndex := 5, descriptorIndex := 42, attributes := #[] }] 48 2 #[] #[{ accessFlags := 18, nameIndex := 11, descriptorIndex := 12, attributes := #[] }, { accessFlags := 18, nameIndex := 15, descriptorIndex := 16, attributes := #[] }, { accessFlags := 18, nameIndex := 19, descriptorIndex := 20, attributes := #[] }, { accessFlags := 18, nameIndex := 23, descriptorIndex := 20, attributes := #[] }, { accessFlags := 18, nameIndex := 28, descriptorIndex := 38, attributes := #[] }])
  fields := #[{ name := "key", type := (.object "java/lang/String"), accessFlags := 18, slot := 0, constantValue := 0 }, { name := "value", type := (.object "java/lang/Object"), accessFlags := 18, slot := 1, constantValue := 0 }, { name := "left", type := (.object "com/example/isogloss/isogloss/util/PersistentMap$Node"), accessFlags := 18, slot := 2, constantValue := 0 }, { name := "right", type := (.object "com/example/isogloss/isogloss/util/PersistentMap$Node"), accessFlags := 18, slot := 3, constantValue := 0 }, { name := "height", type := .int, accessFlags := 18, slot := 4, constantValue := 0 }]
  methods := #[k13m0]
  instanceTypes := #[(.object "java/lang/String"), (.object "java/lang/Object"), (.object "com/example/isogloss/isogloss/util/PersistentMap$Node"), (.object "com/example/isogloss/isogloss/util/PersistentMap$Node"), .int]
  staticTypes := #[]
  resolved := Array.replicate 52 none
  statics := none }

def pool14 : Array CpInfo := pool [(1, .class_ 2), (0, u "java/lang/Math"), (1, .class_ 6), (1, u "java/lang/Object"), (0, u "<init>"), (0, u "()V"), (89, .class_ 100), (1, u "java/lang/Math$RandomNumberGeneratorHolder"), (71, u "negativeZeroFloatBits"), (0, u "J"), (2, u "negativeZeroDoubleBits"), (21, u "max"), (2, u "min"), (43, u "$assertionsDisabled"), (0, u "Z"), (88, u "(II)I"), (2, u "twoToTheDoubleScaleDown"), (0, u "D"), (4, u "twoToTheDoubleScaleUp"), (9, u "E"), (3, u "PI"), (2, u "TAU"), (2, u "DEGREES_TO_RADIANS"), (0, u "RADIANS_TO_DEGREES")] 94

def k14m0 : Method := { name := "<init>", desc := "()V", sig := { parameters := [], returnType := none }, accessFlags := 2, code := none }
def k14c1 : Code := { maxStack := 2, maxLocals := 2, code := jdk_29_method_65_code, exceptionTable := #[], attributes := #[] }
def k14m1 : Method := { name := "max", desc := "(II)I", sig := { parameters := [.int, .int], returnType := some .int }, accessFlags := 9, code := some k14c1 }
def k14c2 : Code := { maxStack := 2, maxLocals := 2, code := jdk_29_method_69_code, exceptionTable := #[], attributes := #[] }
def k14m2 : Method := { name := "min", desc := "(II)I", sig := { parameters := [.int, .int], returnType := some .int }, accessFlags := 9, code := some k14c2 }
/-- java/lang/Math -/
def k14 : Class := { plain "java/lang/Math" (some 0) with
  accessFlags := 49
  interfaces := #[]
  cf := some (fileOf pool14 1 #[.nestMembers #[98]] #[{ accessFlags := 2, nameIndex := 7, descriptorIndex := 8, attributes := #[] }, { accessFlags := 9, nameIndex := 198, descriptorIndex := 335, attributes := #[] }, { accessFlags := 9, nameIndex := 201, descriptorIndex := 335, attributes := #[] }] 49 4 #[] #[{ accessFlags := 25, nameIndex := 354, descriptorIndex := 339, attributes := #[] }, { accessFlags := 25, nameIndex := 358, descriptorIndex := 339, attributes := #[] }, { accessFlags := 25, nameIndex := 361, descriptorIndex := 339, attributes := #[] }, { accessFlags := 26, nameIndex := 364, descriptorIndex := 339, attributes := #[] }, { accessFlags := 26, nameIndex := 365, descriptorIndex := 339, attributes := #[] }, { accessFlags := 26, nameIndex := 172, descriptorIndex := 173, attributes := #[] }, { accessFlags := 26, nameIndex := 176, descriptorIndex := 173, attributes := #[] }, { accessFlags := 8, nameIndex := 344, descriptorIndex := 339, attributes := #[] }, { accessFlags := 8, nameIndex := 338, descriptorIndex := 339, attributes := #[] }, { accessFlags := 4120, nameIndex := 245, descriptorIndex := 246, attributes := #[] }])
  fields := #[{ name := "E", type := .double, accessFlags := 25, slot := 0, constantValue := 0 }, { name := "PI", type := .double, accessFlags := 25, slot := 1, constantValue := 0 }, { name := "TAU", type := .double, accessFlags := 25, slot := 2, constantValue := 0 }, { name := "DEGREES_TO_RADIANS", type := .double, accessFlags := 26, slot := 3, constantValue := 0 }, { name := "RADIANS_TO_DEGREES", type := .double, accessFlags := 26, slot := 4, constantValue := 0 }, { name := "negativeZeroFloatBits", type := .long, accessFlags := 26, slot := 5, constantValue := 0 }, { name := "negativeZeroDoubleBits", type := .long, accessFlags := 26, slot := 6, constantValue := 0 }, { name := "twoToTheDoubleScaleUp", type := .double, accessFlags := 8, slot := 7, constantValue := 0 }, { name := "twoToTheDoubleScaleDown", type := .double, accessFlags := 8, slot := 8, constantValue := 0 }, { name := "$assertionsDisabled", type := .boolean, accessFlags := 4120, slot := 9, constantValue := 0 }]
  methods := #[k14m0, k14m1, k14m2]
  instanceTypes := #[]
  staticTypes := #[.double, .double, .double, .double, .double, .long, .long, .double, .double, .boolean]
  resolved := Array.replicate 460 none
  statics := none }

def pool15 : Array CpInfo := pool [(4, .class_ 6), (1, u "java/lang/Object"), (0, u "<init>"), (0, u "()V"), (5, .class_ 16), (1, u "java/lang/StringLatin1"), (17, .methodref 14 35), (0, .nameAndType 36 37), (0, u "compareTo"), (0, u "([B[BII)I"), (0, .methodref 39 40), (0, .class_ 41), (0, .nameAndType 42 43), (0, u "java/lang/Math"), (0, u "min"), (0, u "(II)I"), (0, .methodref 45 46), (0, .class_ 47), (0, .nameAndType 48 49), (0, u "jdk/internal/util/ArraysSupport"), (0, u "mismatch"), (0, u "([B[BI)I"), (0, .methodref 14 51), (0, .nameAndType 52 53), (0, u "getChar"), (0, u "([BI)C"), (67, u "$assertionsDisabled"), (0, u "Z"), (98, .class_ 223), (1, u "java/lang/StringLatin1$LinesSpliterator"), (63, u "([B[B)I"), (102, .class_ 391), (0, u "java/lang/StringLatin1$CharsSpliterator")] 3

def k15m0 : Method := { name := "<init>", desc := "()V", sig := { parameters := [], returnType := none }, accessFlags := 0, code := none }
def k15c1 : Code := { maxStack := 4, maxLocals := 4, code := jdk_43_method_14_code, exceptionTable := #[], attributes := #[] }
def k15m1 : Method := { name := "compareTo", desc := "([B[B)I", sig := { parameters := [(.array .byte), (.array .byte)], returnType := some .int }, accessFlags := 9, code := some k15c1 }
def k15c2 : Code := { maxStack := 3, maxLocals := 6, code := jdk_43_method_15_code, exceptionTable := #[], attributes := #[] }
def k15m2 : Method := { name := "compareTo", desc := "([B[BII)I", sig := { parameters := [(.array .byte), (.array .byte), .int, .int], returnType := some .int }, accessFlags := 9, code := some k15c2 }
def k15c3 : Code := { maxStack := 2, maxLocals := 2, code := jdk_43_method_44_code, exceptionTable := #[], attributes := #[] }
def k15m3 : Method := { name := "getChar", desc := "([BI)C", sig := { parameters := [(.array .byte), .int], returnType := some .char }, accessFlags := 9, code := some k15c3 }
/-- java/lang/StringLatin1 -/
def k15 : Class := { plain "java/lang/StringLatin1" (some 0) with
  accessFlags := 48
  interfaces := #[]
  cf := some (fileOf pool15 14 #[.nestMembers #[390, 221]] #[{ accessFlags := 0, nameIndex := 7, descriptorIndex := 8, attributes := #[] }, { accessFlags := 9, nameIndex := 36, descriptorIndex := 287, attributes := #[] }, { accessFlags := 9, nameIndex := 36, descriptorIndex := 37, attributes := #[] }, { accessFlags := 9, nameIndex := 52, descriptorIndex := 53, attributes := #[] }] 48 4 #[] #[{ accessFlags := 4120, nameIndex := 121, descriptorIndex := 122, attributes := #[] }])
  fields := #[{ name := "$assertionsDisabled", type := .boolean, accessFlags := 4120, slot := 0, constantValue := 0 }]
  methods := #[k15m0, k15m1, k15m2, k15m3]
  instanceTypes := #[]
  staticTypes := #[.boolean]
  resolved := Array.replicate 395 none
  statics := none }

def pool16 : Array CpInfo := pool [(9, u "<init>"), (6, .class_ 18), (1, u "java/lang/Object"), (0, u "()V"), (1, .class_ 23), (1, u "jdk/internal/util/ArraysSupport"), (0, u "LOG2_ARRAY_LONG_INDEX_SCALE"), (0, u "I"), (2, u "U"), (0, u "Ljdk/internal/misc/Unsafe;"), (8, u "BIG_ENDIAN"), (0, u "Z"), (8, u "LOG2_BYTE_BIT_SIZE"), (4, u "LOG2_ARRAY_INT_INDEX_SCALE"), (54, u "JLA"), (0, u "Ljdk/internal/access/JavaLangAccess;"), (11, u "LOG2_ARRAY_BOOLEAN_INDEX_SCALE"), (9, u "LOG2_ARRAY_BYTE_INDEX_SCALE"), (5, u "LOG2_ARRAY_CHAR_INDEX_SCALE"), (5, u "LOG2_ARRAY_SHORT_INDEX_SCALE"), (5, u "mismatch"), (12, u "LOG2_ARRAY_FLOAT_INDEX_SCALE"), (24, u "LOG2_ARRAY_DOUBLE_INDEX_SCALE"), (89, u "T_BOOLEAN"), (2, u "T_CHAR"), (1, u "T_FLOAT"), (1, u "T_DOUBLE"), (1, u "T_BYTE"), (1, u "T_SHORT"), (1, u "T_INT"), (1, u "T_LONG"), (1, u "SOFT_MAX_ARRAY_LENGTH"), (41, u "([B[BI)I")] 41

def k16m0 : Method := { name := "<init>", desc := "()V", sig := { parameters := [], returnType := none }, accessFlags := 2, code := none }
def k16c1 : Code := { maxStack := 8, maxLocals := 4, code := jdk_48_method_13_code, exceptionTable := #[], attributes := #[] }
def k16m1 : Method := { name := "mismatch", desc := "([B[BI)I", sig := { parameters := [(.array .byte), (.array .byte), .int], returnType := some .int }, accessFlags := 9, code := some k16c1 }
/-- jdk/internal/util/ArraysSupport -/
def k16 : Class := { plain "jdk/internal/util/ArraysSupport" (some 0) with
  accessFlags := 33
  interfaces := #[]
  cf := some (fileOf pool16 21 #[] #[{ accessFlags := 2, nameIndex := 9, descriptorIndex := 19, attributes := #[] }, { accessFlags := 9, nameIndex := 149, descriptorIndex := 336, attributes := #[] }] 33 16 #[] #[{ accessFlags := 24, nameIndex := 28, descriptorIndex := 29, attributes := #[] }, { accessFlags := 26, nameIndex := 38, descriptorIndex := 39, attributes := #[] }, { accessFlags := 25, nameIndex := 121, descriptorIndex := 25, attributes := #[] }, { accessFlags := 25, nameIndex := 131, descriptorIndex := 25, attributes := #[] }, { accessFlags := 25, nameIndex := 137, descriptorIndex := 25, attributes := #[] }, { accessFlags := 25, nameIndex := 143, descriptorIndex := 25, attributes := #[] }, { accessFlags := 25, nameIndex := 53, descriptorIndex := 25, attributes := #[] }, { accessFlags := 25, nameIndex := 24, descriptorIndex := 25, attributes := #[] }, { accessFlags := 25, nameIndex := 162, descriptorIndex := 25, attributes := #[] }, { accessFlags := 25, nameIndex := 187, descriptorIndex := 25, attributes := #[] }, { accessFlags := 26, nameIndex := 48, descriptorIndex := 25, attributes := #[] }, { accessFlags := 25, nameIndex := 277, descriptorIndex := 25, attributes := #[] }, { accessFlags := 25, nameIndex := 280, descriptorIndex := 25, attributes := #[] }, { accessFlags := 25, nameIndex := 282, descriptorIndex := 25, attributes := #[] }, { accessFlags := 25, nameIndex := 284, descriptorIndex := 25, attributes := #[] }, { accessFlags := 25, nameIndex := 286, descriptorIndex := 25, attributes := #[] }, { accessFlags := 25, nameIndex := 288, descriptorIndex := 25, attributes := #[] }, { accessFlags := 25, nameIndex := 290, descriptorIndex := 25, attributes := #[] }, { accessFlags := 25, nameIndex := 292, descriptorIndex := 25, attributes := #[] }, { accessFlags := 26, nameIndex := 108, descriptorIndex := 109, attributes := #[] }, { accessFlags := 25, nameIndex := 294, descriptorIndex := 25, attributes := #[] }])
  fields := #[{ name := "U", type := (.object "jdk/internal/misc/Unsafe"), accessFlags := 24, slot := 0, constantValue := 0 }, { name := "BIG_ENDIAN", type := .boolean, accessFlags := 26, slot := 1, constantValue := 0 }, { name := "LOG2_ARRAY_BOOLEAN_INDEX_SCALE", type := .int, accessFlags := 25, slot := 2, constantValue := 0 }, { name := "LOG2_ARRAY_BYTE_INDEX_SCALE", type := .int, accessFlags := 25, slot := 3, constantValue := 0 }, { name := "LOG2_ARRAY_CHAR_INDEX_SCALE", type := .int, accessFlags := 25, slot := 4, constantValue := 0 }, { name := "LOG2_ARRAY_SHORT_INDEX_SCALE", type := .int, accessFlags := 25, slot := 5, constantValue := 0 }, { name := "LOG2_ARRAY_INT_INDEX_SCALE", type := .int, accessFlags := 25, slot := 6, constantValue := 0 }, { name := "LOG2_ARRAY_LONG_INDEX_SCALE", type := .int, accessFlags := 25, slot := 7, constantValue := 0 }, { name := "LOG2_ARRAY_FLOAT_INDEX_SCALE", type := .int, accessFlags := 25, slot := 8, constantValue := 0 }, { name := "LOG2_ARRAY_DOUBLE_INDEX_SCALE", type := .int, accessFlags := 25, slot := 9, constantValue := 0 }, { name := "LOG2_BYTE_BIT_SIZE", type := .int, accessFlags := 26, slot := 10, constantValue := 0 }, { name := "T_BOOLEAN", type := .int, accessFlags := 25, slot := 11, constantValue := 0 }, { name := "T_CHAR", type := .int, accessFlags := 25, slot := 12, constantValue := 0 }, { name := "T_FLOAT", type := .int, accessFlags := 25, slot := 13, constantValue := 0 }, { name := "T_DOUBLE", type := .int, accessFlags := 25, slot := 14, constantValue := 0 }, { name := "T_BYTE", type := .int, accessFlags := 25, slot := 15, constantValue := 0 }, { name := "T_SHORT", type := .int, accessFlags := 25, slot := 16, constantValue := 0 }, { name := "T_INT", type := .int, accessFlags := 25, slot := 17, constantValue := 0 }, { name := "T_LONG", type := .int, accessFlags := 25, slot := 18, constantValue := 0 }, { name := "JLA", type := (.object "jdk/internal/access/JavaLangAccess"), accessFlags := 26, slot := 19, constantValue := 0 }, { name := "SOFT_MAX_ARRAY_LENGTH", type := .int, accessFlags := 25, slot := 20, constantValue := 0 }]
  methods := #[k16m0, k16m1]
  instanceTypes := #[]
  staticTypes := #[(.object "jdk/internal/misc/Unsafe"), .boolean, .int, .int, .int, .int, .int, .int, .int, .int, .int, .int, .int, .int, .int, .int, .int, .int, .int, (.object "jdk/internal/access/JavaLangAccess"), .int]
  resolved := Array.replicate 378 none
  statics := none }

def pool17 : Array CpInfo := pool [(2, .class_ 4), (1, u "java/lang/Object"), (0, u "<init>"), (0, u "()V"), (17, .class_ 26), (1, u "jdk/internal/util/Preconditions"), (28, .class_ 56), (0, u "jdk/internal/util/Preconditions$4"), (57, .class_ 115), (0, u "jdk/internal/util/Preconditions$1"), (7, u "SIOOBE_FORMATTER"), (0, u "Ljava/util/function/BiFunction;"), (0, .class_ 126), (0, u "jdk/internal/util/Preconditions$2"), (3, u "AIOOBE_FORMATTER"), (0, .class_ 132), (0, u "jdk/internal/util/Preconditions$3"), (3, u "IOOBE_FORMATTER")] 57

def k17m0 : Method := { name := "<init>", desc := "()V", sig := { parameters := [], returnType := none }, accessFlags := 1, code := none }
/-- jdk/internal/util/Preconditions -/
def k17 : Class := { plain "jdk/internal/util/Preconditions" (some 0) with
  accessFlags := 33
  interfaces := #[]
  cf := some (fileOf pool17 24 #[.nestMembers #[55, 131, 125, 114]] #[{ accessFlags := 1, nameIndex := 5, descriptorIndex := 6, attributes := #[] }] 33 2 #[] #[{ accessFlags := 25, nameIndex := 123, descriptorIndex := 124, attributes := #[] }, { accessFlags := 25, nameIndex := 130, descriptorIndex := 124, attributes := #[] }, { accessFlags := 25, nameIndex := 136, descriptorIndex := 124, attributes := #[] }])
  fields := #[{ name := "SIOOBE_FORMATTER", type := (.object "java/util/function/BiFunction"), accessFlags := 25, slot := 0, constantValue := 0 }, { name := "AIOOBE_FORMATTER", type := (.object "java/util/function/BiFunction"), accessFlags := 25, slot := 1, constantValue := 0 }, { name := "IOOBE_FORMATTER", type := (.object "java/util/function/BiFunction"), accessFlags := 25, slot := 2, constantValue := 0 }]
  methods := #[k17m0]
  instanceTypes := #[]
  staticTypes := #[(.object "java/util/function/BiFunction"), (.object "java/util/function/BiFunction"), (.object "java/util/function/BiFunction")]
  resolved := Array.replicate 194 none
  statics := some 2 }

def pool18 : Array CpInfo := pool [(1, u "java/lang/Cloneable"), (0, .class_ 1), (0, u "java/lang/Object"), (0, .class_ 3)] 3

/-- java/lang/Cloneable -/
def k18 : Class := { plain "java/lang/Cloneable" (some 0) with
  accessFlags := 1537
  interfaces := #[]
  cf := some (fileOf pool18 2 #[] #[] 1537 4 #[] #[])
  fields := #[]
  methods := #[]
  instanceTypes := #[]
  staticTypes := #[]
  resolved := Array.replicate 8 none
  statics := none }

/-- the primitive byte -/
def k19 : Class := { plain "byte" none with kind := .primitive 'B', accessFlags := 0x411 }
/-- [B -/
def k20 : Class := { plain "[B" (some 0) with kind := .array 19 .byte, interfaces := #[18, 2], accessFlags := 1041 }

/-- the primitive char -/
def k21 : Class := { plain "char" none with kind := .primitive 'C', accessFlags := 0x411 }
/-- [C -/
def k22 : Class := { plain "[C" (some 0) with kind := .array 21 .char, interfaces := #[18, 2], accessFlags := 1041 }

/-- the primitive int -/
def k23 : Class := { plain "int" none with kind := .primitive 'I', accessFlags := 0x411 }
/-- [I -/
def k24 : Class := { plain "[I" (some 0) with kind := .array 23 .int, interfaces := #[18, 2], accessFlags := 1041 }

/-- [Ljava/lang/Integer; -/
def k25 : Class := { plain "[Ljava/lang/Integer;" (some 0) with kind := .array 11 (.object "java/lang/Integer"), interfaces := #[18, 2], accessFlags := 1041 }

def heap : Heap := #[{ cls := 7, slots := #[.long 0, .int 1, .null, .int 0, .null, .int 0, .int 0], vm := .statics 7 },
  { cls := 12, slots := #[.int 0, .int 127, .ref 3, .null, .int 0], vm := .statics 12 },
  { cls := 17, slots := #[.null, .null, .null], vm := .statics 17 },
  { cls := 25, slots := #[.ref 4, .ref 5, .ref 6, .ref 7, .ref 8, .ref 9, .ref 10, .ref 11, .ref 12, .ref 13, .ref 14, .ref 15, .ref 16, .ref 17, .ref 18, .ref 19, .ref 20, .ref 21, .ref 22, .ref 23, .ref 24, .ref 25, .ref 26, .ref 27, .ref 28, .ref 29, .ref 30, .ref 31, .ref 32, .ref 33, .ref 34, .ref 35, .ref 36, .ref 37, .ref 38, .ref 39, .ref 40, .ref 41, .ref 42, .ref 43, .ref 44, .ref 45, .ref 46, .ref 47, .ref 48, .ref 49, .ref 50, .ref 51, .ref 52, .ref 53, .ref 54, .ref 55, .ref 56, .ref 57, .ref 58, .ref 59, .ref 60, .ref 61, .ref 62, .ref 63, .ref 64, .ref 65, .ref 66, .ref 67, .ref 68, .ref 69, .ref 70, .ref 71, .ref 72, .ref 73, .ref 74, .ref 75, .ref 76, .ref 77, .ref 78, .ref 79, .ref 80, .ref 81, .ref 82, .ref 83, .ref 84, .ref 85, .ref 86, .ref 87, .ref 88, .ref 89, .ref 90, .ref 91, .ref 92, .ref 93, .ref 94, .ref 95, .ref 96, .ref 97, .ref 98, .ref 99, .ref 100, .ref 101, .ref 102, .ref 103, .ref 104, .ref 105, .ref 106, .ref 107, .ref 108, .ref 109, .ref 110, .ref 111, .ref 112, .ref 113, .ref 114, .ref 115, .ref 116, .ref 117, .ref 118, .ref 119, .ref 120, .ref 121, .ref 122, .ref 123, .ref 124, .ref 125, .ref 126, .ref 127, .ref 128, .ref 129, .ref 130, .ref 131, .ref 132, .ref 133, .ref 134, .ref 135, .ref 136, .ref 137, .ref 138, .ref 139, .ref 140, .ref 141, .ref 142, .ref 143, .ref 144, .ref 145, .ref 146, .ref 147, .ref 148, .ref 149, .ref 150, .ref 151, .ref 152, .ref 153, .ref 154, .ref 155, .ref 156, .ref 157, .ref 158, .ref 159, .ref 160, .ref 161, .ref 162, .ref 163, .ref 164, .ref 165, .ref 166, .ref 167, .ref 168, .ref 169, .ref 170, .ref 171, .ref 172, .ref 173, .ref 174, .ref 175, .ref 176, .ref 177, .ref 178, .ref 179, .ref 180, .ref 181, .ref 182, .ref 183, .ref 184, .ref 185, .ref 186, .ref 187, .ref 188, .ref 189, .ref 190, .ref 191, .ref 192, .ref 193, .ref 194, .ref 195, .ref 196, .ref 197, .ref 198, .ref 199, .ref 200, .ref 201, .ref 202, .ref 203, .ref 204, .ref 205, .ref 206, .ref 207, .ref 208, .ref 209, .ref 210, .ref 211, .ref 212, .ref 213, .ref 214, .ref 215, .ref 216, .ref 217, .ref 218, .ref 219, .ref 220, .ref 221, .ref 222, .ref 223, .ref 224, .ref 225, .ref 226, .ref 227, .ref 228, .ref 229, .ref 230, .ref 231, .ref 232, .ref 233, .ref 234, .ref 235, .ref 236, .ref 237, .ref 238, .ref 239, .ref 240, .ref 241, .ref 242, .ref 243, .ref 244, .ref 245, .ref 246, .ref 247, .ref 248, .ref 249, .ref 250, .ref 251, .ref 252, .ref 253, .ref 254, .ref 255, .ref 256, .ref 257, .ref 258, .ref 259], vm := .none },
  { cls := 11, slots := #[.int (-128)], vm := .none },
  { cls := 11, slots := #[.int (-127)], vm := .none },
  { cls := 11, slots := #[.int (-126)], vm := .none },
  { cls := 11, slots := #[.int (-125)], vm := .none },
  { cls := 11, slots := #[.int (-124)], vm := .none },
  { cls := 11, slots := #[.int (-123)], vm := .none },
  { cls := 11, slots := #[.int (-122)], vm := .none },
  { cls := 11, slots := #[.int (-121)], vm := .none },
  { cls := 11, slots := #[.int (-120)], vm := .none },
  { cls := 11, slots := #[.int (-119)], vm := .none },
  { cls := 11, slots := #[.int (-118)], vm := .none },
  { cls := 11, slots := #[.int (-117)], vm := .none },
  { cls := 11, slots := #[.int (-116)], vm := .none },
  { cls := 11, slots := #[.int (-115)], vm := .none },
  { cls := 11, slots := #[.int (-114)], vm := .none },
  { cls := 11, slots := #[.int (-113)], vm := .none },
  { cls := 11, slots := #[.int (-112)], vm := .none },
  { cls := 11, slots := #[.int (-111)], vm := .none },
  { cls := 11, slots := #[.int (-110)], vm := .none },
  { cls := 11, slots := #[.int (-109)], vm := .none },
  { cls := 11, slots := #[.int (-108)], vm := .none },
  { cls := 11, slots := #[.int (-107)], vm := .none },
  { cls := 11, slots := #[.int (-106)], vm := .none },
  { cls := 11, slots := #[.int (-105)], vm := .none },
  { cls := 11, slots := #[.int (-104)], vm := .none },
  { cls := 11, slots := #[.int (-103)], vm := .none },
  { cls := 11, slots := #[.int (-102)], vm := .none },
  { cls := 11, slots := #[.int (-101)], vm := .none },
  { cls := 11, slots := #[.int (-100)], vm := .none },
  { cls := 11, slots := #[.int (-99)], vm := .none },
  { cls := 11, slots := #[.int (-98)], vm := .none },
  { cls := 11, slots := #[.int (-97)], vm := .none },
  { cls := 11, slots := #[.int (-96)], vm := .none },
  { cls := 11, slots := #[.int (-95)], vm := .none },
  { cls := 11, slots := #[.int (-94)], vm := .none },
  { cls := 11, slots := #[.int (-93)], vm := .none },
  { cls := 11, slots := #[.int (-92)], vm := .none },
  { cls := 11, slots := #[.int (-91)], vm := .none },
  { cls := 11, slots := #[.int (-90)], vm := .none },
  { cls := 11, slots := #[.int (-89)], vm := .none },
  { cls := 11, slots := #[.int (-88)], vm := .none },
  { cls := 11, slots := #[.int (-87)], vm := .none },
  { cls := 11, slots := #[.int (-86)], vm := .none },
  { cls := 11, slots := #[.int (-85)], vm := .none },
  { cls := 11, slots := #[.int (-84)], vm := .none },
  { cls := 11, slots := #[.int (-83)], vm := .none },
  { cls := 11, slots := #[.int (-82)], vm := .none },
  { cls := 11, slots := #[.int (-81)], vm := .none },
  { cls := 11, slots := #[.int (-80)], vm := .none },
  { cls := 11, slots := #[.int (-79)], vm := .none },
  { cls := 11, slots := #[.int (-78)], vm := .none },
  { cls := 11, slots := #[.int (-77)], vm := .none },
  { cls := 11, slots := #[.int (-76)], vm := .none },
  { cls := 11, slots := #[.int (-75)], vm := .none },
  { cls := 11, slots := #[.int (-74)], vm := .none },
  { cls := 11, slots := #[.int (-73)], vm := .none },
  { cls := 11, slots := #[.int (-72)], vm := .none },
  { cls := 11, slots := #[.int (-71)], vm := .none },
  { cls := 11, slots := #[.int (-70)], vm := .none },
  { cls := 11, slots := #[.int (-69)], vm := .none },
  { cls := 11, slots := #[.int (-68)], vm := .none },
  { cls := 11, slots := #[.int (-67)], vm := .none },
  { cls := 11, slots := #[.int (-66)], vm := .none },
  { cls := 11, slots := #[.int (-65)], vm := .none },
  { cls := 11, slots := #[.int (-64)], vm := .none },
  { cls := 11, slots := #[.int (-63)], vm := .none },
  { cls := 11, slots := #[.int (-62)], vm := .none },
  { cls := 11, slots := #[.int (-61)], vm := .none },
  { cls := 11, slots := #[.int (-60)], vm := .none },
  { cls := 11, slots := #[.int (-59)], vm := .none },
  { cls := 11, slots := #[.int (-58)], vm := .none },
  { cls := 11, slots := #[.int (-57)], vm := .none },
  { cls := 11, slots := #[.int (-56)], vm := .none },
  { cls := 11, slots := #[.int (-55)], vm := .none },
  { cls := 11, slots := #[.int (-54)], vm := .none },
  { cls := 11, slots := #[.int (-53)], vm := .none },
  { cls := 11, slots := #[.int (-52)], vm := .none },
  { cls := 11, slots := #[.int (-51)], vm := .none },
  { cls := 11, slots := #[.int (-50)], vm := .none },
  { cls := 11, slots := #[.int (-49)], vm := .none },
  { cls := 11, slots := #[.int (-48)], vm := .none },
  { cls := 11, slots := #[.int (-47)], vm := .none },
  { cls := 11, slots := #[.int (-46)], vm := .none },
  { cls := 11, slots := #[.int (-45)], vm := .none },
  { cls := 11, slots := #[.int (-44)], vm := .none },
  { cls := 11, slots := #[.int (-43)], vm := .none },
  { cls := 11, slots := #[.int (-42)], vm := .none },
  { cls := 11, slots := #[.int (-41)], vm := .none },
  { cls := 11, slots := #[.int (-40)], vm := .none },
  { cls := 11, slots := #[.int (-39)], vm := .none },
  { cls := 11, slots := #[.int (-38)], vm := .none },
  { cls := 11, slots := #[.int (-37)], vm := .none },
  { cls := 11, slots := #[.int (-36)], vm := .none },
  { cls := 11, slots := #[.int (-35)], vm := .none },
  { cls := 11, slots := #[.int (-34)], vm := .none },
  { cls := 11, slots := #[.int (-33)], vm := .none },
  { cls := 11, slots := #[.int (-32)], vm := .none },
  { cls := 11, slots := #[.int (-31)], vm := .none },
  { cls := 11, slots := #[.int (-30)], vm := .none },
  { cls := 11, slots := #[.int (-29)], vm := .none },
  { cls := 11, slots := #[.int (-28)], vm := .none },
  { cls := 11, slots := #[.int (-27)], vm := .none },
  { cls := 11, slots := #[.int (-26)], vm := .none },
  { cls := 11, slots := #[.int (-25)], vm := .none },
  { cls := 11, slots := #[.int (-24)], vm := .none },
  { cls := 11, slots := #[.int (-23)], vm := .none },
  { cls := 11, slots := #[.int (-22)], vm := .none },
  { cls := 11, slots := #[.int (-21)], vm := .none },
  { cls := 11, slots := #[.int (-20)], vm := .none },
  { cls := 11, slots := #[.int (-19)], vm := .none },
  { cls := 11, slots := #[.int (-18)], vm := .none },
  { cls := 11, slots := #[.int (-17)], vm := .none },
  { cls := 11, slots := #[.int (-16)], vm := .none },
  { cls := 11, slots := #[.int (-15)], vm := .none },
  { cls := 11, slots := #[.int (-14)], vm := .none },
  { cls := 11, slots := #[.int (-13)], vm := .none },
  { cls := 11, slots := #[.int (-12)], vm := .none },
  { cls := 11, slots := #[.int (-11)], vm := .none },
  { cls := 11, slots := #[.int (-10)], vm := .none },
  { cls := 11, slots := #[.int (-9)], vm := .none },
  { cls := 11, slots := #[.int (-8)], vm := .none },
  { cls := 11, slots := #[.int (-7)], vm := .none },
  { cls := 11, slots := #[.int (-6)], vm := .none },
  { cls := 11, slots := #[.int (-5)], vm := .none },
  { cls := 11, slots := #[.int (-4)], vm := .none },
  { cls := 11, slots := #[.int (-3)], vm := .none },
  { cls := 11, slots := #[.int (-2)], vm := .none },
  { cls := 11, slots := #[.int (-1)], vm := .none },
  { cls := 11, slots := #[.int (0)], vm := .none },
  { cls := 11, slots := #[.int (1)], vm := .none },
  { cls := 11, slots := #[.int (2)], vm := .none },
  { cls := 11, slots := #[.int (3)], vm := .none },
  { cls := 11, slots := #[.int (4)], vm := .none },
  { cls := 11, slots := #[.int (5)], vm := .none },
  { cls := 11, slots := #[.int (6)], vm := .none },
  { cls := 11, slots := #[.int (7)], vm := .none },
  { cls := 11, slots := #[.int (8)], vm := .none },
  { cls := 11, slots := #[.int (9)], vm := .none },
  { cls := 11, slots := #[.int (10)], vm := .none },
  { cls := 11, slots := #[.int (11)], vm := .none },
  { cls := 11, slots := #[.int (12)], vm := .none },
  { cls := 11, slots := #[.int (13)], vm := .none },
  { cls := 11, slots := #[.int (14)], vm := .none },
  { cls := 11, slots := #[.int (15)], vm := .none },
  { cls := 11, slots := #[.int (16)], vm := .none },
  { cls := 11, slots := #[.int (17)], vm := .none },
  { cls := 11, slots := #[.int (18)], vm := .none },
  { cls := 11, slots := #[.int (19)], vm := .none },
  { cls := 11, slots := #[.int (20)], vm := .none },
  { cls := 11, slots := #[.int (21)], vm := .none },
  { cls := 11, slots := #[.int (22)], vm := .none },
  { cls := 11, slots := #[.int (23)], vm := .none },
  { cls := 11, slots := #[.int (24)], vm := .none },
  { cls := 11, slots := #[.int (25)], vm := .none },
  { cls := 11, slots := #[.int (26)], vm := .none },
  { cls := 11, slots := #[.int (27)], vm := .none },
  { cls := 11, slots := #[.int (28)], vm := .none },
  { cls := 11, slots := #[.int (29)], vm := .none },
  { cls := 11, slots := #[.int (30)], vm := .none },
  { cls := 11, slots := #[.int (31)], vm := .none },
  { cls := 11, slots := #[.int (32)], vm := .none },
  { cls := 11, slots := #[.int (33)], vm := .none },
  { cls := 11, slots := #[.int (34)], vm := .none },
  { cls := 11, slots := #[.int (35)], vm := .none },
  { cls := 11, slots := #[.int (36)], vm := .none },
  { cls := 11, slots := #[.int (37)], vm := .none },
  { cls := 11, slots := #[.int (38)], vm := .none },
  { cls := 11, slots := #[.int (39)], vm := .none },
  { cls := 11, slots := #[.int (40)], vm := .none },
  { cls := 11, slots := #[.int (41)], vm := .none },
  { cls := 11, slots := #[.int (42)], vm := .none },
  { cls := 11, slots := #[.int (43)], vm := .none },
  { cls := 11, slots := #[.int (44)], vm := .none },
  { cls := 11, slots := #[.int (45)], vm := .none },
  { cls := 11, slots := #[.int (46)], vm := .none },
  { cls := 11, slots := #[.int (47)], vm := .none },
  { cls := 11, slots := #[.int (48)], vm := .none },
  { cls := 11, slots := #[.int (49)], vm := .none },
  { cls := 11, slots := #[.int (50)], vm := .none },
  { cls := 11, slots := #[.int (51)], vm := .none },
  { cls := 11, slots := #[.int (52)], vm := .none },
  { cls := 11, slots := #[.int (53)], vm := .none },
  { cls := 11, slots := #[.int (54)], vm := .none },
  { cls := 11, slots := #[.int (55)], vm := .none },
  { cls := 11, slots := #[.int (56)], vm := .none },
  { cls := 11, slots := #[.int (57)], vm := .none },
  { cls := 11, slots := #[.int (58)], vm := .none },
  { cls := 11, slots := #[.int (59)], vm := .none },
  { cls := 11, slots := #[.int (60)], vm := .none },
  { cls := 11, slots := #[.int (61)], vm := .none },
  { cls := 11, slots := #[.int (62)], vm := .none },
  { cls := 11, slots := #[.int (63)], vm := .none },
  { cls := 11, slots := #[.int (64)], vm := .none },
  { cls := 11, slots := #[.int (65)], vm := .none },
  { cls := 11, slots := #[.int (66)], vm := .none },
  { cls := 11, slots := #[.int (67)], vm := .none },
  { cls := 11, slots := #[.int (68)], vm := .none },
  { cls := 11, slots := #[.int (69)], vm := .none },
  { cls := 11, slots := #[.int (70)], vm := .none },
  { cls := 11, slots := #[.int (71)], vm := .none },
  { cls := 11, slots := #[.int (72)], vm := .none },
  { cls := 11, slots := #[.int (73)], vm := .none },
  { cls := 11, slots := #[.int (74)], vm := .none },
  { cls := 11, slots := #[.int (75)], vm := .none },
  { cls := 11, slots := #[.int (76)], vm := .none },
  { cls := 11, slots := #[.int (77)], vm := .none },
  { cls := 11, slots := #[.int (78)], vm := .none },
  { cls := 11, slots := #[.int (79)], vm := .none },
  { cls := 11, slots := #[.int (80)], vm := .none },
  { cls := 11, slots := #[.int (81)], vm := .none },
  { cls := 11, slots := #[.int (82)], vm := .none },
  { cls := 11, slots := #[.int (83)], vm := .none },
  { cls := 11, slots := #[.int (84)], vm := .none },
  { cls := 11, slots := #[.int (85)], vm := .none },
  { cls := 11, slots := #[.int (86)], vm := .none },
  { cls := 11, slots := #[.int (87)], vm := .none },
  { cls := 11, slots := #[.int (88)], vm := .none },
  { cls := 11, slots := #[.int (89)], vm := .none },
  { cls := 11, slots := #[.int (90)], vm := .none },
  { cls := 11, slots := #[.int (91)], vm := .none },
  { cls := 11, slots := #[.int (92)], vm := .none },
  { cls := 11, slots := #[.int (93)], vm := .none },
  { cls := 11, slots := #[.int (94)], vm := .none },
  { cls := 11, slots := #[.int (95)], vm := .none },
  { cls := 11, slots := #[.int (96)], vm := .none },
  { cls := 11, slots := #[.int (97)], vm := .none },
  { cls := 11, slots := #[.int (98)], vm := .none },
  { cls := 11, slots := #[.int (99)], vm := .none },
  { cls := 11, slots := #[.int (100)], vm := .none },
  { cls := 11, slots := #[.int (101)], vm := .none },
  { cls := 11, slots := #[.int (102)], vm := .none },
  { cls := 11, slots := #[.int (103)], vm := .none },
  { cls := 11, slots := #[.int (104)], vm := .none },
  { cls := 11, slots := #[.int (105)], vm := .none },
  { cls := 11, slots := #[.int (106)], vm := .none },
  { cls := 11, slots := #[.int (107)], vm := .none },
  { cls := 11, slots := #[.int (108)], vm := .none },
  { cls := 11, slots := #[.int (109)], vm := .none },
  { cls := 11, slots := #[.int (110)], vm := .none },
  { cls := 11, slots := #[.int (111)], vm := .none },
  { cls := 11, slots := #[.int (112)], vm := .none },
  { cls := 11, slots := #[.int (113)], vm := .none },
  { cls := 11, slots := #[.int (114)], vm := .none },
  { cls := 11, slots := #[.int (115)], vm := .none },
  { cls := 11, slots := #[.int (116)], vm := .none },
  { cls := 11, slots := #[.int (117)], vm := .none },
  { cls := 11, slots := #[.int (118)], vm := .none },
  { cls := 11, slots := #[.int (119)], vm := .none },
  { cls := 11, slots := #[.int (120)], vm := .none },
  { cls := 11, slots := #[.int (121)], vm := .none },
  { cls := 11, slots := #[.int (122)], vm := .none },
  { cls := 11, slots := #[.int (123)], vm := .none },
  { cls := 11, slots := #[.int (124)], vm := .none },
  { cls := 11, slots := #[.int (125)], vm := .none },
  { cls := 11, slots := #[.int (126)], vm := .none },
  { cls := 11, slots := #[.int (127)], vm := .none }]
def classes : Array Class := #[k0, k1, k2, k3, k4, k5, k6, k7, k8, k9, k10, k11, k12, k13, k14, k15, k16, k17, k18, k19, k20, k21, k22, k23, k24, k25]
def interned : List (Array UInt16 × Addr) := []
def slotsUsed : Nat := 527
def theMethod : MethodId := ⟨1, 1⟩
def args0 : Array Value := #[.int 1, .int 2, .int 3]
def aboutOver (below : List Frame) : State where
  vm := { classes := classes, interned := interned.toArray }
  heap := heap
  slotsUsed := slotsUsed
  threads := #[{ frames := .invoking theMethod args0 :: below }]
def below0 : List Frame := [.native { method := ⟨0, 0⟩, args := #[] }]
def about1 : State := aboutOver below0
def p0 : Program := .bare "" "" ""
def e0 : Env := launch0.env 0 0 0
theorem w_frames : about1.frames = Frame.invoking theMethod args0 :: below0 := rfl
set_option maxRecDepth 65536 in
theorem w_args : argsFit about1.vm theMethod args0 = true := by decide +kernel
set_option maxRecDepth 65536 in
theorem w_heap : heapFits about1 = true := by decide +kernel
set_option maxRecDepth 65536 in
theorem w_runnable : about1.curStatus? = some .runnable := by decide +kernel
set_option maxRecDepth 65536 in
theorem w_alone : about1.alone = true := by decide +kernel
set_option maxRecDepth 65536 in
theorem w_named : about1.methodNamed? x = some theMethod := by decide +kernel
set_option maxRecDepth 65536 in
theorem w_hears : about1.hears theMethod below0 = true := by decide +kernel
set_option maxRecDepth 65536 in
theorem w_ripe : about1.ripe theMethod args0 below0 = true := by decide +kernel
theorem w_running : about1.status = .running := rfl
set_option maxRecDepth 65536 in
theorem w_room : about1.hasRoom e0.platform room_1 = true :=
  launch0.hasRoom_least _ room_1 (by decide +kernel) (by decide +kernel) (by decide +kernel) (by decide +kernel) (by decide +kernel) (by decide +kernel)
theorem allAtoms_all (ts : List Jvm.Cond) (a : Array Jvm.Value) (st : Jvm.State) : (allAtoms ts).before a st = ts.all (fun c => c.before a st) := by
  induction ts with
  | nil => rfl
  | cons c t ih =>
    show (Jvm.Cond.and c (allAtoms t)).before a st = _
    rw [Jvm.Cond.before_and, ih, List.all_cons]
def words1 : List Jvm.Cond := Jvm.Cond.code x code maxLocals ret :: tables_1
/-- a 'code' word, met by the world's own term for the bytes: nothing is compared byte by byte -/
theorem code_word {y : MethodName} {bytes : ByteArray} {mx : Nat} {rt : Option FieldType} {a : Array Value} {s : State} {m : MethodId} {meth : Method} {c : Code} (h1 : s.methodNamed? y = some m) (h2 : s.vm.method? m = some meth) (h3 : meth.code = some c) (h4 : c.code = bytes)
    (h5 : (c.maxLocals == mx && c.exceptionTable.isEmpty && decide (c.maxStack ≤ mostOperands) && decide (meth.sig.returnType = rt) && !meth.locks && decide (parseMethodDescriptor y.desc = some meth.sig)) = true) : (Jvm.Cond.code y bytes mx rt).before a s = true := by
  simp only [Bool.and_eq_true, beq_iff_eq, Bool.not_eq_true', decide_eq_true_eq] at h5
  obtain ⟨⟨⟨⟨⟨g1, g2⟩, g3⟩, g4⟩, g5⟩, g6⟩ := h5
  simp [Cond.before, Cond.holds, Cond.value, h1, h2, h3, h4, g1, g2, g3, g4, g5, g6]
def isCode : Jvm.Cond → Bool
  | .code _ _ _ _ => true
  | _ => false
theorem all_split {L : List Jvm.Cond} {P : Jvm.Cond → Bool} (h1 : L.all (fun c => isCode c || P c) = true) (h2 : ∀ c ∈ L.filter isCode, P c = true) : L.all P = true := by
  refine List.all_eq_true.mpr fun c hc => ?_
  have h := List.all_eq_true.mp h1 c hc
  rcases Bool.eq_false_or_eq_true (isCode c) with hi | hi
  · exact h2 c (List.mem_filter.mpr ⟨hc, hi⟩)
  · simpa [hi] using h
set_option maxRecDepth 65536 in
theorem w_c0 : (Jvm.Cond.code x code maxLocals ret).before args0 about1 = true := code_word (m := ⟨1, 1⟩) (meth := k1m1) (c := k1c1) (by decide +kernel) rfl rfl rfl (by decide +kernel)
set_option maxRecDepth 65536 in
theorem w_c1 : (Jvm.Cond.code ({ cls := "com/example/isogloss/isogloss/util/PersistentMapIsMadeFromPinLaw", name := "key", desc := "(I)Ljava/lang/String;" } : Jvm.MethodName) method_3_code (2 : Nat) (Option.some (Jvm.ClassFile.FieldType.object "java/lang/String"))).before args0 about1 = true := code_word (m := ⟨1, 2⟩) (meth := k1m2) (c := k1c2) (by decide +kernel) rfl rfl rfl (by decide +kernel)
set_option maxRecDepth 65536 in
theorem w_c2 : (Jvm.Cond.code ({ cls := "java/lang/String", name := "<init>", desc := "([C)V" } : Jvm.MethodName) jdk_42_method_3_code (2 : Nat) (Option.none : Option Jvm.ClassFile.FieldType)).before args0 about1 = true := code_word (m := ⟨7, 1⟩) (meth := k7m1) (c := k7c1) (by decide +kernel) rfl rfl rfl (by decide +kernel)
set_option maxRecDepth 65536 in
theorem w_c3 : (Jvm.Cond.code ({ cls := "java/lang/String", name := "<init>", desc := "([CIILjava/lang/Void;)V" } : Jvm.MethodName) jdk_42_method_149_code (6 : Nat) (Option.none : Option Jvm.ClassFile.FieldType)).before args0 about1 = true := code_word (m := ⟨7, 3⟩) (meth := k7m3) (c := k7c3) (by decide +kernel) rfl rfl rfl (by decide +kernel)
set_option maxRecDepth 65536 in
theorem w_c4 : (Jvm.Cond.code ({ cls := "java/lang/Object", name := "<init>", desc := "()V" } : Jvm.MethodName) object_method_1_code (1 : Nat) (Option.none : Option Jvm.ClassFile.FieldType)).before args0 about1 = true := code_word (m := ⟨0, 0⟩) (meth := k0m0) (c := k0c0) (by decide +kernel) rfl rfl rfl (by decide +kernel)
set_option maxRecDepth 65536 in
theorem w_c5 : (Jvm.Cond.code ({ cls := "java/lang/StringUTF16", name := "compress", desc := "([CII)[B" } : Jvm.MethodName) jdk_52_method_16_code (6 : Nat) (Option.some (Jvm.ClassFile.FieldType.array Jvm.ClassFile.FieldType.byte))).before args0 about1 = true := code_word (m := ⟨8, 2⟩) (meth := k8m2) (c := k8c2) (by decide +kernel) rfl rfl rfl (by decide +kernel)
set_option maxRecDepth 65536 in
theorem w_c6 : (Jvm.Cond.code ({ cls := "java/lang/StringUTF16", name := "compress", desc := "([CI[BII)I" } : Jvm.MethodName) jdk_52_method_21_code (7 : Nat) (Option.some Jvm.ClassFile.FieldType.int)).before args0 about1 = true := code_word (m := ⟨8, 3⟩) (meth := k8m3) (c := k8c3) (by decide +kernel) rfl rfl rfl (by decide +kernel)
set_option maxRecDepth 65536 in
theorem w_c7 : (Jvm.Cond.code ({ cls := "java/lang/StringUTF16", name := "coderFromArrayLen", desc := "([BI)B" } : Jvm.MethodName) jdk_52_method_15_code (2 : Nat) (Option.some Jvm.ClassFile.FieldType.byte)).before args0 about1 = true := code_word (m := ⟨8, 1⟩) (meth := k8m1) (c := k8c1) (by decide +kernel) rfl rfl rfl (by decide +kernel)
set_option maxRecDepth 65536 in
theorem w_c8 : (Jvm.Cond.code ({ cls := "com/example/isogloss/isogloss/util/PersistentMap", name := "<init>", desc := "()V" } : Jvm.MethodName) prog_164_method_1_code (1 : Nat) (Option.none : Option Jvm.ClassFile.FieldType)).before args0 about1 = true := code_word (m := ⟨9, 0⟩) (meth := k9m0) (c := k9c0) (by decide +kernel) rfl rfl rfl (by decide +kernel)
set_option maxRecDepth 65536 in
theorem w_c9 : (Jvm.Cond.code ({ cls := "com/example/isogloss/isogloss/util/PersistentMap", name := "<init>", desc := "(Lcom/example/isogloss/isogloss/util/PersistentMap$Node;ILcom/example/isogloss/isogloss/util/PersistentMap;)V" } : Jvm.MethodName) prog_164_method_2_code (4 : Nat) (Option.none : Option Jvm.ClassFile.FieldType)).before args0 about1 = true := code_word (m := ⟨9, 1⟩) (meth := k9m1) (c := k9c1) (by decide +kernel) rfl rfl rfl (by decide +kernel)
set_option maxRecDepth 65536 in
theorem w_c10 : (Jvm.Cond.code ({ cls := "java/lang/Integer", name := "valueOf", desc := "(I)Ljava/lang/Integer;" } : Jvm.MethodName) jdk_33_method_22_code (1 : Nat) (Option.some (Jvm.ClassFile.FieldType.object "java/lang/Integer"))).before args0 about1 = true := code_word (m := ⟨11, 0⟩) (meth := k11m0) (c := k11c0) (by decide +kernel) rfl rfl rfl (by decide +kernel)
set_option maxRecDepth 65536 in
theorem w_c11 : (Jvm.Cond.code ({ cls := "com/example/isogloss/isogloss/util/PersistentMap", name := "with", desc := "(Ljava/lang/String;Ljava/lang/Object;)Lcom/example/isogloss/isogloss/util/PersistentMap;" } : Jvm.MethodName) prog_164_method_5_code (3 : Nat) (Option.some (Jvm.ClassFile.FieldType.object "com/example/isogloss/isogloss/util/PersistentMap"))).before args0 about1 = true := code_word (m := ⟨9, 3⟩) (meth := k9m3) (c := k9c3) (by decide +kernel) rfl rfl rfl (by decide +kernel)
set_option maxRecDepth 65536 in
theorem w_c12 : (Jvm.Cond.code ({ cls := "com/example/isogloss/isogloss/util/PersistentMap", name := "get", desc := "(Ljava/lang/String;)Ljava/lang/Object;" } : Jvm.MethodName) prog_164_method_4_code (4 : Nat) (Option.some (Jvm.ClassFile.FieldType.object "java/lang/Object"))).before args0 about1 = true := code_word (m := ⟨9, 2⟩) (meth := k9m2) (c := k9c2) (by decide +kernel) rfl rfl rfl (by decide +kernel)
set_option maxRecDepth 65536 in
theorem w_c13 : (Jvm.Cond.code ({ cls := "com/example/isogloss/isogloss/util/PersistentMap", name := "put", desc := "(Lcom/example/isogloss/isogloss/util/PersistentMap$Node;Ljava/lang/String;Ljava/lang/Object;)Lcom/example/isogloss/isogloss/util/PersistentMap$Node;" } : Jvm.MethodName) prog_164_method_11_code (4 : Nat) (Option.some (Jvm.ClassFile.FieldType.object "com/example/isogloss/isogloss/util/PersistentMap$Node"))).before args0 about1 = true := code_word (m := ⟨9, 5⟩) (meth := k9m5) (c := k9c5) (by decide +kernel) rfl rfl rfl (by decide +kernel)
set_option maxRecDepth 65536 in
theorem w_c14 : (Jvm.Cond.code ({ cls := "com/example/isogloss/isogloss/util/PersistentMap$Node", name := "<init>", desc := "(Ljava/lang/String;Ljava/lang/Object;Lcom/example/isogloss/isogloss/util/PersistentMap$Node;Lcom/example/isogloss/isogloss/util/PersistentMap$Node;)V" } : Jvm.MethodName) prog_165_method_1_code (5 : Nat) (Option.none : Option Jvm.ClassFile.FieldType)).before args0 about1 = true := code_word (m := ⟨13, 0⟩) (meth := k13m0) (c := k13c0) (by decide +kernel) rfl rfl rfl (by decide +kernel)
set_option maxRecDepth 65536 in
theorem w_c15 : (Jvm.Cond.code ({ cls := "com/example/isogloss/isogloss/util/PersistentMap", name := "height", desc := "(Lcom/example/isogloss/isogloss/util/PersistentMap$Node;)I" } : Jvm.MethodName) prog_164_method_13_code (1 : Nat) (Option.some Jvm.ClassFile.FieldType.int)).before args0 about1 = true := code_word (m := ⟨9, 7⟩) (meth := k9m7) (c := k9c7) (by decide +kernel) rfl rfl rfl (by decide +kernel)
set_option maxRecDepth 65536 in
theorem w_c16 : (Jvm.Cond.code ({ cls := "java/lang/Math", name := "max", desc := "(II)I" } : Jvm.MethodName) jdk_29_method_65_code (2 : Nat) (Option.some Jvm.ClassFile.FieldType.int)).before args0 about1 = true := code_word (m := ⟨14, 1⟩) (meth := k14m1) (c := k14c1) (by decide +kernel) rfl rfl rfl (by decide +kernel)
set_option maxRecDepth 65536 in
theorem w_c17 : (Jvm.Cond.code ({ cls := "java/lang/String", name := "compareTo", desc := "(Ljava/lang/String;)I" } : Jvm.MethodName) jdk_42_method_71_code (5 : Nat) (Option.some Jvm.ClassFile.FieldType.int)).before args0 about1 = true := code_word (m := ⟨7, 2⟩) (meth := k7m2) (c := k7c2) (by decide +kernel) rfl rfl rfl (by decide +kernel)
set_option maxRecDepth 65536 in
theorem w_c18 : (Jvm.Cond.code ({ cls := "java/lang/String", name := "coder", desc := "()B" } : Jvm.MethodName) jdk_42_method_152_code (1 : Nat) (Option.some Jvm.ClassFile.FieldType.byte)).before args0 about1 = true := code_word (m := ⟨7, 4⟩) (meth := k7m4) (c := k7c4) (by decide +kernel) rfl rfl rfl (by decide +kernel)
set_option maxRecDepth 65536 in
theorem w_c19 : (Jvm.Cond.code ({ cls := "java/lang/StringLatin1", name := "compareTo", desc := "([B[B)I" } : Jvm.MethodName) jdk_43_method_14_code (4 : Nat) (Option.some Jvm.ClassFile.FieldType.int)).before args0 about1 = true := code_word (m := ⟨15, 1⟩) (meth := k15m1) (c := k15c1) (by decide +kernel) rfl rfl rfl (by decide +kernel)
set_option maxRecDepth 65536 in
theorem w_c20 : (Jvm.Cond.code ({ cls := "java/lang/StringLatin1", name := "compareTo", desc := "([B[BII)I" } : Jvm.MethodName) jdk_43_method_15_code (6 : Nat) (Option.some Jvm.ClassFile.FieldType.int)).before args0 about1 = true := code_word (m := ⟨15, 2⟩) (meth := k15m2) (c := k15c2) (by decide +kernel) rfl rfl rfl (by decide +kernel)
set_option maxRecDepth 65536 in
theorem w_c21 : (Jvm.Cond.code ({ cls := "java/lang/Math", name := "min", desc := "(II)I" } : Jvm.MethodName) jdk_29_method_69_code (2 : Nat) (Option.some Jvm.ClassFile.FieldType.int)).before args0 about1 = true := code_word (m := ⟨14, 2⟩) (meth := k14m2) (c := k14c2) (by decide +kernel) rfl rfl rfl (by decide +kernel)
set_option maxRecDepth 65536 in
theorem w_c22 : (Jvm.Cond.code ({ cls := "jdk/internal/util/ArraysSupport", name := "mismatch", desc := "([B[BI)I" } : Jvm.MethodName) jdk_48_method_13_code (4 : Nat) (Option.some Jvm.ClassFile.FieldType.int)).before args0 about1 = true := code_word (m := ⟨16, 1⟩) (meth := k16m1) (c := k16c1) (by decide +kernel) rfl rfl rfl (by decide +kernel)
set_option maxRecDepth 65536 in
theorem w_c23 : (Jvm.Cond.code ({ cls := "com/example/isogloss/isogloss/util/PersistentMapIsMadeFromPinLaw", name := "pick", desc := "(ILcom/example/isogloss/isogloss/util/PersistentMap;Lcom/example/isogloss/isogloss/util/PersistentMap;Lcom/example/isogloss/isogloss/util/PersistentMap;Lcom/example/isogloss/isogloss/util/PersistentMap;Lcom/example/isogloss/isogloss/util/PersistentMap;Lcom/example/isogloss/isogloss/util/PersistentMap;Lcom/example/isogloss/isogloss/util/PersistentMap;)Lcom/example/isogloss/isogloss/util/PersistentMap;" } : Jvm.MethodName) method_4_code (8 : Nat) (Option.some (Jvm.ClassFile.FieldType.object "com/example/isogloss/isogloss/util/PersistentMap"))).before args0 about1 = true := code_word (m := ⟨1, 3⟩) (meth := k1m3) (c := k1c3) (by decide +kernel) rfl rfl rfl (by decide +kernel)
set_option maxRecDepth 65536 in
theorem w_c24 : (Jvm.Cond.code ({ cls := "com/example/isogloss/isogloss/util/PersistentMap", name := "isMadeFrom", desc := "(Lcom/example/isogloss/isogloss/util/PersistentMap;)Z" } : Jvm.MethodName) prog_164_method_6_code (5 : Nat) (Option.some Jvm.ClassFile.FieldType.boolean)).before args0 about1 = true := code_word (m := ⟨9, 4⟩) (meth := k9m4) (c := k9c4) (by decide +kernel) rfl rfl rfl (by decide +kernel)
set_option maxRecDepth 65536 in
theorem w_c25 : (Jvm.Cond.code ({ cls := "java/lang/StringLatin1", name := "getChar", desc := "([BI)C" } : Jvm.MethodName) jdk_43_method_44_code (2 : Nat) (Option.some Jvm.ClassFile.FieldType.char)).before args0 about1 = true := code_word (m := ⟨15, 3⟩) (meth := k15m3) (c := k15c3) (by decide +kernel) rfl rfl rfl (by decide +kernel)
set_option maxRecDepth 65536 in
theorem w_c26 : (Jvm.Cond.code ({ cls := "com/example/isogloss/isogloss/util/PersistentMap", name := "balanced", desc := "(Ljava/lang/String;Ljava/lang/Object;Lcom/example/isogloss/isogloss/util/PersistentMap$Node;Lcom/example/isogloss/isogloss/util/PersistentMap$Node;)Lcom/example/isogloss/isogloss/util/PersistentMap$Node;" } : Jvm.MethodName) prog_164_method_12_code (5 : Nat) (Option.some (Jvm.ClassFile.FieldType.object "com/example/isogloss/isogloss/util/PersistentMap$Node"))).before args0 about1 = true := code_word (m := ⟨9, 6⟩) (meth := k9m6) (c := k9c6) (by decide +kernel) rfl rfl rfl (by decide +kernel)
def codes1 : List Jvm.Cond := [Jvm.Cond.code x code maxLocals ret, Jvm.Cond.code ({ cls := "com/example/isogloss/isogloss/util/PersistentMapIsMadeFromPinLaw", name := "key", desc := "(I)Ljava/lang/String;" } : Jvm.MethodName) method_3_code (2 : Nat) (Option.some (Jvm.ClassFile.FieldType.object "java/lang/String")), Jvm.Cond.code ({ cls := "java/lang/String", name := "<init>", desc := "([C)V" } : Jvm.MethodName) jdk_42_method_3_code (2 : Nat) (Option.none : Option Jvm.ClassFile.FieldType), Jvm.Cond.code ({ cls := "java/lang/String", name := "<init>", desc := "([CIILjava/lang/Void;)V" } : Jvm.MethodName) jdk_42_method_149_code (6 : Nat) (Option.none : Option Jvm.ClassFile.FieldType), Jvm.Cond.code ({ cls := "java/lang/Object", name := "<init>", desc := "()V" } : Jvm.MethodName) object_method_1_code (1 : Nat) (Option.none : Option Jvm.ClassFile.FieldType), Jvm.Cond.code ({ cls := "java/lang/StringUTF16", name := "compress", desc := "([CII)[B" } : Jvm.MethodName) jdk_52_method_16_code (6 : Nat) (Option.some (Jvm.ClassFile.FieldType.array Jvm.ClassFile.FieldType.byte)), Jvm.Cond.code ({ cls := "java/lang/StringUTF16", name := "compress", desc := "([CI[BII)I" } : Jvm.MethodName) jdk_52_method_21_code (7 : Nat) (Option.some Jvm.ClassFile.FieldType.int), Jvm.Cond.code ({ cls := "java/lang/StringUTF16", name := "coderFromArrayLen", desc := "([BI)B" } : Jvm.MethodName) jdk_52_method_15_code (2 : Nat) (Option.some Jvm.ClassFile.FieldType.byte), Jvm.Cond.code ({ cls := "com/example/isogloss/isogloss/util/PersistentMap", name := "<init>", desc := "()V" } : Jvm.MethodName) prog_164_method_1_code (1 : Nat) (Option.none : Option Jvm.ClassFile.FieldType), Jvm.Cond.code ({ cls := "com/example/isogloss/isogloss/util/PersistentMap", name := "<init>", desc := "(Lcom/example/isogloss/isogloss/util/PersistentMap$Node;ILcom/example/isogloss/isogloss/util/PersistentMap;)V" } : Jvm.MethodName) prog_164_method_2_code (4 : Nat) (Option.none : Option Jvm.ClassFile.FieldType), Jvm.Cond.code ({ cls := "java/lang/Integer", name := "valueOf", desc := "(I)Ljava/lang/Integer;" } : Jvm.MethodName) jdk_33_method_22_code (1 : Nat) (Option.some (Jvm.ClassFile.FieldType.object "java/lang/Integer")), Jvm.Cond.code ({ cls := "com/example/isogloss/isogloss/util/PersistentMap", name := "with", desc := "(Ljava/lang/String;Ljava/lang/Object;)Lcom/example/isogloss/isogloss/util/PersistentMap;" } : Jvm.MethodName) prog_164_method_5_code (3 : Nat) (Option.some (Jvm.ClassFile.FieldType.object "com/example/isogloss/isogloss/util/PersistentMap")), Jvm.Cond.code ({ cls := "com/example/isogloss/isogloss/util/PersistentMap", name := "get", desc := "(Ljava/lang/String;)Ljava/lang/Object;" } : Jvm.MethodName) prog_164_method_4_code (4 : Nat) (Option.some (Jvm.ClassFile.FieldType.object "java/lang/Object")), Jvm.Cond.code ({ cls := "com/example/isogloss/isogloss/util/PersistentMap", name := "put", desc := "(Lcom/example/isogloss/isogloss/util/PersistentMap$Node;Ljava/lang/String;Ljava/lang/Object;)Lcom/example/isogloss/isogloss/util/PersistentMap$Node;" } : Jvm.MethodName) prog_164_method_11_code (4 : Nat) (Option.some (Jvm.ClassFile.FieldType.object "com/example/isogloss/isogloss/util/PersistentMap$Node")), Jvm.Cond.code ({ cls := "com/example/isogloss/isogloss/util/PersistentMap$Node", name := "<init>", desc := "(Ljava/lang/String;Ljava/lang/Object;Lcom/example/isogloss/isogloss/util/PersistentMap$Node;Lcom/example/isogloss/isogloss/util/PersistentMap$Node;)V" } : Jvm.MethodName) prog_165_method_1_code (5 : Nat) (Option.none : Option Jvm.ClassFile.FieldType), Jvm.Cond.code ({ cls := "com/example/isogloss/isogloss/util/PersistentMap", name := "height", desc := "(Lcom/example/isogloss/isogloss/util/PersistentMap$Node;)I" } : Jvm.MethodName) prog_164_method_13_code (1 : Nat) (Option.some Jvm.ClassFile.FieldType.int), Jvm.Cond.code ({ cls := "java/lang/Math", name := "max", desc := "(II)I" } : Jvm.MethodName) jdk_29_method_65_code (2 : Nat) (Option.some Jvm.ClassFile.FieldType.int), Jvm.Cond.code ({ cls := "java/lang/String", name := "compareTo", desc := "(Ljava/lang/String;)I" } : Jvm.MethodName) jdk_42_method_71_code (5 : Nat) (Option.some Jvm.ClassFile.FieldType.int), Jvm.Cond.code ({ cls := "java/lang/String", name := "coder", desc := "()B" } : Jvm.MethodName) jdk_42_method_152_code (1 : Nat) (Option.some Jvm.ClassFile.FieldType.byte), Jvm.Cond.code ({ cls := "java/lang/StringLatin1", name := "compareTo", desc := "([B[B)I" } : Jvm.MethodName) jdk_43_method_14_code (4 : Nat) (Option.some Jvm.ClassFile.FieldType.int), Jvm.Cond.code ({ cls := "java/lang/StringLatin1", name := "compareTo", desc := "([B[BII)I" } : Jvm.MethodName) jdk_43_method_15_code (6 : Nat) (Option.some Jvm.ClassFile.FieldType.int), Jvm.Cond.code ({ cls := "java/lang/Math", name := "min", desc := "(II)I" } : Jvm.MethodName) jdk_29_method_69_code (2 : Nat) (Option.some Jvm.ClassFile.FieldType.int), Jvm.Cond.code ({ cls := "jdk/internal/util/ArraysSupport", name := "mismatch", desc := "([B[BI)I" } : Jvm.MethodName) jdk_48_method_13_code (4 : Nat) (Option.some Jvm.ClassFile.FieldType.int), Jvm.Cond.code ({ cls := "com/example/isogloss/isogloss/util/PersistentMapIsMadeFromPinLaw", name := "pick", desc := "(ILcom/example/isogloss/isogloss/util/PersistentMap;Lcom/example/isogloss/isogloss/util/PersistentMap;Lcom/example/isogloss/isogloss/util/PersistentMap;Lcom/example/isogloss/isogloss/util/PersistentMap;Lcom/example/isogloss/isogloss/util/PersistentMap;Lcom/example/isogloss/isogloss/util/PersistentMap;Lcom/example/isogloss/isogloss/util/PersistentMap;)Lcom/example/isogloss/isogloss/util/PersistentMap;" } : Jvm.MethodName) method_4_code (8 : Nat) (Option.some (Jvm.ClassFile.FieldType.object "com/example/isogloss/isogloss/util/PersistentMap")), Jvm.Cond.code ({ cls := "com/example/isogloss/isogloss/util/PersistentMap", name := "isMadeFrom", desc := "(Lcom/example/isogloss/isogloss/util/PersistentMap;)Z" } : Jvm.MethodName) prog_164_method_6_code (5 : Nat) (Option.some Jvm.ClassFile.FieldType.boolean), Jvm.Cond.code ({ cls := "java/lang/StringLatin1", name := "getChar", desc := "([BI)C" } : Jvm.MethodName) jdk_43_method_44_code (2 : Nat) (Option.some Jvm.ClassFile.FieldType.char), Jvm.Cond.code ({ cls := "com/example/isogloss/isogloss/util/PersistentMap", name := "balanced", desc := "(Ljava/lang/String;Ljava/lang/Object;Lcom/example/isogloss/isogloss/util/PersistentMap$Node;Lcom/example/isogloss/isogloss/util/PersistentMap$Node;)Lcom/example/isogloss/isogloss/util/PersistentMap$Node;" } : Jvm.MethodName) prog_164_method_12_code (5 : Nat) (Option.some (Jvm.ClassFile.FieldType.object "com/example/isogloss/isogloss/util/PersistentMap$Node"))]
set_option maxRecDepth 65536 in
theorem codes_eq : words1.filter isCode = codes1 := rfl
theorem w_codes : ∀ c ∈ words1.filter isCode, c.before args0 about1 = true := by
  rw [codes_eq]
  intro c hc
  simp only [codes1, List.mem_cons, List.not_mem_nil, or_false] at hc
  rcases hc with rfl | rfl | rfl | rfl | rfl | rfl | rfl | rfl | rfl | rfl | rfl | rfl | rfl | rfl | rfl | rfl | rfl | rfl | rfl | rfl | rfl | rfl | rfl | rfl | rfl | rfl | rfl
  · exact w_c0
  · exact w_c1
  · exact w_c2
  · exact w_c3
  · exact w_c4
  · exact w_c5
  · exact w_c6
  · exact w_c7
  · exact w_c8
  · exact w_c9
  · exact w_c10
  · exact w_c11
  · exact w_c12
  · exact w_c13
  · exact w_c14
  · exact w_c15
  · exact w_c16
  · exact w_c17
  · exact w_c18
  · exact w_c19
  · exact w_c20
  · exact w_c21
  · exact w_c22
  · exact w_c23
  · exact w_c24
  · exact w_c25
  · exact w_c26
set_option maxRecDepth 65536 in
theorem w_t1 : (words1.take 24).all (fun c => isCode c || c.before args0 about1) = true := by decide +kernel
set_option maxRecDepth 65536 in
theorem w_t2 : ((words1.drop 24).take 24).all (fun c => isCode c || c.before args0 about1) = true := by decide +kernel
set_option maxRecDepth 65536 in
theorem w_t3 : (((words1.drop 24).drop 24).take 24).all (fun c => isCode c || c.before args0 about1) = true := by decide +kernel
set_option maxRecDepth 65536 in
theorem w_t4 : ((((words1.drop 24).drop 24).drop 24).take 24).all (fun c => isCode c || c.before args0 about1) = true := by decide +kernel
set_option maxRecDepth 65536 in
theorem w_t5 : (((((words1.drop 24).drop 24).drop 24).drop 24).take 24).all (fun c => isCode c || c.before args0 about1) = true := by decide +kernel
set_option maxRecDepth 65536 in
theorem w_t6 : (((((words1.drop 24).drop 24).drop 24).drop 24).drop 24).all (fun c => isCode c || c.before args0 about1) = true := by decide +kernel
theorem w_tables : (allAtoms (Jvm.Cond.code x code maxLocals ret :: tables_1)).before args0 about1 = true := by
  rw [allAtoms_all]
  show words1.all (fun c => c.before args0 about1) = true
  refine all_split ?_ w_codes
  rw [← List.take_append_drop 24 words1, List.all_append, w_t1, ← List.take_append_drop 24 (words1.drop 24), List.all_append, w_t2, ← List.take_append_drop 24 ((words1.drop 24).drop 24), List.all_append, w_t3, ← List.take_append_drop 24 (((words1.drop 24).drop 24).drop 24), List.all_append, w_t4, ← List.take_append_drop 24 ((((words1.drop 24).drop 24).drop 24).drop 24), List.all_append, w_t5, w_t6]
  rfl
set_option maxRecDepth 65536 in
theorem w_rest : rest_1_c.before args0 about1 = true := by decide +kernel
set_option maxRecDepth 65536 in
theorem w_case : (Jvm.Cond.and given_1 narrow_1).before args0 about1 = true := by decide +kernel
theorem w_applies : (headSpec (Jvm.Cond.code x code maxLocals ret :: tables_1) room_1).applies x e0.platform about1 = true :=
  (Spec.applies_iff w_frames).mpr ⟨w_running, w_runnable, w_alone, w_named, w_hears, w_ripe, w_room, w_tables⟩
theorem atStart : AtStart classFile x code maxLocals ret World_1 tables_1 room_1 Calls_1 rest_1 Pre_1 launch0 p0 e0 about1 theMethod args0 below0 :=
  ⟨lists_1, trivial, launch0.admits_env _ _ _, launch0.least_env, fairChoices_fair.cas, fairChoices_fair.clock, w_frames, w_args, w_heap, w_applies, trivial, w_rest, w_case⟩
end start1
theorem witness_1 : WitnessClaimed_1 := ⟨start1.p0, start1.e0, start1.about1, start1.theMethod, start1.args0, start1.below0, start1.atStart⟩
end Jvm.Pilot.@@N@@
