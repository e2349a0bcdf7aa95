import JvmDerived
import JvmDerived.Pilot.@@N@@Statement
import JvmDerived.Pilot.@@N@@Code
set_option linter.unusedVariables false
set_option linter.unusedSimpArgs false
namespace Jvm.RoadKit
open Sem ClassFile Op Lib Jvm.Stand Jvm.Free Jvm.LawKit
section New
variable {p : Program} {l : Launch} {e : Env} {R : Room} {s : State} {m : MethodId} {args : Array Value} {below : List Frame} {meth : Method} {c : Code} {T : State} {locs : List Loc} {cells slots : Nat}
theorem retI (X : Stand p l e R s m args below meth c T locs cells slots) (hx : p.tables.exec = Jvm.exec) {pc : Nat} {Ls : Array Slot} {z : Int32} {rest : List Value} (hret : meth.sig.returnType = some .int) (hd : decode c.code pc = .ok (.ireturn, 1)) {fs : List Frame}
    (hl : ∀ (f : JFrame) (acts : List Action), f.method = m → f.locked = none → f.entered = [] → (doReturn e (T.setTop f) acts (some (.int z))).1 = T.setFrames fs) : Steps p.tables e below (T.setTop (mkF m pc Ls (.int z :: rest))) (T.setFrames fs) := by
  have hm' : T.vm.method? m = some meth := X.method'
  have hn : narrow .int (.int z) = .int z := rfl
  show Steps p.tables e below (T.setTop { method := m, pc := pc, locals := Ls, stack := _ :: rest, locked := none }) _
  jvm_step X.here [X.here.top, hx, hd, hm', hret, hn]
  first | (intro acts; rw [hl _ acts rfl rfl rfl]) | rw [hl _ _ rfl rfl rfl]
  exact Steps.refl _
end New
end Jvm.RoadKit
@@BLOCK:NumsL.lean.txt@@
namespace Jvm.Pilot.@@N@@
open Jvm Jvm.ClassFile Sem Op Lib Jvm.Free Jvm.Stand Jvm.LawKit Jvm.RoadKit Bundle Jvm.Pilot.@@N@@.Jvm.D
/-- from the state A this body's run ends in a return that Qp speaks of -/
def own_Ends (p : Program) (e : Env) (below : List Frame) (s : State) (k n : Nat) (Qp : Option Value → Heap → List Loc → Prop) (A : State) : Prop :=
  ∃ s₂ o, Steps p.tables e below A s₂ ∧ s₂.status = .running ∧ Ended s₂ below o ∧ ∃ v L, o = .returned v ∧ Qp v s₂.heap L ∧ FrameEnd s o s₂ L k n
theorem own_pre {p : Program} {e : Env} {below : List Frame} {s : State} {k n : Nat} {Qp : Option Value → Heap → List Loc → Prop} {A B : State} (hs : ∀ t, Steps p.tables e below B t → Steps p.tables e below A t) (h : own_Ends p e below s k n Qp B) : own_Ends p e below s k n Qp A := by
  obtain ⟨s₂, o, h1, h2⟩ := h
  exact ⟨s₂, o, hs _ h1, h2⟩
theorem own_fin {p : Program} {l : Launch} {e : Env} {R : Room} {s : State} {m : MethodId} {args : Array Value} {below : List Frame} {meth : Method} {c : Code} {T : State} {locs : List Loc} {cells slots k n : Nat} {Qp : Option Value → Heap → List Loc → Prop} {h : Heap} {F : JFrame}
    (X : Stand p l e R s m args below meth c T locs cells slots) (v : Option Value) (hv : meth.sig.returnType = none → v = none) (hlocks : meth.locks = false) (hh : T.heap = h)
    (hs : ∀ fs : List Frame, (∀ (f : JFrame) (acts : List Action), f.method = m → f.locked = none → f.entered = [] → (doReturn e (T.setTop f) acts v).1 = T.setFrames fs) → Steps p.tables e below (T.setTop F) (T.setFrames fs))
    (hQ : Qp v h locs) (hc : cells ≤ k) (hn : slots ≤ n) : own_Ends p e below s k n Qp (T.setTop F) := by
  obtain ⟨fs, hr, hrun, hended, hW, hsame⟩ := X.leave hv hlocks
  subst hh
  exact ⟨_, _, hs fs hr, hrun, hended, _, _, rfl, hQ, ⟨_, rfl⟩, hW, hsame.mono hc hn⟩
theorem d1_0 : decode prog_1_method_6_code 0 = .ok (.lload_n 0, 1) := by decide +kernel
theorem d1_1 : decode prog_1_method_6_code 1 = .ok (.lload_n 2, 1) := by decide +kernel
theorem d1_2 : decode prog_1_method_6_code 2 = .ok (.ladd, 1) := by decide +kernel
theorem d1_3 : decode prog_1_method_6_code 3 = .ok (.lstore 4, 2) := by decide +kernel
theorem d1_5 : decode prog_1_method_6_code 5 = .ok (.lload_n 0, 1) := by decide +kernel
theorem d1_6 : decode prog_1_method_6_code 6 = .ok (.lload 4, 2) := by decide +kernel
theorem d1_8 : decode prog_1_method_6_code 8 = .ok (.lxor, 1) := by decide +kernel
theorem d1_9 : decode prog_1_method_6_code 9 = .ok (.lload_n 2, 1) := by decide +kernel
theorem d1_10 : decode prog_1_method_6_code 10 = .ok (.lload 4, 2) := by decide +kernel
theorem d1_12 : decode prog_1_method_6_code 12 = .ok (.lxor, 1) := by decide +kernel
theorem d1_13 : decode prog_1_method_6_code 13 = .ok (.land, 1) := by decide +kernel
theorem d1_14 : decode prog_1_method_6_code 14 = .ok (.lconst 0, 1) := by decide +kernel
theorem d1_15 : decode prog_1_method_6_code 15 = .ok (.lcmp, 1) := by decide +kernel
theorem d1_16 : decode prog_1_method_6_code 16 = .ok (.ifCond .ge 7, 3) := by decide +kernel
theorem d1_19 : decode prog_1_method_6_code 19 = .ok (.iconst 1, 1) := by decide +kernel
theorem d1_20 : decode prog_1_method_6_code 20 = .ok (.goto 4, 3) := by decide +kernel
theorem d1_23 : decode prog_1_method_6_code 23 = .ok (.iconst 0, 1) := by decide +kernel
theorem d1_24 : decode prog_1_method_6_code 24 = .ok (.istore 6, 2) := by decide +kernel
theorem d1_26 : decode prog_1_method_6_code 26 = .ok (.lload_n 0, 1) := by decide +kernel
theorem d1_27 : decode prog_1_method_6_code 27 = .ok (.ldc2_w 106, 3) := by decide +kernel
theorem d1_30 : decode prog_1_method_6_code 30 = .ok (.lcmp, 1) := by decide +kernel
theorem d1_31 : decode prog_1_method_6_code 31 = .ok (.ifCond .eq 16, 3) := by decide +kernel
theorem d1_34 : decode prog_1_method_6_code 34 = .ok (.lload_n 2, 1) := by decide +kernel
theorem d1_35 : decode prog_1_method_6_code 35 = .ok (.ldc2_w 106, 3) := by decide +kernel
theorem d1_38 : decode prog_1_method_6_code 38 = .ok (.lcmp, 1) := by decide +kernel
theorem d1_39 : decode prog_1_method_6_code 39 = .ok (.ifCond .eq 8, 3) := by decide +kernel
theorem d1_42 : decode prog_1_method_6_code 42 = .ok (.iload 6, 2) := by decide +kernel
theorem d1_44 : decode prog_1_method_6_code 44 = .ok (.ifCond .eq 9, 3) := by decide +kernel
theorem d1_47 : decode prog_1_method_6_code 47 = .ok (.ldc2_w 106, 3) := by decide +kernel
theorem d1_50 : decode prog_1_method_6_code 50 = .ok (.goto 5, 3) := by decide +kernel
theorem d1_53 : decode prog_1_method_6_code 53 = .ok (.lload 4, 2) := by decide +kernel
theorem d1_55 : decode prog_1_method_6_code 55 = .ok (.lreturn, 1) := by decide +kernel
theorem d2_0 : decode method_3_code 0 = .ok (.lload_n 0, 1) := by decide +kernel
theorem d2_1 : decode method_3_code 1 = .ok (.ldc2_w 9, 3) := by decide +kernel
theorem d2_4 : decode method_3_code 4 = .ok (.lcmp, 1) := by decide +kernel
theorem d2_5 : decode method_3_code 5 = .ok (.ifCond .eq 11, 3) := by decide +kernel
theorem d2_8 : decode method_3_code 8 = .ok (.lload_n 2, 1) := by decide +kernel
theorem d2_9 : decode method_3_code 9 = .ok (.ldc2_w 9, 3) := by decide +kernel
theorem d2_12 : decode method_3_code 12 = .ok (.lcmp, 1) := by decide +kernel
theorem d2_13 : decode method_3_code 13 = .ok (.ifCond .ne 7, 3) := by decide +kernel
theorem d2_16 : decode method_3_code 16 = .ok (.ldc2_w 9, 3) := by decide +kernel
theorem d2_19 : decode method_3_code 19 = .ok (.lreturn, 1) := by decide +kernel
theorem d2_20 : decode method_3_code 20 = .ok (.lload_n 2, 1) := by decide +kernel
theorem d2_21 : decode method_3_code 21 = .ok (.lconst 0, 1) := by decide +kernel
theorem d2_22 : decode method_3_code 22 = .ok (.lcmp, 1) := by decide +kernel
theorem d2_23 : decode method_3_code 23 = .ok (.ifCond .le 17, 3) := by decide +kernel
theorem d2_26 : decode method_3_code 26 = .ok (.lload_n 0, 1) := by decide +kernel
theorem d2_27 : decode method_3_code 27 = .ok (.ldc2_w 11, 3) := by decide +kernel
theorem d2_30 : decode method_3_code 30 = .ok (.lload_n 2, 1) := by decide +kernel
theorem d2_31 : decode method_3_code 31 = .ok (.lsub, 1) := by decide +kernel
theorem d2_32 : decode method_3_code 32 = .ok (.lcmp, 1) := by decide +kernel
theorem d2_33 : decode method_3_code 33 = .ok (.ifCond .le 7, 3) := by decide +kernel
theorem d2_36 : decode method_3_code 36 = .ok (.ldc2_w 9, 3) := by decide +kernel
theorem d2_39 : decode method_3_code 39 = .ok (.lreturn, 1) := by decide +kernel
theorem d2_40 : decode method_3_code 40 = .ok (.lload_n 2, 1) := by decide +kernel
theorem d2_41 : decode method_3_code 41 = .ok (.lconst 0, 1) := by decide +kernel
theorem d2_42 : decode method_3_code 42 = .ok (.lcmp, 1) := by decide +kernel
theorem d2_43 : decode method_3_code 43 = .ok (.ifCond .ge 17, 3) := by decide +kernel
theorem d2_46 : decode method_3_code 46 = .ok (.lload_n 0, 1) := by decide +kernel
theorem d2_47 : decode method_3_code 47 = .ok (.ldc2_w 9, 3) := by decide +kernel
theorem d2_50 : decode method_3_code 50 = .ok (.lload_n 2, 1) := by decide +kernel
theorem d2_51 : decode method_3_code 51 = .ok (.lsub, 1) := by decide +kernel
theorem d2_52 : decode method_3_code 52 = .ok (.lcmp, 1) := by decide +kernel
theorem d2_53 : decode method_3_code 53 = .ok (.ifCond .ge 7, 3) := by decide +kernel
theorem d2_56 : decode method_3_code 56 = .ok (.ldc2_w 9, 3) := by decide +kernel
theorem d2_59 : decode method_3_code 59 = .ok (.lreturn, 1) := by decide +kernel
theorem d2_60 : decode method_3_code 60 = .ok (.lload_n 0, 1) := by decide +kernel
theorem d2_61 : decode method_3_code 61 = .ok (.lload_n 2, 1) := by decide +kernel
theorem d2_62 : decode method_3_code 62 = .ok (.ladd, 1) := by decide +kernel
theorem d2_63 : decode method_3_code 63 = .ok (.lreturn, 1) := by decide +kernel
theorem pn_0 : plainName "com/example/wattlebird/wattlebird/AmountSumPinLaw" = true := by first | (simp [plainName, overriddenIn]; done) | decide +kernel
theorem pn_1 : plainName "com/example/wattlebird/wattlebird/Amount" = true := by first | (simp [plainName, overriddenIn]; done) | decide +kernel
theorem pn_2 : plainName "com/example/wattlebird/wattlebird/AmountSumPinLaw" = true := by first | (simp [plainName, overriddenIn]; done) | decide +kernel
theorem pd_0 : parseMethodDescriptor "(JJ)J" = some ⟨[.long, .long], some .long⟩ := by decide +kernel
def own_sum (q1 q2 : Int64) : Int64 := if q1 = (-9223372036854775808 : Int64) then (-9223372036854775808 : Int64) else if q2 = (-9223372036854775808 : Int64) then (-9223372036854775808 : Int64) else if ((q1 ^^^ (q1 + q2)) &&& (q2 ^^^ (q1 + q2))) < (0 : Int64) then (-9223372036854775808 : Int64) else q1 + q2
def own_low (q1 q2 : Int64) : Int64 := if q2 < (0 : Int64) then (if q1 < ((-9223372036854775808 : Int64) - q2) then (-9223372036854775808 : Int64) else q1 + q2) else q1 + q2
def own_exp (q1 q2 : Int64) : Int64 := if q1 = (-9223372036854775808 : Int64) then (-9223372036854775808 : Int64) else if q2 = (-9223372036854775808 : Int64) then (-9223372036854775808 : Int64) else if (0 : Int64) < q2 then (if ((9223372036854775807 : Int64) - q2) < q1 then (-9223372036854775808 : Int64) else own_low q1 q2) else own_low q1 q2
theorem own_neg (x y : Int64) : (x ^^^ y).toBitVec.msb = (x.toBitVec.msb ^^ y.toBitVec.msb) := by rw [Int64.toBitVec_xor, BitVec.msb_xor]
theorem own_msb (x : Int64) : x.toBitVec.msb = decide (x.toInt < 0) := BitVec.msb_eq_toInt
theorem own_ov (g m : Int64) : ((g ^^^ (g + m)) &&& (m ^^^ (g + m))) < (0 : Int64) ↔ ((g.toInt < 0 ↔ ¬ (g + m).toInt < 0) ∧ (m.toInt < 0 ↔ ¬ (g + m).toInt < 0)) := by
  have h : ((g ^^^ (g + m)) &&& (m ^^^ (g + m))).toBitVec.msb = ((decide (g.toInt < 0) ^^ decide ((g + m).toInt < 0)) && (decide (m.toInt < 0) ^^ decide ((g + m).toInt < 0))) := by
    rw [Int64.toBitVec_and, BitVec.msb_and, own_neg, own_neg, own_msb, own_msb, own_msb]
  rw [own_msb] at h
  have e0 : (0 : Int64).toInt = 0 := by decide
  rw [Int64.lt_iff_toInt_lt, e0]
  generalize ((g ^^^ (g + m)) &&& (m ^^^ (g + m))).toInt = z at h ⊢
  generalize (g + m).toInt = f at h ⊢
  generalize g.toInt = x at h ⊢
  generalize m.toInt = y at h ⊢
  by_cases a : x < 0 <;> by_cases b : y < 0 <;> by_cases d : f < 0 <;> simp [a, b, d] at h ⊢ <;> omega
theorem own_same (g m : Int64) : own_sum g m = own_exp g m := by
  have a1 := g.toInt_lt; have a2 := g.le_toInt; have b1 := m.toInt_lt; have b2 := m.le_toInt
  have eMin : (-9223372036854775808 : Int64).toInt = -9223372036854775808 := by decide
  have eMax : (9223372036854775807 : Int64).toInt = 9223372036854775807 := by decide
  have e0 : (0 : Int64).toInt = 0 := by decide
  have hs : (g + m).toInt = (g.toInt + m.toInt).bmod (2 ^ 64) := Int64.toInt_add g m
  unfold own_sum own_exp own_low
  by_cases h1 : g = (-9223372036854775808 : Int64)
  · rw [if_pos h1, if_pos h1]
  rw [if_neg h1, if_neg h1]
  by_cases h2 : m = (-9223372036854775808 : Int64)
  · rw [if_pos h2, if_pos h2]
  rw [if_neg h2, if_neg h2]
  have n1 : g.toInt ≠ -9223372036854775808 := fun q => h1 (Int64.toInt_inj.mp (q.trans eMin.symm))
  have n2 : m.toInt ≠ -9223372036854775808 := fun q => h2 (Int64.toInt_inj.mp (q.trans eMin.symm))
  have ov := own_ov g m
  by_cases h3 : (0 : Int64) < m
  · rw [if_pos h3]
    have h3' := Int64.lt_iff_toInt_lt.mp h3
    rw [e0] at h3'
    have hb : ((9223372036854775807 : Int64) - m).toInt = 9223372036854775807 - m.toInt := by rw [Jvm.Kit.i64_sub (by omega) (by omega), eMax]
    have h5 : ¬ m < (0 : Int64) := by rw [Int64.lt_iff_toInt_lt, e0]; omega
    rw [if_neg h5]
    by_cases h4 : ((9223372036854775807 : Int64) - m) < g
    · rw [if_pos h4]
      have h4' := Int64.lt_iff_toInt_lt.mp h4
      rw [hb] at h4'
      rw [if_pos]
      rw [ov, hs, Int.bmod_def]
      omega
    · rw [if_neg h4]
      have h4' := mt Int64.lt_iff_toInt_lt.mpr h4
      rw [hb] at h4'
      rw [if_neg]
      rw [ov, hs, Int.bmod_def]
      omega
  · rw [if_neg h3]
    have h3' := mt Int64.lt_iff_toInt_lt.mpr h3
    rw [e0] at h3'
    by_cases h5 : m < (0 : Int64)
    · rw [if_pos h5]
      have h5' := Int64.lt_iff_toInt_lt.mp h5
      rw [e0] at h5'
      have hb : ((-9223372036854775808 : Int64) - m).toInt = -9223372036854775808 - m.toInt := by rw [Jvm.Kit.i64_sub (by omega) (by omega), eMin]
      by_cases h4 : g < ((-9223372036854775808 : Int64) - m)
      · rw [if_pos h4]
        have h4' := Int64.lt_iff_toInt_lt.mp h4
        rw [hb] at h4'
        rw [if_pos]
        rw [ov, hs, Int.bmod_def]
        omega
      · rw [if_neg h4]
        have h4' := mt Int64.lt_iff_toInt_lt.mpr h4
        rw [hb] at h4'
        rw [if_neg]
        rw [ov, hs, Int.bmod_def]
        omega
    · rw [if_neg h5]
      have h5' := mt Int64.lt_iff_toInt_lt.mpr h5
      rw [e0] at h5'
      rw [if_neg]
      rw [ov, hs, Int.bmod_def]
      omega
theorem ef_1 (m : MethodId) (x0 : Int64) (x1 : Int64) : entryFrame m #[(.long x0), (.long x1)] 7 = mkF m 0 #[.val (.long x0), .second, .val (.long x1), .second, .unset, .unset, .unset] [] := by first | (simp [entryFrame, mkF, argsToLocals, Value.category]; done) | rfl
def Q1 (Z : State) (q1 q2 : Int64) (h0 : Heap) (n0 : Nat) (v : Option Value) (h : Heap) (L : List Loc) : Prop := v = some (.long (own_sum q1 q2)) ∧ Fr n0 L ∧ h = h0
set_option maxRecDepth 65536 in
set_option maxHeartbeats 40000000 in
theorem rm1 (l : Launch) (Z : State) (a0 : Array Value) (hw : ∀ d ∈ tables_1, d.before a0 Z = true) (ws : List Jvm.Cond) (q1 q2 : Int64) (h0 : Heap) (n0 : Nat) (Z0 : n0 ≤ h0.size)  :
    MetFree l (⟨"com/example/wattlebird/wattlebird/Amount", "sum", "(JJ)J"⟩ : MethodName) (head1 (Jvm.Cond.code (⟨"com/example/wattlebird/wattlebird/Amount", "sum", "(JJ)J"⟩ : MethodName) prog_1_method_6_code 7 (some .long) :: ws) ({ frames := 0, cells := 0, slots := 0, locals := 0 } : Room)) (fun a U => a = #[(.long q1), (.long q2)] ∧ Z.Warmed39 U.vm ∧ U.heap = h0) (fun _ _ _ _ _ => True) (fun _ U o U' => ∃ v L, o = .returned v ∧ Q1 Z q1 q2 h0 n0 v U'.heap L ∧ FrameEnd U o U' L ({ frames := 0, cells := 0, slots := 0, locals := 0 } : Room).cells ({ frames := 0, cells := 0, slots := 0, locals := 0 } : Room).slots) := by
  refine MetFree.of_bodySF (plainFor_of_name pn_1) hisR ?_
  intro p e s m args below meth c s₁ Bd hml0 hP hK
  obtain ⟨rfl, hZ, hh⟩ := hP
  have hx := Bd.exec
  have hby := Bd.bytes
  have hml : c.maxLocals = 7 := hml0
  have hown : s.vm.findClass "com/example/wattlebird/wattlebird/Amount" = some m.cls := findClass_of_methodNamed Bd.named
  have hnm := (name_of_methodNamed Bd.named Bd.method).1
  have X0 : Stand p l e ({ frames := 0, cells := 0, slots := 0, locals := 0 } : Room) s m #[(.long q1), (.long q2)] below meth c s₁ [] 0 0 := Stand.of_body Bd
  have e0 : s₁.heap = h0 := by rw [← hh, Bd.state]; rfl
  have N0 := Fr.nil n0
  show own_Ends p e below s ({ frames := 0, cells := 0, slots := 0, locals := 0 } : Room).cells ({ frames := 0, cells := 0, slots := 0, locals := 0 } : Room).slots (Q1 Z q1 q2 h0 n0) (s₁.setTop (entryFrame m #[(.long q1), (.long q2)] 7))
  rw [ef_1 m q1 q2]
  refine own_pre (B := (s₁.setTop (mkF m 16 #[.val (.long q1), .second, .val (.long q2), .second, .val (.long (q1 + q2)), .second, .unset] [(.int (lcmpW ((q1 ^^^ (q1 + q2)) &&& (q2 ^^^ (q1 + q2))) (0 : Int64)))]))) (fun t kt => ?_) ?_
  · show Steps p.tables e below (s₁.setTop (mkF m 0 _ [])) _
    refine XS.lloadN X0.here hx rfl (hb hby d1_0) rfl ?_
    show Steps p.tables e below (s₁.setTop (mkF m 1 _ [(.long q1)])) _
    refine XS.lloadN X0.here hx rfl (hb hby d1_1) rfl ?_
    show Steps p.tables e below (s₁.setTop (mkF m 2 _ [(.long q2), (.long q1)])) _
    refine XS.ladd X0.here hx rfl (hb hby d1_2) rfl ?_
    show Steps p.tables e below (s₁.setTop (mkF m 3 _ [(.long (q1 + q2))])) _
    refine XS.lstore X0.here hx rfl (hb hby d1_3) rfl (l' := #[.val (.long q1), .second, .val (.long q2), .second, .val (.long (q1 + q2)), .second, .unset]) rfl ?_
    show Steps p.tables e below (s₁.setTop (mkF m 5 _ [])) _
    refine XS.lloadN X0.here hx rfl (hb hby d1_5) rfl ?_
    show Steps p.tables e below (s₁.setTop (mkF m 6 _ [(.long q1)])) _
    refine XS.lload X0.here hx rfl (hb hby d1_6) rfl ?_
    show Steps p.tables e below (s₁.setTop (mkF m 8 _ [(.long (q1 + q2)), (.long q1)])) _
    refine XS.lxor X0.here hx rfl (hb hby d1_8) rfl ?_
    show Steps p.tables e below (s₁.setTop (mkF m 9 _ [(.long (q1 ^^^ (q1 + q2)))])) _
    refine XS.lloadN X0.here hx rfl (hb hby d1_9) rfl ?_
    show Steps p.tables e below (s₁.setTop (mkF m 10 _ [(.long q2), (.long (q1 ^^^ (q1 + q2)))])) _
    refine XS.lload X0.here hx rfl (hb hby d1_10) rfl ?_
    show Steps p.tables e below (s₁.setTop (mkF m 12 _ [(.long (q1 + q2)), (.long q2), (.long (q1 ^^^ (q1 + q2)))])) _
    refine XS.lxor X0.here hx rfl (hb hby d1_12) rfl ?_
    show Steps p.tables e below (s₁.setTop (mkF m 13 _ [(.long (q2 ^^^ (q1 + q2))), (.long (q1 ^^^ (q1 + q2)))])) _
    refine XS.land X0.here hx rfl (hb hby d1_13) rfl ?_
    show Steps p.tables e below (s₁.setTop (mkF m 14 _ [(.long ((q1 ^^^ (q1 + q2)) &&& (q2 ^^^ (q1 + q2))))])) _
    refine XS.lconst X0.here hx rfl (hb hby d1_14) ?_
    show Steps p.tables e below (s₁.setTop (mkF m 15 _ [(.long (0 : Int64)), (.long ((q1 ^^^ (q1 + q2)) &&& (q2 ^^^ (q1 + q2))))])) _
    refine XS.lcmp X0.here hx rfl (hb hby d1_15) rfl ?_
    exact kt
  by_cases hc16 : ((q1 ^^^ (q1 + q2)) &&& (q2 ^^^ (q1 + q2))) < (0 : Int64)
  · refine own_pre (B := (s₁.setTop (mkF m 19 #[.val (.long q1), .second, .val (.long q2), .second, .val (.long (q1 + q2)), .second, .unset] []))) (fun t kt => ?_) ?_
    · show Steps p.tables e below (s₁.setTop (mkF m 16 _ [(.int (lcmpW ((q1 ^^^ (q1 + q2)) &&& (q2 ^^^ (q1 + q2))) (0 : Int64)))])) _
      refine XS.ifNo X0.here hx rfl (hb hby d1_16) rfl ((if0 _ _).trans (tlt ((lw_lt _ _).mpr hc16)).2.1) ?_
      exact kt
    refine own_pre (B := (s₁.setTop (mkF m 31 #[.val (.long q1), .second, .val (.long q2), .second, .val (.long (q1 + q2)), .second, .val (.int (1 : Int32))] [(.int (lcmpW q1 (-9223372036854775808 : Int64)))]))) (fun t kt => ?_) ?_
    · show Steps p.tables e below (s₁.setTop (mkF m 19 _ [])) _
      refine XS.iconst X0.here hx rfl (hb hby d1_19) ?_
      show Steps p.tables e below (s₁.setTop (mkF m 20 _ [(.int (1 : Int32))])) _
      refine XS.goto X0.here hx rfl (pc0 := 20) (pc' := 24) rfl (hb hby d1_20) (by decide) (by decide) ?_
      show Steps p.tables e below (s₁.setTop (mkF m 24 _ [(.int (1 : Int32))])) _
      refine XS.istore X0.here hx rfl (hb hby d1_24) rfl (l' := #[.val (.long q1), .second, .val (.long q2), .second, .val (.long (q1 + q2)), .second, .val (.int (1 : Int32))]) rfl ?_
      show Steps p.tables e below (s₁.setTop (mkF m 26 _ [])) _
      refine XS.lloadN X0.here hx rfl (hb hby d1_26) rfl ?_
      show Steps p.tables e below (s₁.setTop (mkF m 27 _ [(.long q1)])) _
      refine X0.ldc2Long hx hown (mvT hZ (hw _ (List.mem_of_getElem? (i := 4) rfl))) (g := (mkF m 27 #[.val (.long q1), .second, .val (.long q2), .second, .val (.long (q1 + q2)), .second, .val (.int (1 : Int32))] [(.long q1)])) rfl (hb hby d1_27) _ ?_
      show Steps p.tables e below (s₁.setTop (mkF m 30 _ [(.long (-9223372036854775808 : Int64)), (.long q1)])) _
      refine XS.lcmp X0.here hx rfl (hb hby d1_30) rfl ?_
      exact kt
    by_cases hc31 : q1 = (-9223372036854775808 : Int64)
    · refine own_pre (B := (s₁.setTop (mkF m 47 #[.val (.long q1), .second, .val (.long q2), .second, .val (.long (q1 + q2)), .second, .val (.int (1 : Int32))] []))) (fun t kt => ?_) ?_
      · show Steps p.tables e below (s₁.setTop (mkF m 31 _ [(.int (lcmpW q1 (-9223372036854775808 : Int64)))])) _
        refine XS.ifYes X0.here hx rfl (pc0 := 31) (pc' := 47) rfl (hb hby d1_31) rfl ((if0 _ _).trans (teq ((lw_eq _ _).mpr hc31)).1) (by decide) (by decide) ?_
        exact kt
      refine own_pre (B := (s₁.setTop (mkF m 55 #[.val (.long q1), .second, .val (.long q2), .second, .val (.long (q1 + q2)), .second, .val (.int (1 : Int32))] [(.long (-9223372036854775808 : Int64))]))) (fun t kt => ?_) ?_
      · show Steps p.tables e below (s₁.setTop (mkF m 47 _ [])) _
        refine X0.ldc2Long hx hown (mvT hZ (hw _ (List.mem_of_getElem? (i := 4) rfl))) (g := (mkF m 47 #[.val (.long q1), .second, .val (.long q2), .second, .val (.long (q1 + q2)), .second, .val (.int (1 : Int32))] [])) rfl (hb hby d1_47) _ ?_
        show Steps p.tables e below (s₁.setTop (mkF m 50 _ [(.long (-9223372036854775808 : Int64))])) _
        refine XS.goto X0.here hx rfl (pc0 := 50) (pc' := 55) rfl (hb hby d1_50) (by decide) (by decide) ?_
        exact kt
      exact own_fin X0 (some (.long (-9223372036854775808 : Int64))) (fun h => by rw [Bd.returns] at h; cases h) (BodyLoose.notSynchronized Bd) e0 (fun fs hr => retOut X0 hx (t := .long) (i := .lreturn) (w := (.long (-9223372036854775808 : Int64))) Bd.returns rfl (Or.inr (Or.inl ⟨rfl, rfl, _, rfl⟩)) (hb hby d1_55) hr) ⟨by rw [own_sum, if_pos hc31], N0, rfl⟩ (by decide) (by decide)
    · refine own_pre (B := (s₁.setTop (mkF m 34 #[.val (.long q1), .second, .val (.long q2), .second, .val (.long (q1 + q2)), .second, .val (.int (1 : Int32))] []))) (fun t kt => ?_) ?_
      · show Steps p.tables e below (s₁.setTop (mkF m 31 _ [(.int (lcmpW q1 (-9223372036854775808 : Int64)))])) _
        refine XS.ifNo X0.here hx rfl (hb hby d1_31) rfl ((if0 _ _).trans (feq (mt (lw_eq _ _).mp hc31)).1) ?_
        exact kt
      refine own_pre (B := (s₁.setTop (mkF m 39 #[.val (.long q1), .second, .val (.long q2), .second, .val (.long (q1 + q2)), .second, .val (.int (1 : Int32))] [(.int (lcmpW q2 (-9223372036854775808 : Int64)))]))) (fun t kt => ?_) ?_
      · show Steps p.tables e below (s₁.setTop (mkF m 34 _ [])) _
        refine XS.lloadN X0.here hx rfl (hb hby d1_34) rfl ?_
        show Steps p.tables e below (s₁.setTop (mkF m 35 _ [(.long q2)])) _
        refine X0.ldc2Long hx hown (mvT hZ (hw _ (List.mem_of_getElem? (i := 4) rfl))) (g := (mkF m 35 #[.val (.long q1), .second, .val (.long q2), .second, .val (.long (q1 + q2)), .second, .val (.int (1 : Int32))] [(.long q2)])) rfl (hb hby d1_35) _ ?_
        show Steps p.tables e below (s₁.setTop (mkF m 38 _ [(.long (-9223372036854775808 : Int64)), (.long q2)])) _
        refine XS.lcmp X0.here hx rfl (hb hby d1_38) rfl ?_
        exact kt
      by_cases hc39 : q2 = (-9223372036854775808 : Int64)
      · refine own_pre (B := (s₁.setTop (mkF m 47 #[.val (.long q1), .second, .val (.long q2), .second, .val (.long (q1 + q2)), .second, .val (.int (1 : Int32))] []))) (fun t kt => ?_) ?_
        · show Steps p.tables e below (s₁.setTop (mkF m 39 _ [(.int (lcmpW q2 (-9223372036854775808 : Int64)))])) _
          refine XS.ifYes X0.here hx rfl (pc0 := 39) (pc' := 47) rfl (hb hby d1_39) rfl ((if0 _ _).trans (teq ((lw_eq _ _).mpr hc39)).1) (by decide) (by decide) ?_
          exact kt
        refine own_pre (B := (s₁.setTop (mkF m 55 #[.val (.long q1), .second, .val (.long q2), .second, .val (.long (q1 + q2)), .second, .val (.int (1 : Int32))] [(.long (-9223372036854775808 : Int64))]))) (fun t kt => ?_) ?_
        · show Steps p.tables e below (s₁.setTop (mkF m 47 _ [])) _
          refine X0.ldc2Long hx hown (mvT hZ (hw _ (List.mem_of_getElem? (i := 4) rfl))) (g := (mkF m 47 #[.val (.long q1), .second, .val (.long q2), .second, .val (.long (q1 + q2)), .second, .val (.int (1 : Int32))] [])) rfl (hb hby d1_47) _ ?_
          show Steps p.tables e below (s₁.setTop (mkF m 50 _ [(.long (-9223372036854775808 : Int64))])) _
          refine XS.goto X0.here hx rfl (pc0 := 50) (pc' := 55) rfl (hb hby d1_50) (by decide) (by decide) ?_
          exact kt
        exact own_fin X0 (some (.long (-9223372036854775808 : Int64))) (fun h => by rw [Bd.returns] at h; cases h) (BodyLoose.notSynchronized Bd) e0 (fun fs hr => retOut X0 hx (t := .long) (i := .lreturn) (w := (.long (-9223372036854775808 : Int64))) Bd.returns rfl (Or.inr (Or.inl ⟨rfl, rfl, _, rfl⟩)) (hb hby d1_55) hr) ⟨by rw [own_sum, if_neg hc31, if_pos hc39], N0, rfl⟩ (by decide) (by decide)
      · refine own_pre (B := (s₁.setTop (mkF m 42 #[.val (.long q1), .second, .val (.long q2), .second, .val (.long (q1 + q2)), .second, .val (.int (1 : Int32))] []))) (fun t kt => ?_) ?_
        · show Steps p.tables e below (s₁.setTop (mkF m 39 _ [(.int (lcmpW q2 (-9223372036854775808 : Int64)))])) _
          refine XS.ifNo X0.here hx rfl (hb hby d1_39) rfl ((if0 _ _).trans (feq (mt (lw_eq _ _).mp hc39)).1) ?_
          exact kt
        refine own_pre (B := (s₁.setTop (mkF m 55 #[.val (.long q1), .second, .val (.long q2), .second, .val (.long (q1 + q2)), .second, .val (.int (1 : Int32))] [(.long (-9223372036854775808 : Int64))]))) (fun t kt => ?_) ?_
        · show Steps p.tables e below (s₁.setTop (mkF m 42 _ [])) _
          refine XS.iload X0.here hx rfl (hb hby d1_42) rfl ?_
          show Steps p.tables e below (s₁.setTop (mkF m 44 _ [(.int (1 : Int32))])) _
          refine XS.ifNo X0.here hx rfl (hb hby d1_44) rfl ((if0 _ _).trans (feq ((by decide) : ¬ ((1 : Int32) = (0 : Int32)))).1) ?_
          show Steps p.tables e below (s₁.setTop (mkF m 47 _ [])) _
          refine X0.ldc2Long hx hown (mvT hZ (hw _ (List.mem_of_getElem? (i := 4) rfl))) (g := (mkF m 47 #[.val (.long q1), .second, .val (.long q2), .second, .val (.long (q1 + q2)), .second, .val (.int (1 : Int32))] [])) rfl (hb hby d1_47) _ ?_
          show Steps p.tables e below (s₁.setTop (mkF m 50 _ [(.long (-9223372036854775808 : Int64))])) _
          refine XS.goto X0.here hx rfl (pc0 := 50) (pc' := 55) rfl (hb hby d1_50) (by decide) (by decide) ?_
          exact kt
        exact own_fin X0 (some (.long (-9223372036854775808 : Int64))) (fun h => by rw [Bd.returns] at h; cases h) (BodyLoose.notSynchronized Bd) e0 (fun fs hr => retOut X0 hx (t := .long) (i := .lreturn) (w := (.long (-9223372036854775808 : Int64))) Bd.returns rfl (Or.inr (Or.inl ⟨rfl, rfl, _, rfl⟩)) (hb hby d1_55) hr) ⟨by rw [own_sum, if_neg hc31, if_neg hc39, if_pos hc16], N0, rfl⟩ (by decide) (by decide)
  · refine own_pre (B := (s₁.setTop (mkF m 23 #[.val (.long q1), .second, .val (.long q2), .second, .val (.long (q1 + q2)), .second, .unset] []))) (fun t kt => ?_) ?_
    · show Steps p.tables e below (s₁.setTop (mkF m 16 _ [(.int (lcmpW ((q1 ^^^ (q1 + q2)) &&& (q2 ^^^ (q1 + q2))) (0 : Int64)))])) _
      refine XS.ifYes X0.here hx rfl (pc0 := 16) (pc' := 23) rfl (hb hby d1_16) rfl ((if0 _ _).trans (flt (mt (lw_lt _ _).mp hc16)).2.1) (by decide) (by decide) ?_
      exact kt
    refine own_pre (B := (s₁.setTop (mkF m 31 #[.val (.long q1), .second, .val (.long q2), .second, .val (.long (q1 + q2)), .second, .val (.int (0 : Int32))] [(.int (lcmpW q1 (-9223372036854775808 : Int64)))]))) (fun t kt => ?_) ?_
    · show Steps p.tables e below (s₁.setTop (mkF m 23 _ [])) _
      refine XS.iconst X0.here hx rfl (hb hby d1_23) ?_
      show Steps p.tables e below (s₁.setTop (mkF m 24 _ [(.int (0 : Int32))])) _
      refine XS.istore X0.here hx rfl (hb hby d1_24) rfl (l' := #[.val (.long q1), .second, .val (.long q2), .second, .val (.long (q1 + q2)), .second, .val (.int (0 : Int32))]) rfl ?_
      show Steps p.tables e below (s₁.setTop (mkF m 26 _ [])) _
      refine XS.lloadN X0.here hx rfl (hb hby d1_26) rfl ?_
      show Steps p.tables e below (s₁.setTop (mkF m 27 _ [(.long q1)])) _
      refine X0.ldc2Long hx hown (mvT hZ (hw _ (List.mem_of_getElem? (i := 4) rfl))) (g := (mkF m 27 #[.val (.long q1), .second, .val (.long q2), .second, .val (.long (q1 + q2)), .second, .val (.int (0 : Int32))] [(.long q1)])) rfl (hb hby d1_27) _ ?_
      show Steps p.tables e below (s₁.setTop (mkF m 30 _ [(.long (-9223372036854775808 : Int64)), (.long q1)])) _
      refine XS.lcmp X0.here hx rfl (hb hby d1_30) rfl ?_
      exact kt
    by_cases hc31 : q1 = (-9223372036854775808 : Int64)
    · refine own_pre (B := (s₁.setTop (mkF m 47 #[.val (.long q1), .second, .val (.long q2), .second, .val (.long (q1 + q2)), .second, .val (.int (0 : Int32))] []))) (fun t kt => ?_) ?_
      · show Steps p.tables e below (s₁.setTop (mkF m 31 _ [(.int (lcmpW q1 (-9223372036854775808 : Int64)))])) _
        refine XS.ifYes X0.here hx rfl (pc0 := 31) (pc' := 47) rfl (hb hby d1_31) rfl ((if0 _ _).trans (teq ((lw_eq _ _).mpr hc31)).1) (by decide) (by decide) ?_
        exact kt
      refine own_pre (B := (s₁.setTop (mkF m 55 #[.val (.long q1), .second, .val (.long q2), .second, .val (.long (q1 + q2)), .second, .val (.int (0 : Int32))] [(.long (-9223372036854775808 : Int64))]))) (fun t kt => ?_) ?_
      · show Steps p.tables e below (s₁.setTop (mkF m 47 _ [])) _
        refine X0.ldc2Long hx hown (mvT hZ (hw _ (List.mem_of_getElem? (i := 4) rfl))) (g := (mkF m 47 #[.val (.long q1), .second, .val (.long q2), .second, .val (.long (q1 + q2)), .second, .val (.int (0 : Int32))] [])) rfl (hb hby d1_47) _ ?_
        show Steps p.tables e below (s₁.setTop (mkF m 50 _ [(.long (-9223372036854775808 : Int64))])) _
        refine XS.goto X0.here hx rfl (pc0 := 50) (pc' := 55) rfl (hb hby d1_50) (by decide) (by decide) ?_
        exact kt
      exact own_fin X0 (some (.long (-9223372036854775808 : Int64))) (fun h => by rw [Bd.returns] at h; cases h) (BodyLoose.notSynchronized Bd) e0 (fun fs hr => retOut X0 hx (t := .long) (i := .lreturn) (w := (.long (-9223372036854775808 : Int64))) Bd.returns rfl (Or.inr (Or.inl ⟨rfl, rfl, _, rfl⟩)) (hb hby d1_55) hr) ⟨by rw [own_sum, if_pos hc31], N0, rfl⟩ (by decide) (by decide)
    · refine own_pre (B := (s₁.setTop (mkF m 34 #[.val (.long q1), .second, .val (.long q2), .second, .val (.long (q1 + q2)), .second, .val (.int (0 : Int32))] []))) (fun t kt => ?_) ?_
      · show Steps p.tables e below (s₁.setTop (mkF m 31 _ [(.int (lcmpW q1 (-9223372036854775808 : Int64)))])) _
        refine XS.ifNo X0.here hx rfl (hb hby d1_31) rfl ((if0 _ _).trans (feq (mt (lw_eq _ _).mp hc31)).1) ?_
        exact kt
      refine own_pre (B := (s₁.setTop (mkF m 39 #[.val (.long q1), .second, .val (.long q2), .second, .val (.long (q1 + q2)), .second, .val (.int (0 : Int32))] [(.int (lcmpW q2 (-9223372036854775808 : Int64)))]))) (fun t kt => ?_) ?_
      · show Steps p.tables e below (s₁.setTop (mkF m 34 _ [])) _
        refine XS.lloadN X0.here hx rfl (hb hby d1_34) rfl ?_
        show Steps p.tables e below (s₁.setTop (mkF m 35 _ [(.long q2)])) _
        refine X0.ldc2Long hx hown (mvT hZ (hw _ (List.mem_of_getElem? (i := 4) rfl))) (g := (mkF m 35 #[.val (.long q1), .second, .val (.long q2), .second, .val (.long (q1 + q2)), .second, .val (.int (0 : Int32))] [(.long q2)])) rfl (hb hby d1_35) _ ?_
        show Steps p.tables e below (s₁.setTop (mkF m 38 _ [(.long (-9223372036854775808 : Int64)), (.long q2)])) _
        refine XS.lcmp X0.here hx rfl (hb hby d1_38) rfl ?_
        exact kt
      by_cases hc39 : q2 = (-9223372036854775808 : Int64)
      · refine own_pre (B := (s₁.setTop (mkF m 47 #[.val (.long q1), .second, .val (.long q2), .second, .val (.long (q1 + q2)), .second, .val (.int (0 : Int32))] []))) (fun t kt => ?_) ?_
        · show Steps p.tables e below (s₁.setTop (mkF m 39 _ [(.int (lcmpW q2 (-9223372036854775808 : Int64)))])) _
          refine XS.ifYes X0.here hx rfl (pc0 := 39) (pc' := 47) rfl (hb hby d1_39) rfl ((if0 _ _).trans (teq ((lw_eq _ _).mpr hc39)).1) (by decide) (by decide) ?_
          exact kt
        refine own_pre (B := (s₁.setTop (mkF m 55 #[.val (.long q1), .second, .val (.long q2), .second, .val (.long (q1 + q2)), .second, .val (.int (0 : Int32))] [(.long (-9223372036854775808 : Int64))]))) (fun t kt => ?_) ?_
        · show Steps p.tables e below (s₁.setTop (mkF m 47 _ [])) _
          refine X0.ldc2Long hx hown (mvT hZ (hw _ (List.mem_of_getElem? (i := 4) rfl))) (g := (mkF m 47 #[.val (.long q1), .second, .val (.long q2), .second, .val (.long (q1 + q2)), .second, .val (.int (0 : Int32))] [])) rfl (hb hby d1_47) _ ?_
          show Steps p.tables e below (s₁.setTop (mkF m 50 _ [(.long (-9223372036854775808 : Int64))])) _
          refine XS.goto X0.here hx rfl (pc0 := 50) (pc' := 55) rfl (hb hby d1_50) (by decide) (by decide) ?_
          exact kt
        exact own_fin X0 (some (.long (-9223372036854775808 : Int64))) (fun h => by rw [Bd.returns] at h; cases h) (BodyLoose.notSynchronized Bd) e0 (fun fs hr => retOut X0 hx (t := .long) (i := .lreturn) (w := (.long (-9223372036854775808 : Int64))) Bd.returns rfl (Or.inr (Or.inl ⟨rfl, rfl, _, rfl⟩)) (hb hby d1_55) hr) ⟨by rw [own_sum, if_neg hc31, if_pos hc39], N0, rfl⟩ (by decide) (by decide)
      · refine own_pre (B := (s₁.setTop (mkF m 42 #[.val (.long q1), .second, .val (.long q2), .second, .val (.long (q1 + q2)), .second, .val (.int (0 : Int32))] []))) (fun t kt => ?_) ?_
        · show Steps p.tables e below (s₁.setTop (mkF m 39 _ [(.int (lcmpW q2 (-9223372036854775808 : Int64)))])) _
          refine XS.ifNo X0.here hx rfl (hb hby d1_39) rfl ((if0 _ _).trans (feq (mt (lw_eq _ _).mp hc39)).1) ?_
          exact kt
        refine own_pre (B := (s₁.setTop (mkF m 55 #[.val (.long q1), .second, .val (.long q2), .second, .val (.long (q1 + q2)), .second, .val (.int (0 : Int32))] [(.long (q1 + q2))]))) (fun t kt => ?_) ?_
        · show Steps p.tables e below (s₁.setTop (mkF m 42 _ [])) _
          refine XS.iload X0.here hx rfl (hb hby d1_42) rfl ?_
          show Steps p.tables e below (s₁.setTop (mkF m 44 _ [(.int (0 : Int32))])) _
          refine XS.ifYes X0.here hx rfl (pc0 := 44) (pc' := 53) rfl (hb hby d1_44) rfl ((if0 _ _).trans (teq (rfl : (0 : Int32) = (0 : Int32))).1) (by decide) (by decide) ?_
          show Steps p.tables e below (s₁.setTop (mkF m 53 _ [])) _
          refine XS.lload X0.here hx rfl (hb hby d1_53) rfl ?_
          exact kt
        exact own_fin X0 (some (.long (q1 + q2))) (fun h => by rw [Bd.returns] at h; cases h) (BodyLoose.notSynchronized Bd) e0 (fun fs hr => retOut X0 hx (t := .long) (i := .lreturn) (w := (.long (q1 + q2))) Bd.returns rfl (Or.inr (Or.inl ⟨rfl, rfl, _, rfl⟩)) (hb hby d1_55) hr) ⟨by rw [own_sum, if_neg hc31, if_neg hc39, if_neg hc16], N0, rfl⟩ (by decide) (by decide)
theorem ef_2 (m : MethodId) (x0 : Int64) (x1 : Int64) : entryFrame m #[(.long x0), (.long x1)] 4 = mkF m 0 #[.val (.long x0), .second, .val (.long x1), .second] [] := by first | (simp [entryFrame, mkF, argsToLocals, Value.category]; done) | rfl
def Q2 (Z : State) (q1 q2 : Int64) (h0 : Heap) (n0 : Nat) (v : Option Value) (h : Heap) (L : List Loc) : Prop := v = some (.long (own_exp q1 q2)) ∧ Fr n0 L ∧ h = h0
set_option maxRecDepth 65536 in
set_option maxHeartbeats 40000000 in
theorem rm2 (l : Launch) (Z : State) (a0 : Array Value) (hw : ∀ d ∈ tables_1, d.before a0 Z = true) (ws : List Jvm.Cond) (q1 q2 : Int64) (h0 : Heap) (n0 : Nat) (Z0 : n0 ≤ h0.size)  :
    MetFree l (⟨"com/example/wattlebird/wattlebird/AmountSumPinLaw", "expected", "(JJ)J"⟩ : MethodName) (head1 (Jvm.Cond.code (⟨"com/example/wattlebird/wattlebird/AmountSumPinLaw", "expected", "(JJ)J"⟩ : MethodName) method_3_code 4 (some .long) :: ws) ({ frames := 0, cells := 0, slots := 0, locals := 0 } : Room)) (fun a U => a = #[(.long q1), (.long q2)] ∧ Z.Warmed39 U.vm ∧ U.heap = h0) (fun _ _ _ _ _ => True) (fun _ U o U' => ∃ v L, o = .returned v ∧ Q2 Z q1 q2 h0 n0 v U'.heap L ∧ FrameEnd U o U' L ({ frames := 0, cells := 0, slots := 0, locals := 0 } : Room).cells ({ frames := 0, cells := 0, slots := 0, locals := 0 } : Room).slots) := by
  refine MetFree.of_bodySF (plainFor_of_name pn_2) hisR ?_
  intro p e s m args below meth c s₁ Bd hml0 hP hK
  obtain ⟨rfl, hZ, hh⟩ := hP
  have hx := Bd.exec
  have hby := Bd.bytes
  have hml : c.maxLocals = 4 := hml0
  have hown : s.vm.findClass "com/example/wattlebird/wattlebird/AmountSumPinLaw" = some m.cls := findClass_of_methodNamed Bd.named
  have hnm := (name_of_methodNamed Bd.named Bd.method).1
  have X0 : Stand p l e ({ frames := 0, cells := 0, slots := 0, locals := 0 } : Room) s m #[(.long q1), (.long q2)] below meth c s₁ [] 0 0 := Stand.of_body Bd
  have e0 : s₁.heap = h0 := by rw [← hh, Bd.state]; rfl
  have N0 := Fr.nil n0
  show own_Ends p e below s ({ frames := 0, cells := 0, slots := 0, locals := 0 } : Room).cells ({ frames := 0, cells := 0, slots := 0, locals := 0 } : Room).slots (Q2 Z q1 q2 h0 n0) (s₁.setTop (entryFrame m #[(.long q1), (.long q2)] 4))
  rw [ef_2 m q1 q2]
  refine own_pre (B := (s₁.setTop (mkF m 5 #[.val (.long q1), .second, .val (.long q2), .second] [(.int (lcmpW q1 (-9223372036854775808 : Int64)))]))) (fun t kt => ?_) ?_
  · show Steps p.tables e below (s₁.setTop (mkF m 0 _ [])) _
    refine XS.lloadN X0.here hx rfl (hb hby d2_0) rfl ?_
    show Steps p.tables e below (s₁.setTop (mkF m 1 _ [(.long q1)])) _
    refine X0.ldc2Long hx hown (mvT hZ (hw _ (List.mem_of_getElem? (i := 9) rfl))) (g := (mkF m 1 #[.val (.long q1), .second, .val (.long q2), .second] [(.long q1)])) rfl (hb hby d2_1) _ ?_
    show Steps p.tables e below (s₁.setTop (mkF m 4 _ [(.long (-9223372036854775808 : Int64)), (.long q1)])) _
    refine XS.lcmp X0.here hx rfl (hb hby d2_4) rfl ?_
    exact kt
  by_cases hc5 : q1 = (-9223372036854775808 : Int64)
  · refine own_pre (B := (s₁.setTop (mkF m 16 #[.val (.long q1), .second, .val (.long q2), .second] []))) (fun t kt => ?_) ?_
    · show Steps p.tables e below (s₁.setTop (mkF m 5 _ [(.int (lcmpW q1 (-9223372036854775808 : Int64)))])) _
      refine XS.ifYes X0.here hx rfl (pc0 := 5) (pc' := 16) rfl (hb hby d2_5) rfl ((if0 _ _).trans (teq ((lw_eq _ _).mpr hc5)).1) (by decide) (by decide) ?_
      exact kt
    refine own_pre (B := (s₁.setTop (mkF m 19 #[.val (.long q1), .second, .val (.long q2), .second] [(.long (-9223372036854775808 : Int64))]))) (fun t kt => ?_) ?_
    · show Steps p.tables e below (s₁.setTop (mkF m 16 _ [])) _
      refine X0.ldc2Long hx hown (mvT hZ (hw _ (List.mem_of_getElem? (i := 9) rfl))) (g := (mkF m 16 #[.val (.long q1), .second, .val (.long q2), .second] [])) rfl (hb hby d2_16) _ ?_
      exact kt
    exact own_fin X0 (some (.long (-9223372036854775808 : Int64))) (fun h => by rw [Bd.returns] at h; cases h) (BodyLoose.notSynchronized Bd) e0 (fun fs hr => retOut X0 hx (t := .long) (i := .lreturn) (w := (.long (-9223372036854775808 : Int64))) Bd.returns rfl (Or.inr (Or.inl ⟨rfl, rfl, _, rfl⟩)) (hb hby d2_19) hr) ⟨by rw [own_exp, if_pos hc5], N0, rfl⟩ (by decide) (by decide)
  · refine own_pre (B := (s₁.setTop (mkF m 8 #[.val (.long q1), .second, .val (.long q2), .second] []))) (fun t kt => ?_) ?_
    · show Steps p.tables e below (s₁.setTop (mkF m 5 _ [(.int (lcmpW q1 (-9223372036854775808 : Int64)))])) _
      refine XS.ifNo X0.here hx rfl (hb hby d2_5) rfl ((if0 _ _).trans (feq (mt (lw_eq _ _).mp hc5)).1) ?_
      exact kt
    refine own_pre (B := (s₁.setTop (mkF m 13 #[.val (.long q1), .second, .val (.long q2), .second] [(.int (lcmpW q2 (-9223372036854775808 : Int64)))]))) (fun t kt => ?_) ?_
    · show Steps p.tables e below (s₁.setTop (mkF m 8 _ [])) _
      refine XS.lloadN X0.here hx rfl (hb hby d2_8) rfl ?_
      show Steps p.tables e below (s₁.setTop (mkF m 9 _ [(.long q2)])) _
      refine X0.ldc2Long hx hown (mvT hZ (hw _ (List.mem_of_getElem? (i := 9) rfl))) (g := (mkF m 9 #[.val (.long q1), .second, .val (.long q2), .second] [(.long q2)])) rfl (hb hby d2_9) _ ?_
      show Steps p.tables e below (s₁.setTop (mkF m 12 _ [(.long (-9223372036854775808 : Int64)), (.long q2)])) _
      refine XS.lcmp X0.here hx rfl (hb hby d2_12) rfl ?_
      exact kt
    by_cases hc13 : q2 = (-9223372036854775808 : Int64)
    · refine own_pre (B := (s₁.setTop (mkF m 16 #[.val (.long q1), .second, .val (.long q2), .second] []))) (fun t kt => ?_) ?_
      · show Steps p.tables e below (s₁.setTop (mkF m 13 _ [(.int (lcmpW q2 (-9223372036854775808 : Int64)))])) _
        refine XS.ifNo X0.here hx rfl (hb hby d2_13) rfl ((if0 _ _).trans (teq ((lw_eq _ _).mpr hc13)).2) ?_
        exact kt
      refine own_pre (B := (s₁.setTop (mkF m 19 #[.val (.long q1), .second, .val (.long q2), .second] [(.long (-9223372036854775808 : Int64))]))) (fun t kt => ?_) ?_
      · show Steps p.tables e below (s₁.setTop (mkF m 16 _ [])) _
        refine X0.ldc2Long hx hown (mvT hZ (hw _ (List.mem_of_getElem? (i := 9) rfl))) (g := (mkF m 16 #[.val (.long q1), .second, .val (.long q2), .second] [])) rfl (hb hby d2_16) _ ?_
        exact kt
      exact own_fin X0 (some (.long (-9223372036854775808 : Int64))) (fun h => by rw [Bd.returns] at h; cases h) (BodyLoose.notSynchronized Bd) e0 (fun fs hr => retOut X0 hx (t := .long) (i := .lreturn) (w := (.long (-9223372036854775808 : Int64))) Bd.returns rfl (Or.inr (Or.inl ⟨rfl, rfl, _, rfl⟩)) (hb hby d2_19) hr) ⟨by rw [own_exp, if_neg hc5, if_pos hc13], N0, rfl⟩ (by decide) (by decide)
    · refine own_pre (B := (s₁.setTop (mkF m 20 #[.val (.long q1), .second, .val (.long q2), .second] []))) (fun t kt => ?_) ?_
      · show Steps p.tables e below (s₁.setTop (mkF m 13 _ [(.int (lcmpW q2 (-9223372036854775808 : Int64)))])) _
        refine XS.ifYes X0.here hx rfl (pc0 := 13) (pc' := 20) rfl (hb hby d2_13) rfl ((if0 _ _).trans (feq (mt (lw_eq _ _).mp hc13)).2) (by decide) (by decide) ?_
        exact kt
      refine own_pre (B := (s₁.setTop (mkF m 23 #[.val (.long q1), .second, .val (.long q2), .second] [(.int (lcmpW q2 (0 : Int64)))]))) (fun t kt => ?_) ?_
      · show Steps p.tables e below (s₁.setTop (mkF m 20 _ [])) _
        refine XS.lloadN X0.here hx rfl (hb hby d2_20) rfl ?_
        show Steps p.tables e below (s₁.setTop (mkF m 21 _ [(.long q2)])) _
        refine XS.lconst X0.here hx rfl (hb hby d2_21) ?_
        show Steps p.tables e below (s₁.setTop (mkF m 22 _ [(.long (0 : Int64)), (.long q2)])) _
        refine XS.lcmp X0.here hx rfl (hb hby d2_22) rfl ?_
        exact kt
      by_cases hc23 : (0 : Int64) < q2
      · refine own_pre (B := (s₁.setTop (mkF m 26 #[.val (.long q1), .second, .val (.long q2), .second] []))) (fun t kt => ?_) ?_
        · show Steps p.tables e below (s₁.setTop (mkF m 23 _ [(.int (lcmpW q2 (0 : Int64)))])) _
          refine XS.ifNo X0.here hx rfl (hb hby d2_23) rfl ((if0 _ _).trans (tlt ((lw_gt _ _).mpr hc23)).2.2.2) ?_
          exact kt
        refine own_pre (B := (s₁.setTop (mkF m 33 #[.val (.long q1), .second, .val (.long q2), .second] [(.int (lcmpW q1 ((9223372036854775807 : Int64) - q2)))]))) (fun t kt => ?_) ?_
        · show Steps p.tables e below (s₁.setTop (mkF m 26 _ [])) _
          refine XS.lloadN X0.here hx rfl (hb hby d2_26) rfl ?_
          show Steps p.tables e below (s₁.setTop (mkF m 27 _ [(.long q1)])) _
          refine X0.ldc2Long hx hown (mvT hZ (hw _ (List.mem_of_getElem? (i := 10) rfl))) (g := (mkF m 27 #[.val (.long q1), .second, .val (.long q2), .second] [(.long q1)])) rfl (hb hby d2_27) _ ?_
          show Steps p.tables e below (s₁.setTop (mkF m 30 _ [(.long (9223372036854775807 : Int64)), (.long q1)])) _
          refine XS.lloadN X0.here hx rfl (hb hby d2_30) rfl ?_
          show Steps p.tables e below (s₁.setTop (mkF m 31 _ [(.long q2), (.long (9223372036854775807 : Int64)), (.long q1)])) _
          refine XS.lsub X0.here hx rfl (hb hby d2_31) rfl ?_
          show Steps p.tables e below (s₁.setTop (mkF m 32 _ [(.long ((9223372036854775807 : Int64) - q2)), (.long q1)])) _
          refine XS.lcmp X0.here hx rfl (hb hby d2_32) rfl ?_
          exact kt
        by_cases hc33 : ((9223372036854775807 : Int64) - q2) < q1
        · refine own_pre (B := (s₁.setTop (mkF m 36 #[.val (.long q1), .second, .val (.long q2), .second] []))) (fun t kt => ?_) ?_
          · show Steps p.tables e below (s₁.setTop (mkF m 33 _ [(.int (lcmpW q1 ((9223372036854775807 : Int64) - q2)))])) _
            refine XS.ifNo X0.here hx rfl (hb hby d2_33) rfl ((if0 _ _).trans (tlt ((lw_gt _ _).mpr hc33)).2.2.2) ?_
            exact kt
          refine own_pre (B := (s₁.setTop (mkF m 39 #[.val (.long q1), .second, .val (.long q2), .second] [(.long (-9223372036854775808 : Int64))]))) (fun t kt => ?_) ?_
          · show Steps p.tables e below (s₁.setTop (mkF m 36 _ [])) _
            refine X0.ldc2Long hx hown (mvT hZ (hw _ (List.mem_of_getElem? (i := 9) rfl))) (g := (mkF m 36 #[.val (.long q1), .second, .val (.long q2), .second] [])) rfl (hb hby d2_36) _ ?_
            exact kt
          exact own_fin X0 (some (.long (-9223372036854775808 : Int64))) (fun h => by rw [Bd.returns] at h; cases h) (BodyLoose.notSynchronized Bd) e0 (fun fs hr => retOut X0 hx (t := .long) (i := .lreturn) (w := (.long (-9223372036854775808 : Int64))) Bd.returns rfl (Or.inr (Or.inl ⟨rfl, rfl, _, rfl⟩)) (hb hby d2_39) hr) ⟨by rw [own_exp, if_neg hc5, if_neg hc13, if_pos hc23, if_pos hc33], N0, rfl⟩ (by decide) (by decide)
        · refine own_pre (B := (s₁.setTop (mkF m 40 #[.val (.long q1), .second, .val (.long q2), .second] []))) (fun t kt => ?_) ?_
          · show Steps p.tables e below (s₁.setTop (mkF m 33 _ [(.int (lcmpW q1 ((9223372036854775807 : Int64) - q2)))])) _
            refine XS.ifYes X0.here hx rfl (pc0 := 33) (pc' := 40) rfl (hb hby d2_33) rfl ((if0 _ _).trans (flt (mt (lw_gt _ _).mp hc33)).2.2.2) (by decide) (by decide) ?_
            exact kt
          refine own_pre (B := (s₁.setTop (mkF m 43 #[.val (.long q1), .second, .val (.long q2), .second] [(.int (lcmpW q2 (0 : Int64)))]))) (fun t kt => ?_) ?_
          · show Steps p.tables e below (s₁.setTop (mkF m 40 _ [])) _
            refine XS.lloadN X0.here hx rfl (hb hby d2_40) rfl ?_
            show Steps p.tables e below (s₁.setTop (mkF m 41 _ [(.long q2)])) _
            refine XS.lconst X0.here hx rfl (hb hby d2_41) ?_
            show Steps p.tables e below (s₁.setTop (mkF m 42 _ [(.long (0 : Int64)), (.long q2)])) _
            refine XS.lcmp X0.here hx rfl (hb hby d2_42) rfl ?_
            exact kt
          by_cases hc43 : q2 < (0 : Int64)
          · refine own_pre (B := (s₁.setTop (mkF m 46 #[.val (.long q1), .second, .val (.long q2), .second] []))) (fun t kt => ?_) ?_
            · show Steps p.tables e below (s₁.setTop (mkF m 43 _ [(.int (lcmpW q2 (0 : Int64)))])) _
              refine XS.ifNo X0.here hx rfl (hb hby d2_43) rfl ((if0 _ _).trans (tlt ((lw_lt _ _).mpr hc43)).2.1) ?_
              exact kt
            refine own_pre (B := (s₁.setTop (mkF m 53 #[.val (.long q1), .second, .val (.long q2), .second] [(.int (lcmpW q1 ((-9223372036854775808 : Int64) - q2)))]))) (fun t kt => ?_) ?_
            · show Steps p.tables e below (s₁.setTop (mkF m 46 _ [])) _
              refine XS.lloadN X0.here hx rfl (hb hby d2_46) rfl ?_
              show Steps p.tables e below (s₁.setTop (mkF m 47 _ [(.long q1)])) _
              refine X0.ldc2Long hx hown (mvT hZ (hw _ (List.mem_of_getElem? (i := 9) rfl))) (g := (mkF m 47 #[.val (.long q1), .second, .val (.long q2), .second] [(.long q1)])) rfl (hb hby d2_47) _ ?_
              show Steps p.tables e below (s₁.setTop (mkF m 50 _ [(.long (-9223372036854775808 : Int64)), (.long q1)])) _
              refine XS.lloadN X0.here hx rfl (hb hby d2_50) rfl ?_
              show Steps p.tables e below (s₁.setTop (mkF m 51 _ [(.long q2), (.long (-9223372036854775808 : Int64)), (.long q1)])) _
              refine XS.lsub X0.here hx rfl (hb hby d2_51) rfl ?_
              show Steps p.tables e below (s₁.setTop (mkF m 52 _ [(.long ((-9223372036854775808 : Int64) - q2)), (.long q1)])) _
              refine XS.lcmp X0.here hx rfl (hb hby d2_52) rfl ?_
              exact kt
            by_cases hc53 : q1 < ((-9223372036854775808 : Int64) - q2)
            · refine own_pre (B := (s₁.setTop (mkF m 56 #[.val (.long q1), .second, .val (.long q2), .second] []))) (fun t kt => ?_) ?_
              · show Steps p.tables e below (s₁.setTop (mkF m 53 _ [(.int (lcmpW q1 ((-9223372036854775808 : Int64) - q2)))])) _
                refine XS.ifNo X0.here hx rfl (hb hby d2_53) rfl ((if0 _ _).trans (tlt ((lw_lt _ _).mpr hc53)).2.1) ?_
                exact kt
              refine own_pre (B := (s₁.setTop (mkF m 59 #[.val (.long q1), .second, .val (.long q2), .second] [(.long (-9223372036854775808 : Int64))]))) (fun t kt => ?_) ?_
              · show Steps p.tables e below (s₁.setTop (mkF m 56 _ [])) _
                refine X0.ldc2Long hx hown (mvT hZ (hw _ (List.mem_of_getElem? (i := 9) rfl))) (g := (mkF m 56 #[.val (.long q1), .second, .val (.long q2), .second] [])) rfl (hb hby d2_56) _ ?_
                exact kt
              exact own_fin X0 (some (.long (-9223372036854775808 : Int64))) (fun h => by rw [Bd.returns] at h; cases h) (BodyLoose.notSynchronized Bd) e0 (fun fs hr => retOut X0 hx (t := .long) (i := .lreturn) (w := (.long (-9223372036854775808 : Int64))) Bd.returns rfl (Or.inr (Or.inl ⟨rfl, rfl, _, rfl⟩)) (hb hby d2_59) hr) ⟨by rw [own_exp, if_neg hc5, if_neg hc13, if_pos hc23, if_neg hc33, own_low, if_pos hc43, if_pos hc53], N0, rfl⟩ (by decide) (by decide)
            · refine own_pre (B := (s₁.setTop (mkF m 60 #[.val (.long q1), .second, .val (.long q2), .second] []))) (fun t kt => ?_) ?_
              · show Steps p.tables e below (s₁.setTop (mkF m 53 _ [(.int (lcmpW q1 ((-9223372036854775808 : Int64) - q2)))])) _
                refine XS.ifYes X0.here hx rfl (pc0 := 53) (pc' := 60) rfl (hb hby d2_53) rfl ((if0 _ _).trans (flt (mt (lw_lt _ _).mp hc53)).2.1) (by decide) (by decide) ?_
                exact kt
              refine own_pre (B := (s₁.setTop (mkF m 63 #[.val (.long q1), .second, .val (.long q2), .second] [(.long (q1 + q2))]))) (fun t kt => ?_) ?_
              · show Steps p.tables e below (s₁.setTop (mkF m 60 _ [])) _
                refine XS.lloadN X0.here hx rfl (hb hby d2_60) rfl ?_
                show Steps p.tables e below (s₁.setTop (mkF m 61 _ [(.long q1)])) _
                refine XS.lloadN X0.here hx rfl (hb hby d2_61) rfl ?_
                show Steps p.tables e below (s₁.setTop (mkF m 62 _ [(.long q2), (.long q1)])) _
                refine XS.ladd X0.here hx rfl (hb hby d2_62) rfl ?_
                exact kt
              exact own_fin X0 (some (.long (q1 + q2))) (fun h => by rw [Bd.returns] at h; cases h) (BodyLoose.notSynchronized Bd) e0 (fun fs hr => retOut X0 hx (t := .long) (i := .lreturn) (w := (.long (q1 + q2))) Bd.returns rfl (Or.inr (Or.inl ⟨rfl, rfl, _, rfl⟩)) (hb hby d2_63) hr) ⟨by rw [own_exp, if_neg hc5, if_neg hc13, if_pos hc23, if_neg hc33, own_low, if_pos hc43, if_neg hc53], N0, rfl⟩ (by decide) (by decide)
          · refine own_pre (B := (s₁.setTop (mkF m 60 #[.val (.long q1), .second, .val (.long q2), .second] []))) (fun t kt => ?_) ?_
            · show Steps p.tables e below (s₁.setTop (mkF m 43 _ [(.int (lcmpW q2 (0 : Int64)))])) _
              refine XS.ifYes X0.here hx rfl (pc0 := 43) (pc' := 60) rfl (hb hby d2_43) rfl ((if0 _ _).trans (flt (mt (lw_lt _ _).mp hc43)).2.1) (by decide) (by decide) ?_
              exact kt
            refine own_pre (B := (s₁.setTop (mkF m 63 #[.val (.long q1), .second, .val (.long q2), .second] [(.long (q1 + q2))]))) (fun t kt => ?_) ?_
            · show Steps p.tables e below (s₁.setTop (mkF m 60 _ [])) _
              refine XS.lloadN X0.here hx rfl (hb hby d2_60) rfl ?_
              show Steps p.tables e below (s₁.setTop (mkF m 61 _ [(.long q1)])) _
              refine XS.lloadN X0.here hx rfl (hb hby d2_61) rfl ?_
              show Steps p.tables e below (s₁.setTop (mkF m 62 _ [(.long q2), (.long q1)])) _
              refine XS.ladd X0.here hx rfl (hb hby d2_62) rfl ?_
              exact kt
            exact own_fin X0 (some (.long (q1 + q2))) (fun h => by rw [Bd.returns] at h; cases h) (BodyLoose.notSynchronized Bd) e0 (fun fs hr => retOut X0 hx (t := .long) (i := .lreturn) (w := (.long (q1 + q2))) Bd.returns rfl (Or.inr (Or.inl ⟨rfl, rfl, _, rfl⟩)) (hb hby d2_63) hr) ⟨by rw [own_exp, if_neg hc5, if_neg hc13, if_pos hc23, if_neg hc33, own_low, if_neg hc43], N0, rfl⟩ (by decide) (by decide)
      · refine own_pre (B := (s₁.setTop (mkF m 40 #[.val (.long q1), .second, .val (.long q2), .second] []))) (fun t kt => ?_) ?_
        · show Steps p.tables e below (s₁.setTop (mkF m 23 _ [(.int (lcmpW q2 (0 : Int64)))])) _
          refine XS.ifYes X0.here hx rfl (pc0 := 23) (pc' := 40) rfl (hb hby d2_23) rfl ((if0 _ _).trans (flt (mt (lw_gt _ _).mp hc23)).2.2.2) (by decide) (by decide) ?_
          exact kt
        refine own_pre (B := (s₁.setTop (mkF m 43 #[.val (.long q1), .second, .val (.long q2), .second] [(.int (lcmpW q2 (0 : Int64)))]))) (fun t kt => ?_) ?_
        · show Steps p.tables e below (s₁.setTop (mkF m 40 _ [])) _
          refine XS.lloadN X0.here hx rfl (hb hby d2_40) rfl ?_
          show Steps p.tables e below (s₁.setTop (mkF m 41 _ [(.long q2)])) _
          refine XS.lconst X0.here hx rfl (hb hby d2_41) ?_
          show Steps p.tables e below (s₁.setTop (mkF m 42 _ [(.long (0 : Int64)), (.long q2)])) _
          refine XS.lcmp X0.here hx rfl (hb hby d2_42) rfl ?_
          exact kt
        by_cases hc43 : q2 < (0 : Int64)
        · refine own_pre (B := (s₁.setTop (mkF m 46 #[.val (.long q1), .second, .val (.long q2), .second] []))) (fun t kt => ?_) ?_
          · show Steps p.tables e below (s₁.setTop (mkF m 43 _ [(.int (lcmpW q2 (0 : Int64)))])) _
            refine XS.ifNo X0.here hx rfl (hb hby d2_43) rfl ((if0 _ _).trans (tlt ((lw_lt _ _).mpr hc43)).2.1) ?_
            exact kt
          refine own_pre (B := (s₁.setTop (mkF m 53 #[.val (.long q1), .second, .val (.long q2), .second] [(.int (lcmpW q1 ((-9223372036854775808 : Int64) - q2)))]))) (fun t kt => ?_) ?_
          · show Steps p.tables e below (s₁.setTop (mkF m 46 _ [])) _
            refine XS.lloadN X0.here hx rfl (hb hby d2_46) rfl ?_
            show Steps p.tables e below (s₁.setTop (mkF m 47 _ [(.long q1)])) _
            refine X0.ldc2Long hx hown (mvT hZ (hw _ (List.mem_of_getElem? (i := 9) rfl))) (g := (mkF m 47 #[.val (.long q1), .second, .val (.long q2), .second] [(.long q1)])) rfl (hb hby d2_47) _ ?_
            show Steps p.tables e below (s₁.setTop (mkF m 50 _ [(.long (-9223372036854775808 : Int64)), (.long q1)])) _
            refine XS.lloadN X0.here hx rfl (hb hby d2_50) rfl ?_
            show Steps p.tables e below (s₁.setTop (mkF m 51 _ [(.long q2), (.long (-9223372036854775808 : Int64)), (.long q1)])) _
            refine XS.lsub X0.here hx rfl (hb hby d2_51) rfl ?_
            show Steps p.tables e below (s₁.setTop (mkF m 52 _ [(.long ((-9223372036854775808 : Int64) - q2)), (.long q1)])) _
            refine XS.lcmp X0.here hx rfl (hb hby d2_52) rfl ?_
            exact kt
          by_cases hc53 : q1 < ((-9223372036854775808 : Int64) - q2)
          · refine own_pre (B := (s₁.setTop (mkF m 56 #[.val (.long q1), .second, .val (.long q2), .second] []))) (fun t kt => ?_) ?_
            · show Steps p.tables e below (s₁.setTop (mkF m 53 _ [(.int (lcmpW q1 ((-9223372036854775808 : Int64) - q2)))])) _
              refine XS.ifNo X0.here hx rfl (hb hby d2_53) rfl ((if0 _ _).trans (tlt ((lw_lt _ _).mpr hc53)).2.1) ?_
              exact kt
            refine own_pre (B := (s₁.setTop (mkF m 59 #[.val (.long q1), .second, .val (.long q2), .second] [(.long (-9223372036854775808 : Int64))]))) (fun t kt => ?_) ?_
            · show Steps p.tables e below (s₁.setTop (mkF m 56 _ [])) _
              refine X0.ldc2Long hx hown (mvT hZ (hw _ (List.mem_of_getElem? (i := 9) rfl))) (g := (mkF m 56 #[.val (.long q1), .second, .val (.long q2), .second] [])) rfl (hb hby d2_56) _ ?_
              exact kt
            exact own_fin X0 (some (.long (-9223372036854775808 : Int64))) (fun h => by rw [Bd.returns] at h; cases h) (BodyLoose.notSynchronized Bd) e0 (fun fs hr => retOut X0 hx (t := .long) (i := .lreturn) (w := (.long (-9223372036854775808 : Int64))) Bd.returns rfl (Or.inr (Or.inl ⟨rfl, rfl, _, rfl⟩)) (hb hby d2_59) hr) ⟨by rw [own_exp, if_neg hc5, if_neg hc13, if_neg hc23, own_low, if_pos hc43, if_pos hc53], N0, rfl⟩ (by decide) (by decide)
          · refine own_pre (B := (s₁.setTop (mkF m 60 #[.val (.long q1), .second, .val (.long q2), .second] []))) (fun t kt => ?_) ?_
            · show Steps p.tables e below (s₁.setTop (mkF m 53 _ [(.int (lcmpW q1 ((-9223372036854775808 : Int64) - q2)))])) _
              refine XS.ifYes X0.here hx rfl (pc0 := 53) (pc' := 60) rfl (hb hby d2_53) rfl ((if0 _ _).trans (flt (mt (lw_lt _ _).mp hc53)).2.1) (by decide) (by decide) ?_
              exact kt
            refine own_pre (B := (s₁.setTop (mkF m 63 #[.val (.long q1), .second, .val (.long q2), .second] [(.long (q1 + q2))]))) (fun t kt => ?_) ?_
            · show Steps p.tables e below (s₁.setTop (mkF m 60 _ [])) _
              refine XS.lloadN X0.here hx rfl (hb hby d2_60) rfl ?_
              show Steps p.tables e below (s₁.setTop (mkF m 61 _ [(.long q1)])) _
              refine XS.lloadN X0.here hx rfl (hb hby d2_61) rfl ?_
              show Steps p.tables e below (s₁.setTop (mkF m 62 _ [(.long q2), (.long q1)])) _
              refine XS.ladd X0.here hx rfl (hb hby d2_62) rfl ?_
              exact kt
            exact own_fin X0 (some (.long (q1 + q2))) (fun h => by rw [Bd.returns] at h; cases h) (BodyLoose.notSynchronized Bd) e0 (fun fs hr => retOut X0 hx (t := .long) (i := .lreturn) (w := (.long (q1 + q2))) Bd.returns rfl (Or.inr (Or.inl ⟨rfl, rfl, _, rfl⟩)) (hb hby d2_63) hr) ⟨by rw [own_exp, if_neg hc5, if_neg hc13, if_neg hc23, own_low, if_pos hc43, if_neg hc53], N0, rfl⟩ (by decide) (by decide)
        · refine own_pre (B := (s₁.setTop (mkF m 60 #[.val (.long q1), .second, .val (.long q2), .second] []))) (fun t kt => ?_) ?_
          · show Steps p.tables e below (s₁.setTop (mkF m 43 _ [(.int (lcmpW q2 (0 : Int64)))])) _
            refine XS.ifYes X0.here hx rfl (pc0 := 43) (pc' := 60) rfl (hb hby d2_43) rfl ((if0 _ _).trans (flt (mt (lw_lt _ _).mp hc43)).2.1) (by decide) (by decide) ?_
            exact kt
          refine own_pre (B := (s₁.setTop (mkF m 63 #[.val (.long q1), .second, .val (.long q2), .second] [(.long (q1 + q2))]))) (fun t kt => ?_) ?_
          · show Steps p.tables e below (s₁.setTop (mkF m 60 _ [])) _
            refine XS.lloadN X0.here hx rfl (hb hby d2_60) rfl ?_
            show Steps p.tables e below (s₁.setTop (mkF m 61 _ [(.long q1)])) _
            refine XS.lloadN X0.here hx rfl (hb hby d2_61) rfl ?_
            show Steps p.tables e below (s₁.setTop (mkF m 62 _ [(.long q2), (.long q1)])) _
            refine XS.ladd X0.here hx rfl (hb hby d2_62) rfl ?_
            exact kt
          exact own_fin X0 (some (.long (q1 + q2))) (fun h => by rw [Bd.returns] at h; cases h) (BodyLoose.notSynchronized Bd) e0 (fun fs hr => retOut X0 hx (t := .long) (i := .lreturn) (w := (.long (q1 + q2))) Bd.returns rfl (Or.inr (Or.inl ⟨rfl, rfl, _, rfl⟩)) (hb hby d2_63) hr) ⟨by rw [own_exp, if_neg hc5, if_neg hc13, if_neg hc23, own_low, if_neg hc43], N0, rfl⟩ (by decide) (by decide)
theorem ef_0 (m : MethodId) (x0 : Int64) (x1 : Int64) (x2 : Int32) : entryFrame m #[(.long x0), (.long x1), (.int x2)] maxLocals = mkF m 0 #[.val (.long x0), .second, .val (.long x1), .second, .val (.int x2), .unset, .unset, .unset, .unset, .unset, .unset, .unset] [] := by first | (simp [entryFrame, mkF, argsToLocals, Value.category, maxLocals]; done) | rfl
def Q0 (Z : State) (q1 q2 : Int64) (p3 : Int32) (h0 : Heap) (n0 : Nat) (v : Option Value) (h : Heap) (L : List Loc) : Prop := v = some (.int 1) ∧ Fr n0 L
set_option maxRecDepth 65536 in
set_option maxHeartbeats 40000000 in
theorem rm0 (l : Launch) (Z : State) (a0 : Array Value) (hw : ∀ d ∈ tables_1, d.before a0 Z = true) (ws : List Jvm.Cond) (q1 q2 : Int64) (p3 : Int32) (h0 : Heap) (n0 : Nat) (Z0 : n0 ≤ h0.size)  :
    MetFree l x (head1 (Jvm.Cond.code x code maxLocals ret :: ws) room_1) (fun a U => a = #[(.long q1), (.long q2), (.int p3)] ∧ Z.Warmed39 U.vm ∧ U.heap = h0) (fun _ _ _ _ _ => True) (fun _ U o U' => ∃ v L, o = .returned v ∧ Q0 Z q1 q2 p3 h0 n0 v U'.heap L ∧ FrameEnd U o U' L room_1.cells room_1.slots) := by
  refine MetFree.of_bodySF (plainFor_of_name pn_0) hisR ?_
  intro p e s m args below meth c s₁ Bd hml0 hP hK
  obtain ⟨rfl, hZ, hh⟩ := hP
  have hx := Bd.exec
  have hby := Bd.bytes
  have hml : c.maxLocals = 12 := hml0
  have hown : s.vm.findClass "com/example/wattlebird/wattlebird/AmountSumPinLaw" = some m.cls := findClass_of_methodNamed Bd.named
  have hnm := (name_of_methodNamed Bd.named Bd.method).1
  have X0 : Stand p l e room_1 s m #[(.long q1), (.long q2), (.int p3)] below meth c s₁ [] 0 0 := Stand.of_body Bd
  have e0 : s₁.heap = h0 := by rw [← hh, Bd.state]; rfl
  have N0 := Fr.nil n0
  show own_Ends p e below s room_1.cells room_1.slots (Q0 Z q1 q2 p3 h0 n0) (s₁.setTop (entryFrame m #[(.long q1), (.long q2), (.int p3)] maxLocals))
  rw [ef_0 m q1 q2 p3]
  have K : ∀ (md : Int32) (dd gg mm : Int64), own_Ends p e below s room_1.cells room_1.slots (Q0 Z q1 q2 p3 h0 n0) (s₁.setTop (mkF m 123 #[.val (.long q1), .second, .val (.long q2), .second, .val (.int p3), .val (.int md), .val (.long dd), .second, .val (.long gg), .second, .val (.long mm), .second] [])) := by
    intro md dd gg mm
    refine own_pre (B := (s₁.setTop (mkF m 127 #[.val (.long q1), .second, .val (.long q2), .second, .val (.int p3), .val (.int md), .val (.long dd), .second, .val (.long gg), .second, .val (.long mm), .second] [(.long mm), (.long gg)]))) (fun t kt => ?_) ?_
    · show Steps p.tables e below (s₁.setTop (mkF m 123 _ [])) _
      refine XS.lload X0.here hx rfl (hb hby at_123) rfl ?_
      show Steps p.tables e below (s₁.setTop (mkF m 125 _ [(.long gg)])) _
      refine XS.lload X0.here hx rfl (hb hby at_125) rfl ?_
      exact kt
    obtain ⟨_, _, ⟨T1, L1, k1, n1⟩, -, X1, ⟨Lc1, hQ1, l1, y1, z1⟩, st1⟩ := Jvm.LawKit.callS X0 hx (y := (⟨"com/example/wattlebird/wattlebird/Amount", "sum", "(JJ)J"⟩ : MethodName)) hown (mvT hZ (hw _ (List.mem_of_getElem? (i := 0) rfl))) (mvT hZ (hw _ (List.mem_of_getElem? (i := 1) rfl))) (mvT hZ (hw _ (List.mem_of_getElem? (i := 2) rfl))) (mvT hZ (hw _ (List.mem_of_getElem? (i := 3) rfl))) (by decide) (backOf (W := 0) (rm1 l Z a0 hw [] gg mm h0 n0 Z0) hZ (hw _ (List.mem_of_getElem? (i := 3) rfl)) (hw _ (List.mem_of_getElem? (i := 2) rfl)) (by decide) (by decide)) (g := (mkF m 127 #[.val (.long q1), .second, .val (.long q2), .second, .val (.int p3), .val (.int md), .val (.long dd), .second, .val (.long gg), .second, .val (.long mm), .second] [(.long mm), (.long gg)])) rfl (by rw [hml]; rfl) (argsL := [(.long gg), (.long mm)]) (rest := []) (lenOf pd_0 rfl) rfl (by show 2 * 0 + _ ≤ _; exact Nat.le_of_eq rfl) (hb hby at_127) (fun _ _ => ⟨rfl, e0, (by decide : 0 + 0 ≤ _), (by decide : 0 + 0 ≤ _)⟩)
    dsimp only [Pt.U, Pt.locs, Pt.cells, Pt.slots] at X1 l1 y1 z1 st1 hQ1
    subst l1 y1 z1
    obtain ⟨rfl, N1q, e1⟩ := hQ1
    have N1 := Fr.app N0 N1q
    refine own_pre (B := (T1.setTop (mkF m 134 #[.val (.long q1), .second, .val (.long q2), .second, .val (.int p3), .val (.int md), .val (.long dd), .second, .val (.long gg), .second, .val (.long mm), .second] [(.long mm), (.long gg), (.long (own_sum gg mm))]))) (fun t kt => ?_) ?_
    · refine st1 _ ?_
      show Steps p.tables e below (T1.setTop (mkF m 130 _ [(.long (own_sum gg mm))])) _
      refine XS.lload X1.here hx rfl (hb hby at_130) rfl ?_
      show Steps p.tables e below (T1.setTop (mkF m 132 _ [(.long gg), (.long (own_sum gg mm))])) _
      refine XS.lload X1.here hx rfl (hb hby at_132) rfl ?_
      exact kt
    obtain ⟨_, _, ⟨T2, L2, k2, n2⟩, -, X2, ⟨Lc2, hQ2, l2, y2, z2⟩, st2⟩ := Jvm.LawKit.callS X1 hx (y := (⟨"com/example/wattlebird/wattlebird/AmountSumPinLaw", "expected", "(JJ)J"⟩ : MethodName)) hown (mvT hZ (hw _ (List.mem_of_getElem? (i := 5) rfl))) (mvT hZ (hw _ (List.mem_of_getElem? (i := 6) rfl))) (mvT hZ (hw _ (List.mem_of_getElem? (i := 7) rfl))) (mvT hZ (hw _ (List.mem_of_getElem? (i := 8) rfl))) (by decide) (backOf (W := 2) (rm2 l Z a0 hw [] gg mm h0 n0 Z0) hZ (hw _ (List.mem_of_getElem? (i := 8) rfl)) (hw _ (List.mem_of_getElem? (i := 7) rfl)) (by decide) (by decide)) (g := (mkF m 134 #[.val (.long q1), .second, .val (.long q2), .second, .val (.int p3), .val (.int md), .val (.long dd), .second, .val (.long gg), .second, .val (.long mm), .second] [(.long mm), (.long gg), (.long (own_sum gg mm))])) rfl (by rw [hml]; rfl) (argsL := [(.long gg), (.long mm)]) (rest := [(.long (own_sum gg mm))]) (lenOf pd_0 rfl) rfl (by show 2 * 0 + _ ≤ _; exact Nat.le_of_eq rfl) (hb hby at_134) (fun _ _ => ⟨rfl, e1, (by decide : 0 + 0 ≤ _), (by decide : 0 + 0 ≤ _)⟩)
    dsimp only [Pt.U, Pt.locs, Pt.cells, Pt.slots] at X2 l2 y2 z2 st2 hQ2
    subst l2 y2 z2
    obtain ⟨rfl, N2q, e2⟩ := hQ2
    have N2 := Fr.app N1 N2q
    refine own_pre (B := (T2.setTop (mkF m 146 #[.val (.long q1), .second, .val (.long q2), .second, .val (.int p3), .val (.int md), .val (.long dd), .second, .val (.long gg), .second, .val (.long mm), .second] [(.int (1 : Int32))]))) (fun t kt => ?_) ?_
    · refine st2 _ ?_
      show Steps p.tables e below (T2.setTop (mkF m 137 _ [(.long (own_exp gg mm)), (.long (own_sum gg mm))])) _
      refine XS.lcmp X2.here hx rfl (hb hby at_137) rfl ?_
      show Steps p.tables e below (T2.setTop (mkF m 138 _ [(.int (lcmpW (own_sum gg mm) (own_exp gg mm)))])) _
      refine XS.ifNo X2.here hx rfl (hb hby at_138) rfl ((if0 _ _).trans (teq ((lw_eq _ _).mpr (own_same gg mm))).2) ?_
      show Steps p.tables e below (T2.setTop (mkF m 141 _ [])) _
      refine XS.iconst X2.here hx rfl (hb hby at_141) ?_
      show Steps p.tables e below (T2.setTop (mkF m 142 _ [(.int (1 : Int32))])) _
      refine XS.goto X2.here hx rfl (pc0 := 142) (pc' := 146) rfl (hb hby at_142) (by decide) (by decide) ?_
      exact kt
    exact own_fin X2 (some (.int (1 : Int32))) (fun h => by rw [Bd.returns] at h; cases h) (BodyLoose.notSynchronized Bd) e2 (fun fs hr => retN X2 hx (t := .boolean) Bd.returns (by simp) (hb hby at_146) hr) ⟨rfl, N2⟩ (by decide) (by decide)
  refine own_pre (B := (s₁.setTop (mkF m 27 #[.val (.long q1), .second, .val (.long q2), .second, .val (.int p3), .val (.int (p3 &&& (7 : Int32))), .val (.long ((((p3 >>> ((3 : Int32) &&& 31)) &&& (3 : Int32)) - (1 : Int32)).toInt64)), .second, .val (.long q1), .second, .val (.long q2), .second] [(.int (1 : Int32)), (.int (p3 &&& (7 : Int32)))]))) (fun t kt => ?_) ?_
  · show Steps p.tables e below (s₁.setTop (mkF m 0 _ [])) _
    refine XS.iload X0.here hx rfl (hb hby at_0) rfl ?_
    show Steps p.tables e below (s₁.setTop (mkF m 2 _ [(.int p3)])) _
    refine XS.bipush X0.here hx rfl (hb hby at_2) ?_
    show Steps p.tables e below (s₁.setTop (mkF m 4 _ [(.int (7 : Int32)), (.int p3)])) _
    refine XS.iand X0.here hx rfl (hb hby at_4) rfl ?_
    show Steps p.tables e below (s₁.setTop (mkF m 5 _ [(.int (p3 &&& (7 : Int32)))])) _
    refine XS.istore X0.here hx rfl (hb hby at_5) rfl (l' := #[.val (.long q1), .second, .val (.long q2), .second, .val (.int p3), .val (.int (p3 &&& (7 : Int32))), .unset, .unset, .unset, .unset, .unset, .unset]) rfl ?_
    show Steps p.tables e below (s₁.setTop (mkF m 7 _ [])) _
    refine XS.iload X0.here hx rfl (hb hby at_7) rfl ?_
    show Steps p.tables e below (s₁.setTop (mkF m 9 _ [(.int p3)])) _
    refine XS.iconst X0.here hx rfl (hb hby at_9) ?_
    show Steps p.tables e below (s₁.setTop (mkF m 10 _ [(.int (3 : Int32)), (.int p3)])) _
    refine XS.ishr X0.here hx rfl (hb hby at_10) rfl ?_
    show Steps p.tables e below (s₁.setTop (mkF m 11 _ [(.int (p3 >>> ((3 : Int32) &&& 31)))])) _
    refine XS.iconst X0.here hx rfl (hb hby at_11) ?_
    show Steps p.tables e below (s₁.setTop (mkF m 12 _ [(.int (3 : Int32)), (.int (p3 >>> ((3 : Int32) &&& 31)))])) _
    refine XS.iand X0.here hx rfl (hb hby at_12) rfl ?_
    show Steps p.tables e below (s₁.setTop (mkF m 13 _ [(.int ((p3 >>> ((3 : Int32) &&& 31)) &&& (3 : Int32)))])) _
    refine XS.iconst X0.here hx rfl (hb hby at_13) ?_
    show Steps p.tables e below (s₁.setTop (mkF m 14 _ [(.int (1 : Int32)), (.int ((p3 >>> ((3 : Int32) &&& 31)) &&& (3 : Int32)))])) _
    refine XS.isub X0.here hx rfl (hb hby at_14) rfl ?_
    show Steps p.tables e below (s₁.setTop (mkF m 15 _ [(.int (((p3 >>> ((3 : Int32) &&& 31)) &&& (3 : Int32)) - (1 : Int32)))])) _
    refine XS.i2l X0.here hx rfl (hb hby at_15) rfl ?_
    show Steps p.tables e below (s₁.setTop (mkF m 16 _ [(.long ((((p3 >>> ((3 : Int32) &&& 31)) &&& (3 : Int32)) - (1 : Int32)).toInt64))])) _
    refine XS.lstore X0.here hx rfl (hb hby at_16) rfl (l' := #[.val (.long q1), .second, .val (.long q2), .second, .val (.int p3), .val (.int (p3 &&& (7 : Int32))), .val (.long ((((p3 >>> ((3 : Int32) &&& 31)) &&& (3 : Int32)) - (1 : Int32)).toInt64)), .second, .unset, .unset, .unset, .unset]) rfl ?_
    show Steps p.tables e below (s₁.setTop (mkF m 18 _ [])) _
    refine XS.lloadN X0.here hx rfl (hb hby at_18) rfl ?_
    show Steps p.tables e below (s₁.setTop (mkF m 19 _ [(.long q1)])) _
    refine XS.lstore X0.here hx rfl (hb hby at_19) rfl (l' := #[.val (.long q1), .second, .val (.long q2), .second, .val (.int p3), .val (.int (p3 &&& (7 : Int32))), .val (.long ((((p3 >>> ((3 : Int32) &&& 31)) &&& (3 : Int32)) - (1 : Int32)).toInt64)), .second, .val (.long q1), .second, .unset, .unset]) rfl ?_
    show Steps p.tables e below (s₁.setTop (mkF m 21 _ [])) _
    refine XS.lloadN X0.here hx rfl (hb hby at_21) rfl ?_
    show Steps p.tables e below (s₁.setTop (mkF m 22 _ [(.long q2)])) _
    refine XS.lstore X0.here hx rfl (hb hby at_22) rfl (l' := #[.val (.long q1), .second, .val (.long q2), .second, .val (.int p3), .val (.int (p3 &&& (7 : Int32))), .val (.long ((((p3 >>> ((3 : Int32) &&& 31)) &&& (3 : Int32)) - (1 : Int32)).toInt64)), .second, .val (.long q1), .second, .val (.long q2), .second]) rfl ?_
    show Steps p.tables e below (s₁.setTop (mkF m 24 _ [])) _
    refine XS.iload X0.here hx rfl (hb hby at_24) rfl ?_
    show Steps p.tables e below (s₁.setTop (mkF m 26 _ [(.int (p3 &&& (7 : Int32)))])) _
    refine XS.iconst X0.here hx rfl (hb hby at_26) ?_
    exact kt
  by_cases hc27 : (p3 &&& (7 : Int32)) = (1 : Int32)
  · refine own_pre (B := (s₁.setTop (mkF m 30 #[.val (.long q1), .second, .val (.long q2), .second, .val (.int p3), .val (.int (p3 &&& (7 : Int32))), .val (.long ((((p3 >>> ((3 : Int32) &&& 31)) &&& (3 : Int32)) - (1 : Int32)).toInt64)), .second, .val (.long q1), .second, .val (.long q2), .second] []))) (fun t kt => ?_) ?_
    · show Steps p.tables e below (s₁.setTop (mkF m 27 _ [(.int (1 : Int32)), (.int (p3 &&& (7 : Int32)))])) _
      refine XS.icmpNo X0.here hx rfl (hb hby at_27) rfl (teq (hc27 : (p3 &&& (7 : Int32)) = (1 : Int32))).2 ?_
      exact kt
    refine own_pre (B := (s₁.setTop (mkF m 123 #[.val (.long q1), .second, .val (.long q2), .second, .val (.int p3), .val (.int (p3 &&& (7 : Int32))), .val (.long ((((p3 >>> ((3 : Int32) &&& 31)) &&& (3 : Int32)) - (1 : Int32)).toInt64)), .second, .val (.long (-9223372036854775808 : Int64)), .second, .val (.long q2), .second] []))) (fun t kt => ?_) ?_
    · show Steps p.tables e below (s₁.setTop (mkF m 30 _ [])) _
      refine X0.ldc2Long hx hown (mvT hZ (hw _ (List.mem_of_getElem? (i := 9) rfl))) (g := (mkF m 30 #[.val (.long q1), .second, .val (.long q2), .second, .val (.int p3), .val (.int (p3 &&& (7 : Int32))), .val (.long ((((p3 >>> ((3 : Int32) &&& 31)) &&& (3 : Int32)) - (1 : Int32)).toInt64)), .second, .val (.long q1), .second, .val (.long q2), .second] [])) rfl (hb hby at_30) _ ?_
      show Steps p.tables e below (s₁.setTop (mkF m 33 _ [(.long (-9223372036854775808 : Int64))])) _
      refine XS.lstore X0.here hx rfl (hb hby at_33) rfl (l' := #[.val (.long q1), .second, .val (.long q2), .second, .val (.int p3), .val (.int (p3 &&& (7 : Int32))), .val (.long ((((p3 >>> ((3 : Int32) &&& 31)) &&& (3 : Int32)) - (1 : Int32)).toInt64)), .second, .val (.long (-9223372036854775808 : Int64)), .second, .val (.long q2), .second]) rfl ?_
      show Steps p.tables e below (s₁.setTop (mkF m 35 _ [])) _
      refine XS.goto X0.here hx rfl (pc0 := 35) (pc' := 123) rfl (hb hby at_35) (by decide) (by decide) ?_
      exact kt
    exact K _ _ _ _
  · refine own_pre (B := (s₁.setTop (mkF m 38 #[.val (.long q1), .second, .val (.long q2), .second, .val (.int p3), .val (.int (p3 &&& (7 : Int32))), .val (.long ((((p3 >>> ((3 : Int32) &&& 31)) &&& (3 : Int32)) - (1 : Int32)).toInt64)), .second, .val (.long q1), .second, .val (.long q2), .second] []))) (fun t kt => ?_) ?_
    · show Steps p.tables e below (s₁.setTop (mkF m 27 _ [(.int (1 : Int32)), (.int (p3 &&& (7 : Int32)))])) _
      refine XS.icmpYes X0.here hx rfl (pc0 := 27) (pc' := 38) rfl (hb hby at_27) rfl (feq (hc27 : ¬ ((p3 &&& (7 : Int32)) = (1 : Int32)))).2 (by decide) (by decide) ?_
      exact kt
    refine own_pre (B := (s₁.setTop (mkF m 41 #[.val (.long q1), .second, .val (.long q2), .second, .val (.int p3), .val (.int (p3 &&& (7 : Int32))), .val (.long ((((p3 >>> ((3 : Int32) &&& 31)) &&& (3 : Int32)) - (1 : Int32)).toInt64)), .second, .val (.long q1), .second, .val (.long q2), .second] [(.int (2 : Int32)), (.int (p3 &&& (7 : Int32)))]))) (fun t kt => ?_) ?_
    · show Steps p.tables e below (s₁.setTop (mkF m 38 _ [])) _
      refine XS.iload X0.here hx rfl (hb hby at_38) rfl ?_
      show Steps p.tables e below (s₁.setTop (mkF m 40 _ [(.int (p3 &&& (7 : Int32)))])) _
      refine XS.iconst X0.here hx rfl (hb hby at_40) ?_
      exact kt
    by_cases hc41 : (p3 &&& (7 : Int32)) = (2 : Int32)
    · refine own_pre (B := (s₁.setTop (mkF m 44 #[.val (.long q1), .second, .val (.long q2), .second, .val (.int p3), .val (.int (p3 &&& (7 : Int32))), .val (.long ((((p3 >>> ((3 : Int32) &&& 31)) &&& (3 : Int32)) - (1 : Int32)).toInt64)), .second, .val (.long q1), .second, .val (.long q2), .second] []))) (fun t kt => ?_) ?_
      · show Steps p.tables e below (s₁.setTop (mkF m 41 _ [(.int (2 : Int32)), (.int (p3 &&& (7 : Int32)))])) _
        refine XS.icmpNo X0.here hx rfl (hb hby at_41) rfl (teq (hc41 : (p3 &&& (7 : Int32)) = (2 : Int32))).2 ?_
        exact kt
      refine own_pre (B := (s₁.setTop (mkF m 123 #[.val (.long q1), .second, .val (.long q2), .second, .val (.int p3), .val (.int (p3 &&& (7 : Int32))), .val (.long ((((p3 >>> ((3 : Int32) &&& 31)) &&& (3 : Int32)) - (1 : Int32)).toInt64)), .second, .val (.long q1), .second, .val (.long (-9223372036854775808 : Int64)), .second] []))) (fun t kt => ?_) ?_
      · show Steps p.tables e below (s₁.setTop (mkF m 44 _ [])) _
        refine X0.ldc2Long hx hown (mvT hZ (hw _ (List.mem_of_getElem? (i := 9) rfl))) (g := (mkF m 44 #[.val (.long q1), .second, .val (.long q2), .second, .val (.int p3), .val (.int (p3 &&& (7 : Int32))), .val (.long ((((p3 >>> ((3 : Int32) &&& 31)) &&& (3 : Int32)) - (1 : Int32)).toInt64)), .second, .val (.long q1), .second, .val (.long q2), .second] [])) rfl (hb hby at_44) _ ?_
        show Steps p.tables e below (s₁.setTop (mkF m 47 _ [(.long (-9223372036854775808 : Int64))])) _
        refine XS.lstore X0.here hx rfl (hb hby at_47) rfl (l' := #[.val (.long q1), .second, .val (.long q2), .second, .val (.int p3), .val (.int (p3 &&& (7 : Int32))), .val (.long ((((p3 >>> ((3 : Int32) &&& 31)) &&& (3 : Int32)) - (1 : Int32)).toInt64)), .second, .val (.long q1), .second, .val (.long (-9223372036854775808 : Int64)), .second]) rfl ?_
        show Steps p.tables e below (s₁.setTop (mkF m 49 _ [])) _
        refine XS.goto X0.here hx rfl (pc0 := 49) (pc' := 123) rfl (hb hby at_49) (by decide) (by decide) ?_
        exact kt
      exact K _ _ _ _
    · refine own_pre (B := (s₁.setTop (mkF m 52 #[.val (.long q1), .second, .val (.long q2), .second, .val (.int p3), .val (.int (p3 &&& (7 : Int32))), .val (.long ((((p3 >>> ((3 : Int32) &&& 31)) &&& (3 : Int32)) - (1 : Int32)).toInt64)), .second, .val (.long q1), .second, .val (.long q2), .second] []))) (fun t kt => ?_) ?_
      · show Steps p.tables e below (s₁.setTop (mkF m 41 _ [(.int (2 : Int32)), (.int (p3 &&& (7 : Int32)))])) _
        refine XS.icmpYes X0.here hx rfl (pc0 := 41) (pc' := 52) rfl (hb hby at_41) rfl (feq (hc41 : ¬ ((p3 &&& (7 : Int32)) = (2 : Int32)))).2 (by decide) (by decide) ?_
        exact kt
      refine own_pre (B := (s₁.setTop (mkF m 55 #[.val (.long q1), .second, .val (.long q2), .second, .val (.int p3), .val (.int (p3 &&& (7 : Int32))), .val (.long ((((p3 >>> ((3 : Int32) &&& 31)) &&& (3 : Int32)) - (1 : Int32)).toInt64)), .second, .val (.long q1), .second, .val (.long q2), .second] [(.int (3 : Int32)), (.int (p3 &&& (7 : Int32)))]))) (fun t kt => ?_) ?_
      · show Steps p.tables e below (s₁.setTop (mkF m 52 _ [])) _
        refine XS.iload X0.here hx rfl (hb hby at_52) rfl ?_
        show Steps p.tables e below (s₁.setTop (mkF m 54 _ [(.int (p3 &&& (7 : Int32)))])) _
        refine XS.iconst X0.here hx rfl (hb hby at_54) ?_
        exact kt
      by_cases hc55 : (p3 &&& (7 : Int32)) = (3 : Int32)
      · refine own_pre (B := (s₁.setTop (mkF m 58 #[.val (.long q1), .second, .val (.long q2), .second, .val (.int p3), .val (.int (p3 &&& (7 : Int32))), .val (.long ((((p3 >>> ((3 : Int32) &&& 31)) &&& (3 : Int32)) - (1 : Int32)).toInt64)), .second, .val (.long q1), .second, .val (.long q2), .second] []))) (fun t kt => ?_) ?_
        · show Steps p.tables e below (s₁.setTop (mkF m 55 _ [(.int (3 : Int32)), (.int (p3 &&& (7 : Int32)))])) _
          refine XS.icmpNo X0.here hx rfl (hb hby at_55) rfl (teq (hc55 : (p3 &&& (7 : Int32)) = (3 : Int32))).2 ?_
          exact kt
        refine own_pre (B := (s₁.setTop (mkF m 123 #[.val (.long q1), .second, .val (.long q2), .second, .val (.int p3), .val (.int (p3 &&& (7 : Int32))), .val (.long ((((p3 >>> ((3 : Int32) &&& 31)) &&& (3 : Int32)) - (1 : Int32)).toInt64)), .second, .val (.long q1), .second, .val (.long (((9223372036854775807 : Int64) - q1) + ((((p3 >>> ((3 : Int32) &&& 31)) &&& (3 : Int32)) - (1 : Int32)).toInt64))), .second] []))) (fun t kt => ?_) ?_
        · show Steps p.tables e below (s₁.setTop (mkF m 58 _ [])) _
          refine X0.ldc2Long hx hown (mvT hZ (hw _ (List.mem_of_getElem? (i := 10) rfl))) (g := (mkF m 58 #[.val (.long q1), .second, .val (.long q2), .second, .val (.int p3), .val (.int (p3 &&& (7 : Int32))), .val (.long ((((p3 >>> ((3 : Int32) &&& 31)) &&& (3 : Int32)) - (1 : Int32)).toInt64)), .second, .val (.long q1), .second, .val (.long q2), .second] [])) rfl (hb hby at_58) _ ?_
          show Steps p.tables e below (s₁.setTop (mkF m 61 _ [(.long (9223372036854775807 : Int64))])) _
          refine XS.lloadN X0.here hx rfl (hb hby at_61) rfl ?_
          show Steps p.tables e below (s₁.setTop (mkF m 62 _ [(.long q1), (.long (9223372036854775807 : Int64))])) _
          refine XS.lsub X0.here hx rfl (hb hby at_62) rfl ?_
          show Steps p.tables e below (s₁.setTop (mkF m 63 _ [(.long ((9223372036854775807 : Int64) - q1))])) _
          refine XS.lload X0.here hx rfl (hb hby at_63) rfl ?_
          show Steps p.tables e below (s₁.setTop (mkF m 65 _ [(.long ((((p3 >>> ((3 : Int32) &&& 31)) &&& (3 : Int32)) - (1 : Int32)).toInt64)), (.long ((9223372036854775807 : Int64) - q1))])) _
          refine XS.ladd X0.here hx rfl (hb hby at_65) rfl ?_
          show Steps p.tables e below (s₁.setTop (mkF m 66 _ [(.long (((9223372036854775807 : Int64) - q1) + ((((p3 >>> ((3 : Int32) &&& 31)) &&& (3 : Int32)) - (1 : Int32)).toInt64)))])) _
          refine XS.lstore X0.here hx rfl (hb hby at_66) rfl (l' := #[.val (.long q1), .second, .val (.long q2), .second, .val (.int p3), .val (.int (p3 &&& (7 : Int32))), .val (.long ((((p3 >>> ((3 : Int32) &&& 31)) &&& (3 : Int32)) - (1 : Int32)).toInt64)), .second, .val (.long q1), .second, .val (.long (((9223372036854775807 : Int64) - q1) + ((((p3 >>> ((3 : Int32) &&& 31)) &&& (3 : Int32)) - (1 : Int32)).toInt64))), .second]) rfl ?_
          show Steps p.tables e below (s₁.setTop (mkF m 68 _ [])) _
          refine XS.goto X0.here hx rfl (pc0 := 68) (pc' := 123) rfl (hb hby at_68) (by decide) (by decide) ?_
          exact kt
        exact K _ _ _ _
      · refine own_pre (B := (s₁.setTop (mkF m 71 #[.val (.long q1), .second, .val (.long q2), .second, .val (.int p3), .val (.int (p3 &&& (7 : Int32))), .val (.long ((((p3 >>> ((3 : Int32) &&& 31)) &&& (3 : Int32)) - (1 : Int32)).toInt64)), .second, .val (.long q1), .second, .val (.long q2), .second] []))) (fun t kt => ?_) ?_
        · show Steps p.tables e below (s₁.setTop (mkF m 55 _ [(.int (3 : Int32)), (.int (p3 &&& (7 : Int32)))])) _
          refine XS.icmpYes X0.here hx rfl (pc0 := 55) (pc' := 71) rfl (hb hby at_55) rfl (feq (hc55 : ¬ ((p3 &&& (7 : Int32)) = (3 : Int32)))).2 (by decide) (by decide) ?_
          exact kt
        refine own_pre (B := (s₁.setTop (mkF m 74 #[.val (.long q1), .second, .val (.long q2), .second, .val (.int p3), .val (.int (p3 &&& (7 : Int32))), .val (.long ((((p3 >>> ((3 : Int32) &&& 31)) &&& (3 : Int32)) - (1 : Int32)).toInt64)), .second, .val (.long q1), .second, .val (.long q2), .second] [(.int (4 : Int32)), (.int (p3 &&& (7 : Int32)))]))) (fun t kt => ?_) ?_
        · show Steps p.tables e below (s₁.setTop (mkF m 71 _ [])) _
          refine XS.iload X0.here hx rfl (hb hby at_71) rfl ?_
          show Steps p.tables e below (s₁.setTop (mkF m 73 _ [(.int (p3 &&& (7 : Int32)))])) _
          refine XS.iconst X0.here hx rfl (hb hby at_73) ?_
          exact kt
        by_cases hc74 : (p3 &&& (7 : Int32)) = (4 : Int32)
        · refine own_pre (B := (s₁.setTop (mkF m 77 #[.val (.long q1), .second, .val (.long q2), .second, .val (.int p3), .val (.int (p3 &&& (7 : Int32))), .val (.long ((((p3 >>> ((3 : Int32) &&& 31)) &&& (3 : Int32)) - (1 : Int32)).toInt64)), .second, .val (.long q1), .second, .val (.long q2), .second] []))) (fun t kt => ?_) ?_
          · show Steps p.tables e below (s₁.setTop (mkF m 74 _ [(.int (4 : Int32)), (.int (p3 &&& (7 : Int32)))])) _
            refine XS.icmpNo X0.here hx rfl (hb hby at_74) rfl (teq (hc74 : (p3 &&& (7 : Int32)) = (4 : Int32))).2 ?_
            exact kt
          refine own_pre (B := (s₁.setTop (mkF m 123 #[.val (.long q1), .second, .val (.long q2), .second, .val (.int p3), .val (.int (p3 &&& (7 : Int32))), .val (.long ((((p3 >>> ((3 : Int32) &&& 31)) &&& (3 : Int32)) - (1 : Int32)).toInt64)), .second, .val (.long q1), .second, .val (.long (((-9223372036854775808 : Int64) - q1) + ((((p3 >>> ((3 : Int32) &&& 31)) &&& (3 : Int32)) - (1 : Int32)).toInt64))), .second] []))) (fun t kt => ?_) ?_
          · show Steps p.tables e below (s₁.setTop (mkF m 77 _ [])) _
            refine X0.ldc2Long hx hown (mvT hZ (hw _ (List.mem_of_getElem? (i := 9) rfl))) (g := (mkF m 77 #[.val (.long q1), .second, .val (.long q2), .second, .val (.int p3), .val (.int (p3 &&& (7 : Int32))), .val (.long ((((p3 >>> ((3 : Int32) &&& 31)) &&& (3 : Int32)) - (1 : Int32)).toInt64)), .second, .val (.long q1), .second, .val (.long q2), .second] [])) rfl (hb hby at_77) _ ?_
            show Steps p.tables e below (s₁.setTop (mkF m 80 _ [(.long (-9223372036854775808 : Int64))])) _
            refine XS.lloadN X0.here hx rfl (hb hby at_80) rfl ?_
            show Steps p.tables e below (s₁.setTop (mkF m 81 _ [(.long q1), (.long (-9223372036854775808 : Int64))])) _
            refine XS.lsub X0.here hx rfl (hb hby at_81) rfl ?_
            show Steps p.tables e below (s₁.setTop (mkF m 82 _ [(.long ((-9223372036854775808 : Int64) - q1))])) _
            refine XS.lload X0.here hx rfl (hb hby at_82) rfl ?_
            show Steps p.tables e below (s₁.setTop (mkF m 84 _ [(.long ((((p3 >>> ((3 : Int32) &&& 31)) &&& (3 : Int32)) - (1 : Int32)).toInt64)), (.long ((-9223372036854775808 : Int64) - q1))])) _
            refine XS.ladd X0.here hx rfl (hb hby at_84) rfl ?_
            show Steps p.tables e below (s₁.setTop (mkF m 85 _ [(.long (((-9223372036854775808 : Int64) - q1) + ((((p3 >>> ((3 : Int32) &&& 31)) &&& (3 : Int32)) - (1 : Int32)).toInt64)))])) _
            refine XS.lstore X0.here hx rfl (hb hby at_85) rfl (l' := #[.val (.long q1), .second, .val (.long q2), .second, .val (.int p3), .val (.int (p3 &&& (7 : Int32))), .val (.long ((((p3 >>> ((3 : Int32) &&& 31)) &&& (3 : Int32)) - (1 : Int32)).toInt64)), .second, .val (.long q1), .second, .val (.long (((-9223372036854775808 : Int64) - q1) + ((((p3 >>> ((3 : Int32) &&& 31)) &&& (3 : Int32)) - (1 : Int32)).toInt64))), .second]) rfl ?_
            show Steps p.tables e below (s₁.setTop (mkF m 87 _ [])) _
            refine XS.goto X0.here hx rfl (pc0 := 87) (pc' := 123) rfl (hb hby at_87) (by decide) (by decide) ?_
            exact kt
          exact K _ _ _ _
        · refine own_pre (B := (s₁.setTop (mkF m 90 #[.val (.long q1), .second, .val (.long q2), .second, .val (.int p3), .val (.int (p3 &&& (7 : Int32))), .val (.long ((((p3 >>> ((3 : Int32) &&& 31)) &&& (3 : Int32)) - (1 : Int32)).toInt64)), .second, .val (.long q1), .second, .val (.long q2), .second] []))) (fun t kt => ?_) ?_
          · show Steps p.tables e below (s₁.setTop (mkF m 74 _ [(.int (4 : Int32)), (.int (p3 &&& (7 : Int32)))])) _
            refine XS.icmpYes X0.here hx rfl (pc0 := 74) (pc' := 90) rfl (hb hby at_74) rfl (feq (hc74 : ¬ ((p3 &&& (7 : Int32)) = (4 : Int32)))).2 (by decide) (by decide) ?_
            exact kt
          refine own_pre (B := (s₁.setTop (mkF m 93 #[.val (.long q1), .second, .val (.long q2), .second, .val (.int p3), .val (.int (p3 &&& (7 : Int32))), .val (.long ((((p3 >>> ((3 : Int32) &&& 31)) &&& (3 : Int32)) - (1 : Int32)).toInt64)), .second, .val (.long q1), .second, .val (.long q2), .second] [(.int (5 : Int32)), (.int (p3 &&& (7 : Int32)))]))) (fun t kt => ?_) ?_
          · show Steps p.tables e below (s₁.setTop (mkF m 90 _ [])) _
            refine XS.iload X0.here hx rfl (hb hby at_90) rfl ?_
            show Steps p.tables e below (s₁.setTop (mkF m 92 _ [(.int (p3 &&& (7 : Int32)))])) _
            refine XS.iconst X0.here hx rfl (hb hby at_92) ?_
            exact kt
          by_cases hc93 : (p3 &&& (7 : Int32)) = (5 : Int32)
          · refine own_pre (B := (s₁.setTop (mkF m 96 #[.val (.long q1), .second, .val (.long q2), .second, .val (.int p3), .val (.int (p3 &&& (7 : Int32))), .val (.long ((((p3 >>> ((3 : Int32) &&& 31)) &&& (3 : Int32)) - (1 : Int32)).toInt64)), .second, .val (.long q1), .second, .val (.long q2), .second] []))) (fun t kt => ?_) ?_
            · show Steps p.tables e below (s₁.setTop (mkF m 93 _ [(.int (5 : Int32)), (.int (p3 &&& (7 : Int32)))])) _
              refine XS.icmpNo X0.here hx rfl (hb hby at_93) rfl (teq (hc93 : (p3 &&& (7 : Int32)) = (5 : Int32))).2 ?_
              exact kt
            refine own_pre (B := (s₁.setTop (mkF m 123 #[.val (.long q1), .second, .val (.long q2), .second, .val (.int p3), .val (.int (p3 &&& (7 : Int32))), .val (.long ((((p3 >>> ((3 : Int32) &&& 31)) &&& (3 : Int32)) - (1 : Int32)).toInt64)), .second, .val (.long (-9223372036854775808 : Int64)), .second, .val (.long (-9223372036854775808 : Int64)), .second] []))) (fun t kt => ?_) ?_
            · show Steps p.tables e below (s₁.setTop (mkF m 96 _ [])) _
              refine X0.ldc2Long hx hown (mvT hZ (hw _ (List.mem_of_getElem? (i := 9) rfl))) (g := (mkF m 96 #[.val (.long q1), .second, .val (.long q2), .second, .val (.int p3), .val (.int (p3 &&& (7 : Int32))), .val (.long ((((p3 >>> ((3 : Int32) &&& 31)) &&& (3 : Int32)) - (1 : Int32)).toInt64)), .second, .val (.long q1), .second, .val (.long q2), .second] [])) rfl (hb hby at_96) _ ?_
              show Steps p.tables e below (s₁.setTop (mkF m 99 _ [(.long (-9223372036854775808 : Int64))])) _
              refine XS.lstore X0.here hx rfl (hb hby at_99) rfl (l' := #[.val (.long q1), .second, .val (.long q2), .second, .val (.int p3), .val (.int (p3 &&& (7 : Int32))), .val (.long ((((p3 >>> ((3 : Int32) &&& 31)) &&& (3 : Int32)) - (1 : Int32)).toInt64)), .second, .val (.long (-9223372036854775808 : Int64)), .second, .val (.long q2), .second]) rfl ?_
              show Steps p.tables e below (s₁.setTop (mkF m 101 _ [])) _
              refine X0.ldc2Long hx hown (mvT hZ (hw _ (List.mem_of_getElem? (i := 9) rfl))) (g := (mkF m 101 #[.val (.long q1), .second, .val (.long q2), .second, .val (.int p3), .val (.int (p3 &&& (7 : Int32))), .val (.long ((((p3 >>> ((3 : Int32) &&& 31)) &&& (3 : Int32)) - (1 : Int32)).toInt64)), .second, .val (.long (-9223372036854775808 : Int64)), .second, .val (.long q2), .second] [])) rfl (hb hby at_101) _ ?_
              show Steps p.tables e below (s₁.setTop (mkF m 104 _ [(.long (-9223372036854775808 : Int64))])) _
              refine XS.lstore X0.here hx rfl (hb hby at_104) rfl (l' := #[.val (.long q1), .second, .val (.long q2), .second, .val (.int p3), .val (.int (p3 &&& (7 : Int32))), .val (.long ((((p3 >>> ((3 : Int32) &&& 31)) &&& (3 : Int32)) - (1 : Int32)).toInt64)), .second, .val (.long (-9223372036854775808 : Int64)), .second, .val (.long (-9223372036854775808 : Int64)), .second]) rfl ?_
              show Steps p.tables e below (s₁.setTop (mkF m 106 _ [])) _
              refine XS.goto X0.here hx rfl (pc0 := 106) (pc' := 123) rfl (hb hby at_106) (by decide) (by decide) ?_
              exact kt
            exact K _ _ _ _
          · refine own_pre (B := (s₁.setTop (mkF m 109 #[.val (.long q1), .second, .val (.long q2), .second, .val (.int p3), .val (.int (p3 &&& (7 : Int32))), .val (.long ((((p3 >>> ((3 : Int32) &&& 31)) &&& (3 : Int32)) - (1 : Int32)).toInt64)), .second, .val (.long q1), .second, .val (.long q2), .second] []))) (fun t kt => ?_) ?_
            · show Steps p.tables e below (s₁.setTop (mkF m 93 _ [(.int (5 : Int32)), (.int (p3 &&& (7 : Int32)))])) _
              refine XS.icmpYes X0.here hx rfl (pc0 := 93) (pc' := 109) rfl (hb hby at_93) rfl (feq (hc93 : ¬ ((p3 &&& (7 : Int32)) = (5 : Int32)))).2 (by decide) (by decide) ?_
              exact kt
            refine own_pre (B := (s₁.setTop (mkF m 113 #[.val (.long q1), .second, .val (.long q2), .second, .val (.int p3), .val (.int (p3 &&& (7 : Int32))), .val (.long ((((p3 >>> ((3 : Int32) &&& 31)) &&& (3 : Int32)) - (1 : Int32)).toInt64)), .second, .val (.long q1), .second, .val (.long q2), .second] [(.int (6 : Int32)), (.int (p3 &&& (7 : Int32)))]))) (fun t kt => ?_) ?_
            · show Steps p.tables e below (s₁.setTop (mkF m 109 _ [])) _
              refine XS.iload X0.here hx rfl (hb hby at_109) rfl ?_
              show Steps p.tables e below (s₁.setTop (mkF m 111 _ [(.int (p3 &&& (7 : Int32)))])) _
              refine XS.bipush X0.here hx rfl (hb hby at_111) ?_
              exact kt
            by_cases hc113 : (p3 &&& (7 : Int32)) = (6 : Int32)
            · refine own_pre (B := (s₁.setTop (mkF m 116 #[.val (.long q1), .second, .val (.long q2), .second, .val (.int p3), .val (.int (p3 &&& (7 : Int32))), .val (.long ((((p3 >>> ((3 : Int32) &&& 31)) &&& (3 : Int32)) - (1 : Int32)).toInt64)), .second, .val (.long q1), .second, .val (.long q2), .second] []))) (fun t kt => ?_) ?_
              · show Steps p.tables e below (s₁.setTop (mkF m 113 _ [(.int (6 : Int32)), (.int (p3 &&& (7 : Int32)))])) _
                refine XS.icmpNo X0.here hx rfl (hb hby at_113) rfl (teq (hc113 : (p3 &&& (7 : Int32)) = (6 : Int32))).2 ?_
                exact kt
              refine own_pre (B := (s₁.setTop (mkF m 123 #[.val (.long q1), .second, .val (.long q2), .second, .val (.int p3), .val (.int (p3 &&& (7 : Int32))), .val (.long ((((p3 >>> ((3 : Int32) &&& 31)) &&& (3 : Int32)) - (1 : Int32)).toInt64)), .second, .val (.long q1), .second, .val (.long ((-q1) + ((((p3 >>> ((3 : Int32) &&& 31)) &&& (3 : Int32)) - (1 : Int32)).toInt64))), .second] []))) (fun t kt => ?_) ?_
              · show Steps p.tables e below (s₁.setTop (mkF m 116 _ [])) _
                refine XS.lloadN X0.here hx rfl (hb hby at_116) rfl ?_
                show Steps p.tables e below (s₁.setTop (mkF m 117 _ [(.long q1)])) _
                refine XS.lneg X0.here hx rfl (hb hby at_117) rfl ?_
                show Steps p.tables e below (s₁.setTop (mkF m 118 _ [(.long (-q1))])) _
                refine XS.lload X0.here hx rfl (hb hby at_118) rfl ?_
                show Steps p.tables e below (s₁.setTop (mkF m 120 _ [(.long ((((p3 >>> ((3 : Int32) &&& 31)) &&& (3 : Int32)) - (1 : Int32)).toInt64)), (.long (-q1))])) _
                refine XS.ladd X0.here hx rfl (hb hby at_120) rfl ?_
                show Steps p.tables e below (s₁.setTop (mkF m 121 _ [(.long ((-q1) + ((((p3 >>> ((3 : Int32) &&& 31)) &&& (3 : Int32)) - (1 : Int32)).toInt64)))])) _
                refine XS.lstore X0.here hx rfl (hb hby at_121) rfl (l' := #[.val (.long q1), .second, .val (.long q2), .second, .val (.int p3), .val (.int (p3 &&& (7 : Int32))), .val (.long ((((p3 >>> ((3 : Int32) &&& 31)) &&& (3 : Int32)) - (1 : Int32)).toInt64)), .second, .val (.long q1), .second, .val (.long ((-q1) + ((((p3 >>> ((3 : Int32) &&& 31)) &&& (3 : Int32)) - (1 : Int32)).toInt64))), .second]) rfl ?_
                exact kt
              exact K _ _ _ _
            · refine own_pre (B := (s₁.setTop (mkF m 123 #[.val (.long q1), .second, .val (.long q2), .second, .val (.int p3), .val (.int (p3 &&& (7 : Int32))), .val (.long ((((p3 >>> ((3 : Int32) &&& 31)) &&& (3 : Int32)) - (1 : Int32)).toInt64)), .second, .val (.long q1), .second, .val (.long q2), .second] []))) (fun t kt => ?_) ?_
              · show Steps p.tables e below (s₁.setTop (mkF m 113 _ [(.int (6 : Int32)), (.int (p3 &&& (7 : Int32)))])) _
                refine XS.icmpYes X0.here hx rfl (pc0 := 113) (pc' := 123) rfl (hb hby at_113) rfl (feq (hc113 : ¬ ((p3 &&& (7 : Int32)) = (6 : Int32)))).2 (by decide) (by decide) ?_
                exact kt
              exact K _ _ _ _
set_option maxRecDepth 65536 in
set_option maxHeartbeats 40000000 in
theorem comes_1 {Post : Tables → Env → Array Value → State → Outcome → State → Prop} (hpost : ∀ tb e args s v u, (limb_1_1.after args s (.returned v) u = true ∧ limb_1_2.after args s (.returned v) u = true ∧ True) → FrameEnd s (.returned v) u (Jvm.fieldLocs frame_1_writes args s ++ Jvm.arrayLocs frame_1_arrays args s ++ Jvm.staticLocs frame_1_statics s) 0 0 → Post tb e args s (.returned v) u) :
    ArmFor flags0 classFile x code maxLocals ret World_1 tables_1 room_1 Calls_1 rest_1 Pre_1 Post := by
  intro l hfl _ _ p e ha hc hk s m args below hf hA hF happ hP
  obtain ⟨hcalls, hrest, hpre⟩ := hP
  obtain ⟨-, -, -, hnamed, -, -, -, hat⟩ := (Spec.applies_iff hf).mp happ
  obtain ⟨hg, hn⟩ := and_e (Cond.before_iff.mp (show (Jvm.Cond.and given_1 narrow_1).before args s = true from hpre))
  obtain ⟨gc, gr0⟩ := and_e hg
  obtain ⟨ga0, gr1⟩ := and_e gr0
  obtain ⟨ga1, gr2⟩ := and_e gr1
  obtain ⟨w0, w1, w2, rfl⟩ : ∃ w0 w1 w2 : Value, args = #[w0, w1, w2] := by
    have hs : args.size = 3 := by simpa [Cond.value, given_1] using gc
    obtain ⟨L⟩ := args
    match L, hs with
    | [w0, w1, w2], _ => exact ⟨w0, w1, w2, rfl⟩
  have hw := fun d (hd : d ∈ tables_1) => atoms_spec (ws := Jvm.Cond.code x code maxLocals ret :: tables_1) hat d (List.mem_cons_of_mem _ hd)
  have hfit : Fit s := fun {y c} hc i hi => by
    obtain ⟨ha, rfl⟩ := Array.getElem?_eq_some_iff.mp hc
    have q := List.all_eq_true.mp ((Array.all_eq_true_iff_forall_mem.mp hF) _ (Array.getElem_mem ha)) i (List.mem_range.mpr hi)
    simpa [Array.getElem?_eq_getElem hi] using q
  obtain ⟨i0, ei0⟩ := isL_v ga0
  obtain rfl : w0 = (.long i0) := Option.some.inj ei0
  obtain ⟨i1, ei1⟩ := isL_v ga1
  obtain rfl : w1 = (.long i1) := Option.some.inj ei1
  obtain ⟨i2, ei2⟩ := is_v gr2
  obtain rfl : w2 = (.int i2) := Option.some.inj ei2
  obtain ⟨n, o, h1, h2, h3, _, L, rfl, ⟨rfl, N⟩, hq⟩ := rm0 l s _ hw tables_1 i0 i1 i2 s.heap s.heap.size (Nat.le_refl _)  p e ha hc hk s m _ below hf ((Spec.applies_iff_loose hf).mp happ).1 ⟨rfl, State.Warmed39.refl s, rfl⟩ trivial
  refine ⟨n, _, h1, h2, h3, hpost _ _ _ _ _ _ ⟨Cond.after_iff.mpr rfl, Cond.after_iff.mpr (eq_i res_at (Term.int_eval (1)) rfl), trivial⟩ ⟨hq.1, hq.2.1, (hq.2.2.sift fun y hy => Or.inr (N y hy)).mono (by decide) (by decide)⟩⟩
theorem main_1_1 : Claimed_1_1 := comes_1 fun _ _ _ _ _ _ h hF => ⟨h.1, hF⟩
theorem main_1_2 : Claimed_1_2 := comes_1 fun _ _ _ _ _ _ h hF => ⟨h.2.1, hF⟩
end Jvm.Pilot.@@N@@
namespace Jvm.Pilot.@@N@@
open Jvm Jvm.ClassFile Sem Op Lib Jvm.Free Jvm.Stand Jvm.Pilot.@@N@@.Jvm.D
/-! MADE BY PROGRAM (witnessworld.py) out of the Statement's table words and the real class files: 10 classes; the members and pool entries that the words name. The judged class is class 1, her method 1. -/
namespace start1
open Jvm.ClassFile
def u (s : String) : CpInfo := .utf8 (stringToUtf16 s)
/-- a pool by its gaps: so many unusable entries, then the entry; so many at the end -/
def gap : Nat → List CpInfo → List CpInfo
  | 0, r => r
  | n + 1, r => .unusable :: gap n r
def poolList (es : List (Nat × CpInfo)) (last : Nat) : List CpInfo := es.foldr (fun e r => gap e.1 (e.2 :: r)) (gap last [])
def pool (es : List (Nat × CpInfo)) (last : Nat) : Array CpInfo := ⟨poolList es last⟩
def fileOf (pool : Array CpInfo) (this : Nat) (attrs : Array Attribute := #[]) (ms : Array MethodInfo := #[]) (fl : Nat := 33) (sup : Nat := 0) (ifs : Array Nat := #[]) (fds : Array FieldInfo := #[]) : ClassFile where
  minorVersion := 0
  majorVersion := 65
  constantPool := pool
  accessFlags := fl
  thisClass := this
  superClass := sup
  interfaces := ifs
  fields := fds
  methods := ms
  attributes := attrs
def plain (name : String) (sup : Option ClassId) : Class where
  name := name
  kind := .ordinary
  loader := none
  accessFlags := 33
  super := sup
  interfaces := #[]
  cf := none
  fields := #[]
  methods := #[]
  instanceTypes := #[]
  staticTypes := #[]
  resolved := #[]
  callSites := []
  init := .initialized
  statics := none
  mirror := none

def pool0 : Array CpInfo := pool [(5, u "<init>"), (0, u "()V"), (1, .class_ 10), (1, u "java/lang/Object")] 113

def k0m0 : Method := { name := "<init>", desc := "()V", sig := { parameters := [], returnType := none }, accessFlags := 1, code := none }
/-- java/lang/Object -/
def k0 : Class := { plain "java/lang/Object" none with
  accessFlags := 33
  interfaces := #[]
  cf := some (fileOf pool0 8 #[] #[{ accessFlags := 1, nameIndex := 5, descriptorIndex := 6, attributes := #[] }] 33 0 #[] #[])
  fields := #[]
  methods := #[k0m0]
  instanceTypes := #[]
  staticTypes := #[]
  resolved := Array.replicate 124 none
  statics := none }

def pool1 : Array CpInfo := pool [(2, .class_ 4), (1, u "java/lang/Object"), (0, u "<init>"), (0, u "()V"), (2, .long 9223372036854775808), (1, .long 9223372036854775807), (1, .methodref 14 15), (0, .class_ 16), (0, .nameAndType 17 18), (0, u "com/example/wattlebird/wattlebird/Amount"), (0, u "sum"), (0, u "(JJ)J"), (0, .methodref 20 21), (0, .class_ 22), (0, .nameAndType 23 18), (0, u "com/example/wattlebird/wattlebird/AmountSumPinLaw"), (0, u "expected"), (2, u "law"), (0, u "(JJI)Z")] 3

def k1m0 : Method := { name := "<init>", desc := "()V", sig := { parameters := [], returnType := none }, accessFlags := 1, code := none }
def k1c1 : Code := { maxStack := 6, maxLocals := 12, code := code, exceptionTable := #[], attributes := #[] }
def k1m1 : Method := { name := "law", desc := "(JJI)Z", sig := { parameters := [.long, .long, .int], returnType := some .boolean }, accessFlags := 9, code := some k1c1 }
def k1c2 : Code := { maxStack := 6, maxLocals := 4, code := method_3_code, exceptionTable := #[], attributes := #[] }
def k1m2 : Method := { name := "expected", desc := "(JJ)J", sig := { parameters := [.long, .long], returnType := some .long }, accessFlags := 10, code := some k1c2 }
/-- com/example/wattlebird/wattlebird/AmountSumPinLaw -/
def k1 : Class := { plain "com/example/wattlebird/wattlebird/AmountSumPinLaw" (some 0) with
  accessFlags := 49
  interfaces := #[]
  cf := some (fileOf pool1 20 #[] #[{ accessFlags := 1, nameIndex := 5, descriptorIndex := 6, attributes := #[] }, { accessFlags := 9, nameIndex := 26, descriptorIndex := 27, attributes := #[] }, { accessFlags := 10, nameIndex := 23, descriptorIndex := 18, attributes := #[] }] 49 2 #[] #[])
  fields := #[]
  methods := #[k1m0, k1m1, k1m2]
  instanceTypes := #[]
  staticTypes := #[]
  resolved := Array.replicate 31 none
  statics := none }

def pool2 : Array CpInfo := pool [(2, .class_ 4), (1, u "java/lang/Object"), (0, u "<init>"), (0, u "()V"), (0, .class_ 8), (0, u "java/lang/Record")] 13

def k2m0 : Method := { name := "<init>", desc := "()V", sig := { parameters := [], returnType := none }, accessFlags := 4, code := none }
/-- java/lang/Record -/
def k2 : Class := { plain "java/lang/Record" (some 0) with
  accessFlags := 1057
  interfaces := #[]
  cf := some (fileOf pool2 7 #[] #[{ accessFlags := 4, nameIndex := 5, descriptorIndex := 6, attributes := #[] }] 1057 2 #[] #[])
  fields := #[]
  methods := #[k2m0]
  instanceTypes := #[]
  staticTypes := #[]
  resolved := Array.replicate 22 none
  statics := none }

def pool3 : Array CpInfo := pool [(4, .class_ 6), (1, u "java/lang/Record"), (3, u "zloty"), (36, .class_ 49), (1, u "com/example/wattlebird/wattlebird/Amount"), (0, u "Ljava/math/BigDecimal;"), (54, u "(JJ)J"), (0, .long 9223372036854775808), (3, u "POWERS_OF_TEN"), (0, u "[J"), (84, u "NOT_IN_A_LONG"), (0, u "J"), (8, u "sum")] 26

def k3c0 : Code := { maxStack := 6, maxLocals := 7, code := prog_1_method_6_code, exceptionTable := #[], attributes := #[] }
def k3m0 : Method := { name := "sum", desc := "(JJ)J", sig := { parameters := [.long, .long], returnType := some .long }, accessFlags := 8, code := some k3c0 }
/-- com/example/wattlebird/wattlebird/Amount -/
def k3 : Class := { plain "com/example/wattlebird/wattlebird/Amount" (some 2) with
  accessFlags := 49
  interfaces := #[]
  cf := some (fileOf pool3 47 #[] #[{ accessFlags := 8, nameIndex := 206, descriptorIndex := 105, attributes := #[] }] 49 4 #[] #[{ accessFlags := 18, nameIndex := 10, descriptorIndex := 50, attributes := #[] }, { accessFlags := 24, nameIndex := 196, descriptorIndex := 197, attributes := #[] }, { accessFlags := 26, nameIndex := 110, descriptorIndex := 111, attributes := #[] }])
  fields := #[{ name := "zloty", type := (.object "java/math/BigDecimal"), accessFlags := 18, slot := 0, constantValue := 0 }, { name := "NOT_IN_A_LONG", type := .long, accessFlags := 24, slot := 0, constantValue := 0 }, { name := "POWERS_OF_TEN", type := (.array .long), accessFlags := 26, slot := 1, constantValue := 0 }]
  methods := #[k3m0]
  instanceTypes := #[(.object "java/math/BigDecimal")]
  staticTypes := #[.long, (.array .long)]
  resolved := Array.replicate 233 none
  statics := none }

def pool4 : Array CpInfo := pool [(1, u "java/lang/Cloneable"), (0, .class_ 1), (0, u "java/lang/Object"), (0, .class_ 3)] 3

/-- java/lang/Cloneable -/
def k4 : Class := { plain "java/lang/Cloneable" (some 0) with
  accessFlags := 1537
  interfaces := #[]
  cf := some (fileOf pool4 2 #[] #[] 1537 4 #[] #[])
  fields := #[]
  methods := #[]
  instanceTypes := #[]
  staticTypes := #[]
  resolved := Array.replicate 8 none
  statics := none }

def pool5 : Array CpInfo := pool [(1, u "java/io/Serializable"), (0, .class_ 1), (0, u "java/lang/Object"), (0, .class_ 3)] 3

/-- java/io/Serializable -/
def k5 : Class := { plain "java/io/Serializable" (some 0) with
  accessFlags := 1537
  interfaces := #[]
  cf := some (fileOf pool5 2 #[] #[] 1537 4 #[] #[])
  fields := #[]
  methods := #[]
  instanceTypes := #[]
  staticTypes := #[]
  resolved := Array.replicate 8 none
  statics := none }

/-- the primitive byte -/
def k6 : Class := { plain "byte" none with kind := .primitive 'B', accessFlags := 0x411 }
/-- [B -/
def k7 : Class := { plain "[B" (some 0) with kind := .array 6 .byte, interfaces := #[4, 5], accessFlags := 1041 }

/-- the primitive int -/
def k8 : Class := { plain "int" none with kind := .primitive 'I', accessFlags := 0x411 }
/-- [I -/
def k9 : Class := { plain "[I" (some 0) with kind := .array 8 .int, interfaces := #[4, 5], accessFlags := 1041 }

def heap : Heap := #[]
def classes : Array Class := #[k0, k1, k2, k3, k4, k5, k6, k7, k8, k9]
def interned : List (Array UInt16 × Addr) := []
def slotsUsed : Nat := 0
def theMethod : MethodId := ⟨1, 1⟩
def args0 : Array Value := #[.long 5, .long 7, .int 3]
def aboutOver (below : List Frame) : State where
  vm := { classes := classes, interned := interned.toArray }
  heap := heap
  slotsUsed := slotsUsed
  threads := #[{ frames := .invoking theMethod args0 :: below }]
def below0 : List Frame := [.native { method := ⟨0, 0⟩, args := #[] }]
def about1 : State := aboutOver below0
def p0 : Program := .bare "" "" ""
def e0 : Env := launch0.env 0 0 0
theorem w_frames : about1.frames = Frame.invoking theMethod args0 :: below0 := rfl
set_option maxRecDepth 65536 in
theorem w_args : argsFit about1.vm theMethod args0 = true := by decide +kernel
set_option maxRecDepth 65536 in
theorem w_heap : heapFits about1 = true := by decide +kernel
set_option maxRecDepth 65536 in
theorem w_runnable : about1.curStatus? = some .runnable := by decide +kernel
set_option maxRecDepth 65536 in
theorem w_alone : about1.alone = true := by decide +kernel
set_option maxRecDepth 65536 in
theorem w_named : about1.methodNamed? x = some theMethod := by decide +kernel
set_option maxRecDepth 65536 in
theorem w_hears : about1.hears theMethod below0 = true := by decide +kernel
set_option maxRecDepth 65536 in
theorem w_ripe : about1.ripe theMethod args0 below0 = true := by decide +kernel
theorem w_running : about1.status = .running := rfl
set_option maxRecDepth 65536 in
theorem w_room : about1.hasRoom e0.platform room_1 = true :=
  launch0.hasRoom_least _ room_1 (by decide +kernel) (by decide +kernel) (by decide +kernel) (by decide +kernel) (by decide +kernel) (by decide +kernel)
theorem allAtoms_all (ts : List Jvm.Cond) (a : Array Jvm.Value) (st : Jvm.State) : (allAtoms ts).before a st = ts.all (fun c => c.before a st) := by
  induction ts with
  | nil => rfl
  | cons c t ih =>
    show (Jvm.Cond.and c (allAtoms t)).before a st = _
    rw [Jvm.Cond.before_and, ih, List.all_cons]
def words1 : List Jvm.Cond := Jvm.Cond.code x code maxLocals ret :: tables_1
/-- a 'code' word, met by the world's own term for the bytes: nothing is compared byte by byte -/
theorem code_word {y : MethodName} {bytes : ByteArray} {mx : Nat} {rt : Option FieldType} {a : Array Value} {s : State} {m : MethodId} {meth : Method} {c : Code} (h1 : s.methodNamed? y = some m) (h2 : s.vm.method? m = some meth) (h3 : meth.code = some c) (h4 : c.code = bytes)
    (h5 : (c.maxLocals == mx && c.exceptionTable.isEmpty && decide (c.maxStack ≤ mostOperands) && decide (meth.sig.returnType = rt) && !meth.locks && decide (parseMethodDescriptor y.desc = some meth.sig)) = true) : (Jvm.Cond.code y bytes mx rt).before a s = true := by
  simp only [Bool.and_eq_true, beq_iff_eq, Bool.not_eq_true', decide_eq_true_eq] at h5
  obtain ⟨⟨⟨⟨⟨g1, g2⟩, g3⟩, g4⟩, g5⟩, g6⟩ := h5
  simp [Cond.before, Cond.holds, Cond.value, h1, h2, h3, h4, g1, g2, g3, g4, g5, g6]
def isCode : Jvm.Cond → Bool
  | .code _ _ _ _ => true
  | _ => false
theorem all_split {L : List Jvm.Cond} {P : Jvm.Cond → Bool} (h1 : L.all (fun c => isCode c || P c) = true) (h2 : ∀ c ∈ L.filter isCode, P c = true) : L.all P = true := by
  refine List.all_eq_true.mpr fun c hc => ?_
  have h := List.all_eq_true.mp h1 c hc
  rcases Bool.eq_false_or_eq_true (isCode c) with hi | hi
  · exact h2 c (List.mem_filter.mpr ⟨hc, hi⟩)
  · simpa [hi] using h
set_option maxRecDepth 65536 in
theorem w_c0 : (Jvm.Cond.code x code maxLocals ret).before args0 about1 = true := code_word (m := ⟨1, 1⟩) (meth := k1m1) (c := k1c1) (by decide +kernel) rfl rfl rfl (by decide +kernel)
set_option maxRecDepth 65536 in
theorem w_c1 : (Jvm.Cond.code ({ cls := "com/example/wattlebird/wattlebird/Amount", name := "sum", desc := "(JJ)J" } : Jvm.MethodName) prog_1_method_6_code (7 : Nat) (Option.some Jvm.ClassFile.FieldType.long)).before args0 about1 = true := code_word (m := ⟨3, 0⟩) (meth := k3m0) (c := k3c0) (by decide +kernel) rfl rfl rfl (by decide +kernel)
set_option maxRecDepth 65536 in
theorem w_c2 : (Jvm.Cond.code ({ cls := "com/example/wattlebird/wattlebird/AmountSumPinLaw", name := "expected", desc := "(JJ)J" } : Jvm.MethodName) method_3_code (4 : Nat) (Option.some Jvm.ClassFile.FieldType.long)).before args0 about1 = true := code_word (m := ⟨1, 2⟩) (meth := k1m2) (c := k1c2) (by decide +kernel) rfl rfl rfl (by decide +kernel)
def codes1 : List Jvm.Cond := [Jvm.Cond.code x code maxLocals ret, Jvm.Cond.code ({ cls := "com/example/wattlebird/wattlebird/Amount", name := "sum", desc := "(JJ)J" } : Jvm.MethodName) prog_1_method_6_code (7 : Nat) (Option.some Jvm.ClassFile.FieldType.long), Jvm.Cond.code ({ cls := "com/example/wattlebird/wattlebird/AmountSumPinLaw", name := "expected", desc := "(JJ)J" } : Jvm.MethodName) method_3_code (4 : Nat) (Option.some Jvm.ClassFile.FieldType.long)]
set_option maxRecDepth 65536 in
theorem codes_eq : words1.filter isCode = codes1 := rfl
theorem w_codes : ∀ c ∈ words1.filter isCode, c.before args0 about1 = true := by
  rw [codes_eq]
  intro c hc
  simp only [codes1, List.mem_cons, List.not_mem_nil, or_false] at hc
  rcases hc with rfl | rfl | rfl
  · exact w_c0
  · exact w_c1
  · exact w_c2
set_option maxRecDepth 65536 in
theorem w_t1 : words1.all (fun c => isCode c || c.before args0 about1) = true := by decide +kernel
theorem w_tables : (allAtoms (Jvm.Cond.code x code maxLocals ret :: tables_1)).before args0 about1 = true := by
  rw [allAtoms_all]
  show words1.all (fun c => c.before args0 about1) = true
  refine all_split ?_ w_codes
  rw [w_t1]
set_option maxRecDepth 65536 in
theorem w_case : (Jvm.Cond.and given_1 narrow_1).before args0 about1 = true := by decide +kernel
theorem w_applies : (headSpec (Jvm.Cond.code x code maxLocals ret :: tables_1) room_1).applies x e0.platform about1 = true :=
  (Spec.applies_iff w_frames).mpr ⟨w_running, w_runnable, w_alone, w_named, w_hears, w_ripe, w_room, w_tables⟩
theorem atStart : AtStart classFile x code maxLocals ret World_1 tables_1 room_1 Calls_1 rest_1 Pre_1 launch0 p0 e0 about1 theMethod args0 below0 :=
  ⟨lists_1, trivial, launch0.admits_env _ _ _, launch0.least_env, fairChoices_fair.cas, fairChoices_fair.clock, w_frames, w_args, w_heap, w_applies, trivial, trivial, w_case⟩
end start1
theorem witness_1 : WitnessClaimed_1 := ⟨start1.p0, start1.e0, start1.about1, start1.theMethod, start1.args0, start1.below0, start1.atStart⟩
end Jvm.Pilot.@@N@@
