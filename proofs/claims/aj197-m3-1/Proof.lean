import JvmDerived
import JvmDerived.Pilot.@@N@@Statement
import JvmDerived.Pilot.@@N@@Code
set_option linter.unusedVariables false
set_option linter.unusedSimpArgs false
namespace Jvm.RoadKit
open Sem ClassFile Op Lib Jvm.Stand Jvm.Free Jvm.LawKit
section New
variable {p : Program} {l : Launch} {e : Env} {R : Room} {s : State} {m : MethodId} {args : Array Value} {below : List Frame} {meth : Method} {c : Code} {T : State} {locs : List Loc} {cells slots : Nat}
theorem retI (X : Stand p l e R s m args below meth c T locs cells slots) (hx : p.tables.exec = Jvm.exec) {pc : Nat} {Ls : Array Slot} {z : Int32} {rest : List Value} (hret : meth.sig.returnType = some .int) (hd : decode c.code pc = .ok (.ireturn, 1)) {fs : List Frame}
    (hl : ∀ (f : JFrame) (acts : List Action), f.method = m → f.locked = none → f.entered = [] → (doReturn e (T.setTop f) acts (some (.int z))).1 = T.setFrames fs) : Steps p.tables e below (T.setTop (mkF m pc Ls (.int z :: rest))) (T.setFrames fs) := by
  have hm' : T.vm.method? m = some meth := X.method'
  have hn : narrow .int (.int z) = .int z := rfl
  show Steps p.tables e below (T.setTop { method := m, pc := pc, locals := Ls, stack := _ :: rest, locked := none }) _
  jvm_step X.here [X.here.top, hx, hd, hm', hret, hn]
  first | (intro acts; rw [hl _ acts rfl rfl rfl]) | rw [hl _ _ rfl rfl rfl]
  exact Steps.refl _
end New
end Jvm.RoadKit
namespace Jvm.Pilot.@@N@@
open Jvm Jvm.ClassFile Sem Op Lib Jvm.Free Jvm.Stand Jvm.LawKit Jvm.RoadKit Bundle Jvm.Pilot.@@N@@.Jvm.D
/-- from the state A this body's run ends in a return that Qp speaks of -/
def own_Ends (p : Program) (e : Env) (below : List Frame) (s : State) (k n : Nat) (Qp : Option Value → Heap → List Loc → Prop) (A : State) : Prop :=
  ∃ s₂ o, Steps p.tables e below A s₂ ∧ s₂.status = .running ∧ Ended s₂ below o ∧ ∃ v L, o = .returned v ∧ Qp v s₂.heap L ∧ FrameEnd s o s₂ L k n
theorem own_pre {p : Program} {e : Env} {below : List Frame} {s : State} {k n : Nat} {Qp : Option Value → Heap → List Loc → Prop} {A B : State} (hs : ∀ t, Steps p.tables e below B t → Steps p.tables e below A t) (h : own_Ends p e below s k n Qp B) : own_Ends p e below s k n Qp A := by
  obtain ⟨s₂, o, h1, h2⟩ := h
  exact ⟨s₂, o, hs _ h1, h2⟩
theorem own_fin {p : Program} {l : Launch} {e : Env} {R : Room} {s : State} {m : MethodId} {args : Array Value} {below : List Frame} {meth : Method} {c : Code} {T : State} {locs : List Loc} {cells slots k n : Nat} {Qp : Option Value → Heap → List Loc → Prop} {h : Heap} {F : JFrame}
    (X : Stand p l e R s m args below meth c T locs cells slots) (v : Option Value) (hv : meth.sig.returnType = none → v = none) (hlocks : meth.locks = false) (hh : T.heap = h)
    (hs : ∀ fs : List Frame, (∀ (f : JFrame) (acts : List Action), f.method = m → f.locked = none → f.entered = [] → (doReturn e (T.setTop f) acts v).1 = T.setFrames fs) → Steps p.tables e below (T.setTop F) (T.setFrames fs))
    (hQ : Qp v h locs) (hc : cells ≤ k) (hn : slots ≤ n) : own_Ends p e below s k n Qp (T.setTop F) := by
  obtain ⟨fs, hr, hrun, hended, hW, hsame⟩ := X.leave hv hlocks
  subst hh
  exact ⟨_, _, hs fs hr, hrun, hended, _, _, rfl, hQ, ⟨_, rfl⟩, hW, hsame.mono hc hn⟩
/-- the same, where the walk has loaded String constants: the wide end -/
def own_EndsW (p : Program) (e : Env) (below : List Frame) (s : State) (k n : Nat) (Qp : Option Value → Heap → List Loc → Prop) (A : State) : Prop :=
  ∃ s₂ o, Steps p.tables e below A s₂ ∧ s₂.status = .running ∧ Ended s₂ below o ∧ ∃ v L, o = .returned v ∧ Qp v s₂.heap L ∧ ReturnedEndW s o s₂ L k n
theorem own_preW {p : Program} {e : Env} {below : List Frame} {s : State} {k n : Nat} {Qp : Option Value → Heap → List Loc → Prop} {A B : State} (hs : ∀ t, Steps p.tables e below B t → Steps p.tables e below A t) (h : own_EndsW p e below s k n Qp B) : own_EndsW p e below s k n Qp A := by
  obtain ⟨s₂, o, h1, h2⟩ := h
  exact ⟨s₂, o, hs _ h1, h2⟩
theorem own_finW {p : Program} {l : Launch} {e : Env} {R : Room} {s : State} {vm₁ : Vm} {m : MethodId} {args : Array Value} {below : List Frame} {meth : Method} {c : Code} {T : State} {locs : List Loc} {cells slots k n k1 : Nat} {Qp : Option Value → Heap → List Loc → Prop} {h : Heap} {F : JFrame}
    (X : Stand p l e R (s.setVm vm₁) m args below meth c T locs cells slots) (hS : s.Since vm₁ k1) (v : Option Value) (hv : meth.sig.returnType = none → v = none) (hlocks : meth.locks = false) (hh : T.heap = h) (hk1 : k1 ≤ h.size)
    (hs : ∀ fs : List Frame, (∀ (f : JFrame) (acts : List Action), f.method = m → f.locked = none → f.entered = [] → (doReturn e (T.setTop f) acts v).1 = T.setFrames fs) → Steps p.tables e below (T.setTop F) (T.setFrames fs))
    (hQ : Qp v h locs) (hc : cells ≤ k) (hn : slots ≤ n) : own_EndsW p e below s k n Qp (T.setTop F) := by
  subst hh
  obtain ⟨fs, hr, hrun, hended, h1, h2, h3, h4⟩ := X.leaveW hS hk1 hv hlocks
  exact ⟨_, _, hs fs hr, hrun, hended, _, _, rfl, hQ, h1, h2, h3, h4.mono hc hn⟩
theorem d1_0 : decode method_2_code 0 = .ok (.iload_n 0, 1) := by decide +kernel
theorem d1_1 : decode method_2_code 1 = .ok (.ifCond .ne 7, 3) := by decide +kernel
theorem d1_4 : decode method_2_code 4 = .ok (.getstatic 7, 3) := by decide +kernel
theorem d1_7 : decode method_2_code 7 = .ok (.areturn, 1) := by decide +kernel
theorem d1_8 : decode method_2_code 8 = .ok (.iload_n 0, 1) := by decide +kernel
theorem d1_9 : decode method_2_code 9 = .ok (.iconst 1, 1) := by decide +kernel
theorem d1_10 : decode method_2_code 10 = .ok (.if_icmp .ne 7, 3) := by decide +kernel
theorem d1_13 : decode method_2_code 13 = .ok (.getstatic 13, 3) := by decide +kernel
theorem d1_16 : decode method_2_code 16 = .ok (.areturn, 1) := by decide +kernel
theorem d1_17 : decode method_2_code 17 = .ok (.iload_n 0, 1) := by decide +kernel
theorem d1_18 : decode method_2_code 18 = .ok (.iconst 2, 1) := by decide +kernel
theorem d1_19 : decode method_2_code 19 = .ok (.if_icmp .ne 7, 3) := by decide +kernel
theorem d1_22 : decode method_2_code 22 = .ok (.getstatic 16, 3) := by decide +kernel
theorem d1_25 : decode method_2_code 25 = .ok (.areturn, 1) := by decide +kernel
theorem d1_26 : decode method_2_code 26 = .ok (.getstatic 19, 3) := by decide +kernel
theorem d1_29 : decode method_2_code 29 = .ok (.areturn, 1) := by decide +kernel
theorem d2_0 : decode prog_90_method_7_code 0 = .ok (.aload_n 0, 1) := by decide +kernel
theorem d2_1 : decode prog_90_method_7_code 1 = .ok (.getstatic 3, 3) := by decide +kernel
theorem d2_4 : decode prog_90_method_7_code 4 = .ok (.if_acmp .eq 10, 3) := by decide +kernel
theorem d2_7 : decode prog_90_method_7_code 7 = .ok (.aload_n 0, 1) := by decide +kernel
theorem d2_8 : decode prog_90_method_7_code 8 = .ok (.getstatic 7, 3) := by decide +kernel
theorem d2_11 : decode prog_90_method_7_code 11 = .ok (.if_acmp .ne 7, 3) := by decide +kernel
theorem d2_14 : decode prog_90_method_7_code 14 = .ok (.iconst 1, 1) := by decide +kernel
theorem d2_15 : decode prog_90_method_7_code 15 = .ok (.goto 4, 3) := by decide +kernel
theorem d2_18 : decode prog_90_method_7_code 18 = .ok (.iconst 0, 1) := by decide +kernel
theorem d2_19 : decode prog_90_method_7_code 19 = .ok (.ireturn, 1) := by decide +kernel
theorem d3_0 : decode prog_90_method_5_code 0 = .ok (.aload_n 0, 1) := by decide +kernel
theorem d3_1 : decode prog_90_method_5_code 1 = .ok (.getfield 39, 3) := by decide +kernel
theorem d3_4 : decode prog_90_method_5_code 4 = .ok (.areturn, 1) := by decide +kernel
theorem d4_0 : decode jdk_42_method_66_code 0 = .ok (.aload_n 0, 1) := by decide +kernel
theorem d4_1 : decode jdk_42_method_66_code 1 = .ok (.aload_n 1, 1) := by decide +kernel
theorem d4_2 : decode jdk_42_method_66_code 2 = .ok (.if_acmp .ne 5, 3) := by decide +kernel
theorem d4_5 : decode jdk_42_method_66_code 5 = .ok (.iconst 1, 1) := by decide +kernel
theorem d4_6 : decode jdk_42_method_66_code 6 = .ok (.ireturn, 1) := by decide +kernel
theorem d4_7 : decode jdk_42_method_66_code 7 = .ok (.aload_n 1, 1) := by decide +kernel
theorem d4_8 : decode jdk_42_method_66_code 8 = .ok (.instanceof 10, 3) := by decide +kernel
theorem d4_11 : decode jdk_42_method_66_code 11 = .ok (.ifCond .eq 43, 3) := by decide +kernel
theorem d4_14 : decode jdk_42_method_66_code 14 = .ok (.aload_n 1, 1) := by decide +kernel
theorem d4_15 : decode jdk_42_method_66_code 15 = .ok (.checkcast 10, 3) := by decide +kernel
theorem d4_18 : decode jdk_42_method_66_code 18 = .ok (.astore_n 2, 1) := by decide +kernel
theorem d4_19 : decode jdk_42_method_66_code 19 = .ok (.getstatic 38, 3) := by decide +kernel
theorem d4_22 : decode jdk_42_method_66_code 22 = .ok (.ifCond .eq 14, 3) := by decide +kernel
theorem d4_25 : decode jdk_42_method_66_code 25 = .ok (.aload_n 0, 1) := by decide +kernel
theorem d4_26 : decode jdk_42_method_66_code 26 = .ok (.getfield 15, 3) := by decide +kernel
theorem d4_29 : decode jdk_42_method_66_code 29 = .ok (.aload_n 2, 1) := by decide +kernel
theorem d4_30 : decode jdk_42_method_66_code 30 = .ok (.getfield 15, 3) := by decide +kernel
theorem d4_33 : decode jdk_42_method_66_code 33 = .ok (.if_icmp .ne 21, 3) := by decide +kernel
theorem d4_36 : decode jdk_42_method_66_code 36 = .ok (.aload_n 0, 1) := by decide +kernel
theorem d4_37 : decode jdk_42_method_66_code 37 = .ok (.getfield 9, 3) := by decide +kernel
theorem d4_40 : decode jdk_42_method_66_code 40 = .ok (.aload_n 2, 1) := by decide +kernel
theorem d4_41 : decode jdk_42_method_66_code 41 = .ok (.getfield 9, 3) := by decide +kernel
theorem d4_44 : decode jdk_42_method_66_code 44 = .ok (.invokestatic 541, 3) := by decide +kernel
theorem d4_47 : decode jdk_42_method_66_code 47 = .ok (.ifCond .eq 7, 3) := by decide +kernel
theorem d4_50 : decode jdk_42_method_66_code 50 = .ok (.iconst 1, 1) := by decide +kernel
theorem d4_51 : decode jdk_42_method_66_code 51 = .ok (.goto 4, 3) := by decide +kernel
theorem d4_54 : decode jdk_42_method_66_code 54 = .ok (.iconst 0, 1) := by decide +kernel
theorem d4_55 : decode jdk_42_method_66_code 55 = .ok (.ireturn, 1) := by decide +kernel
theorem d5_0 : decode jdk_43_method_13_code 0 = .ok (.aload_n 0, 1) := by decide +kernel
theorem d5_1 : decode jdk_43_method_13_code 1 = .ok (.arraylength, 1) := by decide +kernel
theorem d5_2 : decode jdk_43_method_13_code 2 = .ok (.aload_n 1, 1) := by decide +kernel
theorem d5_3 : decode jdk_43_method_13_code 3 = .ok (.arraylength, 1) := by decide +kernel
theorem d5_4 : decode jdk_43_method_13_code 4 = .ok (.if_icmp .ne 30, 3) := by decide +kernel
theorem d5_7 : decode jdk_43_method_13_code 7 = .ok (.iconst 0, 1) := by decide +kernel
theorem d5_8 : decode jdk_43_method_13_code 8 = .ok (.istore_n 2, 1) := by decide +kernel
theorem d5_9 : decode jdk_43_method_13_code 9 = .ok (.iload_n 2, 1) := by decide +kernel
theorem d5_10 : decode jdk_43_method_13_code 10 = .ok (.aload_n 0, 1) := by decide +kernel
theorem d5_11 : decode jdk_43_method_13_code 11 = .ok (.arraylength, 1) := by decide +kernel
theorem d5_12 : decode jdk_43_method_13_code 12 = .ok (.if_icmp .ge 20, 3) := by decide +kernel
theorem d5_15 : decode jdk_43_method_13_code 15 = .ok (.aload_n 0, 1) := by decide +kernel
theorem d5_16 : decode jdk_43_method_13_code 16 = .ok (.iload_n 2, 1) := by decide +kernel
theorem d5_17 : decode jdk_43_method_13_code 17 = .ok (.baload, 1) := by decide +kernel
theorem d5_18 : decode jdk_43_method_13_code 18 = .ok (.aload_n 1, 1) := by decide +kernel
theorem d5_19 : decode jdk_43_method_13_code 19 = .ok (.iload_n 2, 1) := by decide +kernel
theorem d5_20 : decode jdk_43_method_13_code 20 = .ok (.baload, 1) := by decide +kernel
theorem d5_21 : decode jdk_43_method_13_code 21 = .ok (.if_icmp .eq 5, 3) := by decide +kernel
theorem d5_24 : decode jdk_43_method_13_code 24 = .ok (.iconst 0, 1) := by decide +kernel
theorem d5_25 : decode jdk_43_method_13_code 25 = .ok (.ireturn, 1) := by decide +kernel
theorem d5_26 : decode jdk_43_method_13_code 26 = .ok (.iinc 2 1, 3) := by decide +kernel
theorem d5_29 : decode jdk_43_method_13_code 29 = .ok (.goto (-20), 3) := by decide +kernel
theorem d5_32 : decode jdk_43_method_13_code 32 = .ok (.iconst 1, 1) := by decide +kernel
theorem d5_33 : decode jdk_43_method_13_code 33 = .ok (.ireturn, 1) := by decide +kernel
theorem d5_34 : decode jdk_43_method_13_code 34 = .ok (.iconst 0, 1) := by decide +kernel
theorem d5_35 : decode jdk_43_method_13_code 35 = .ok (.ireturn, 1) := by decide +kernel
theorem pn_0 : plainName "com/example/wattlebird/wattlebird/UnitPerEnergyPinLaw" = true := by first | (simp [plainName, overriddenIn]; done) | decide +kernel
theorem pn_1 : plainName "com/example/wattlebird/wattlebird/UnitPerEnergyPinLaw" = true := by first | (simp [plainName, overriddenIn]; done) | decide +kernel
theorem pn_2 : plainName "com/example/wattlebird/wattlebird/Unit" = true := by first | (simp [plainName, overriddenIn]; done) | decide +kernel
theorem pn_3 : plainName "com/example/wattlebird/wattlebird/Unit" = true := by first | (simp [plainName, overriddenIn]; done) | decide +kernel
theorem pn_4 : plainName "java/lang/String" = true := by first | (simp [plainName, overriddenIn]; done) | decide +kernel
theorem pn_5 : plainName "java/lang/StringLatin1" = true := by first | (simp [plainName, overriddenIn]; done) | decide +kernel
theorem pd_0 : parseMethodDescriptor "(I)Lcom/example/wattlebird/wattlebird/Unit;" = some ⟨[.int], some (.object "com/example/wattlebird/wattlebird/Unit")⟩ := by decide +kernel
theorem pd_1 : parseMethodDescriptor "()Z" = some ⟨[], some .boolean⟩ := by decide +kernel
theorem pd_2 : parseMethodDescriptor "()Ljava/lang/String;" = some ⟨[], some (.object "java/lang/String")⟩ := by decide +kernel
theorem pd_3 : parseMethodDescriptor "(Ljava/lang/Object;)Z" = some ⟨[(.object "java/lang/Object")], some .boolean⟩ := by decide +kernel
theorem pd_4 : parseMethodDescriptor "([B[B)Z" = some ⟨[(.array .byte), (.array .byte)], some .boolean⟩ := by decide +kernel
theorem own_k (p1 : Int32) : (p1 &&& (3 : Int32)) = 0 ∨ (p1 &&& (3 : Int32)) = 1 ∨ (p1 &&& (3 : Int32)) = 2 ∨ (p1 &&& (3 : Int32)) = 3 := by
  have e := c_mask p1 3 2 (by decide) (by decide)
  have e0 : (0 : Int32).toInt = 0 := by decide
  have e1 : (1 : Int32).toInt = 1 := by decide
  have e2 : (2 : Int32).toInt = 2 := by decide
  have e3 : (3 : Int32).toInt = 3 := by decide
  simp only [← Int32.toInt_inj, e0, e1, e2, e3]
  omega
theorem own_eqi {args : Array Value} {s : State} {t : Term} {k : Int32} (h : (Jvm.Cond.eq t (Term.int k)).value args s none s [] = some true) : t.eval args s none [] s = some (.int k) := by
  obtain ⟨x, y, e1, e2, q1, q2⟩ := cmp_v (Or.inl h)
  cases e2.symm.trans (Term.int_eval k)
  obtain ⟨z, rfl⟩ := q2
  rw [e1, gotT (Cond.eq_ints e1 (Term.int_eval k)) h]
theorem own_len {args : Array Value} {s : State} {t : Term} {a : Addr} {c : Cell} {ty : FieldType} {k : Int32} (ev : t.eval args s none [] s = some (.ref a)) (h : (Jvm.Cond.eq (Term.length t) (Term.int k)).value args s none s [] = some true) (A : Arr s s.heap a c ty) : c.slots.size < 2 ^ 31 ∧ c.slots.size.toInt32 = k := by
  have q := own_eqi h
  have ha : s.arrayAt? a = some c := A.fin (Vm.Alike.refl _)
  by_cases hl : c.slots.size < 2 ^ 31
  · have e := len_f ev ha hl
    rw [e] at q
    exact ⟨hl, by injection q with q; injection q⟩
  · simp [Term.eval, ev, ha, hl] at q
theorem own_elem {args : Array Value} {s : State} {t : Term} {a : Addr} {c : Cell} {ty : FieldType} {j k : Int32} (ev : t.eval args s none [] s = some (.ref a)) (h : (Jvm.Cond.eq (Term.elem t (Term.int j)) (Term.int k)).value args s none s [] = some true) (A : Arr s s.heap a c ty) {i : Nat} (hi : j.toNatClampNeg = i) : c.slots[i]? = some (.int k) := by
  subst hi
  exact (elem_in (own_eqi h) ev (Term.int_eval j) A.1).2
theorem own_ht_kWh : (∀ c ∈ "kWh".toList, c.toNat < 256) ∧ "kWh".toList.map (fun c => Value.int (Jvm.Lit.byteI c.toNat.toUInt16)) = [(.int (107 : Int32)), (.int (87 : Int32)), (.int (104 : Int32))] := ⟨by decide, by decide⟩
theorem own_ht_MWh : (∀ c ∈ "MWh".toList, c.toNat < 256) ∧ "MWh".toList.map (fun c => Value.int (Jvm.Lit.byteI c.toNat.toUInt16)) = [(.int (77 : Int32)), (.int (87 : Int32)), (.int (104 : Int32))] := ⟨by decide, by decide⟩
theorem own_arvne {Z : State} {h : Heap} {a b : Addr} {k k' : ClassId} {ty ty' : FieldType} {n n' : Int32} {vs vs' : List Value} {d d' : Value} (F : Arv Z h a k ty n vs d) (G : Arv Z h b k' ty' n' vs' d') (q : ¬ (n = n') ∨ ∃ i, i < n.toNatClampNeg ∧ ¬ (vs.getD i d = vs'.getD i d')) : ¬ (a = b) := fun e => by
  subst e
  obtain ⟨c, A, -, S, P, H, -⟩ := F
  obtain ⟨c', A', -, S', P', H', -⟩ := G
  cases A.1.symm.trans A'.1
  rcases q with q | ⟨i, hi, q⟩
  · exact q ((len_of S P).symm.trans (len_of S' P'))
  · have h1 := H i (S ▸ hi)
    have h2 := H' i (S ▸ hi)
    exact q (Option.some.inj (h1.symm.trans h2))
theorem ef_1_0 (m : MethodId)  : entryFrame m #[(.int (0 : Int32))] 1 = mkF m 0 #[.val (.int (0 : Int32))] [] := by first | (simp [entryFrame, mkF, argsToLocals, Value.category]; done) | rfl
def Q1_0 (Z : State) (u0 u1 u2 u3 : Addr) (h0 : Heap) (n0 : Nat) (v : Option Value) (h : Heap) (L : List Loc) : Prop := v = some (.ref u0) ∧ Fr n0 L ∧ h = h0
set_option maxRecDepth 65536 in
set_option maxHeartbeats 40000000 in
theorem rm1_0 (l : Launch) (Z : State) (a0 : Array Value) (hw : ∀ d ∈ tables_1, d.before a0 Z = true) (ws : List Jvm.Cond) (u0 u1 u2 u3 : Addr) (h0 : Heap) (n0 : Nat) (Z0 : n0 ≤ h0.size) (S_0 : Sta Z Z.heap "com/example/wattlebird/wattlebird/Unit" "PER_KWH" "Lcom/example/wattlebird/wattlebird/Unit;" (.ref u0)) (S_1 : Sta Z Z.heap "com/example/wattlebird/wattlebird/Unit" "PER_MWH" "Lcom/example/wattlebird/wattlebird/Unit;" (.ref u1)) (S_2 : Sta Z Z.heap "com/example/wattlebird/wattlebird/Unit" "PER_MONTH" "Lcom/example/wattlebird/wattlebird/Unit;" (.ref u2)) (S_3 : Sta Z Z.heap "com/example/wattlebird/wattlebird/Unit" "PER_KW_MONTH" "Lcom/example/wattlebird/wattlebird/Unit;" (.ref u3)) (X00 : Old Z n0 h0) :
    MetFree l (⟨"com/example/wattlebird/wattlebird/UnitPerEnergyPinLaw", "pick", "(I)Lcom/example/wattlebird/wattlebird/Unit;"⟩ : MethodName) (head1 (Jvm.Cond.code (⟨"com/example/wattlebird/wattlebird/UnitPerEnergyPinLaw", "pick", "(I)Lcom/example/wattlebird/wattlebird/Unit;"⟩ : MethodName) method_2_code 1 (some (.object "com/example/wattlebird/wattlebird/Unit")) :: ws) ({ frames := 0, cells := 0, slots := 0, locals := 0 } : Room)) (fun a U => a = #[(.int (0 : Int32))] ∧ Z.Warmed39 U.vm ∧ U.heap = h0) (fun _ _ _ _ _ => True) (fun _ U o U' => ∃ v L, o = .returned v ∧ Q1_0 Z u0 u1 u2 u3 h0 n0 v U'.heap L ∧ FrameEnd U o U' L ({ frames := 0, cells := 0, slots := 0, locals := 0 } : Room).cells ({ frames := 0, cells := 0, slots := 0, locals := 0 } : Room).slots) := by
  refine MetFree.of_bodySF (plainFor_of_name pn_1) hisR ?_
  intro p e s m args below meth c s₁ Bd hml0 hP hK
  obtain ⟨rfl, hZ, hh⟩ := hP
  have hx := Bd.exec
  have hby := Bd.bytes
  have hml : c.maxLocals = 1 := hml0
  have hown : s.vm.findClass "com/example/wattlebird/wattlebird/UnitPerEnergyPinLaw" = some m.cls := findClass_of_methodNamed Bd.named
  have hnm := (name_of_methodNamed Bd.named Bd.method).1
  have X0 : Stand p l e ({ frames := 0, cells := 0, slots := 0, locals := 0 } : Room) s m #[(.int (0 : Int32))] below meth c s₁ [] 0 0 := Stand.of_body Bd
  have e0 : s₁.heap = h0 := by rw [← hh, Bd.state]; rfl
  have N0 := Fr.nil n0
  show own_Ends p e below s ({ frames := 0, cells := 0, slots := 0, locals := 0 } : Room).cells ({ frames := 0, cells := 0, slots := 0, locals := 0 } : Room).slots (Q1_0 Z u0 u1 u2 u3 h0 n0) (s₁.setTop (entryFrame m #[(.int (0 : Int32))] 1))
  rw [ef_1_0 m ]
  refine own_pre (B := (s₁.setTop (mkF m 4 #[.val (.int (0 : Int32))] []))) (fun t kt => ?_) ?_
  · show Steps p.tables e below (s₁.setTop (mkF m 0 _ [])) _
    refine XS.iloadN X0.here hx rfl (hb hby d1_0) rfl ?_
    show Steps p.tables e below (s₁.setTop (mkF m 1 _ [(.int (0 : Int32))])) _
    refine XS.ifNo X0.here hx rfl (hb hby d1_1) rfl ((if0 _ _).trans (teq (rfl : (0 : Int32) = (0 : Int32))).2) ?_
    exact kt
  obtain ⟨T1, X1, e1, st1⟩ := getS2 X0 hx hZ hown (host := "") (Or.inl (hw _ (List.mem_of_getElem? (i := 4) rfl))) Via.refl e0 (S_0.ext X00.2) (g := (mkF m 4 #[.val (.int (0 : Int32))] [])) rfl (hb hby d1_4)
  refine own_pre (B := (T1.setTop (mkF m 7 #[.val (.int (0 : Int32))] [(.ref u0)]))) (fun t kt => ?_) ?_
  · show Steps p.tables e below (s₁.setTop (mkF m 4 _ [])) _
    refine st1 _ ?_
    exact kt
  exact own_fin X1 (some (.ref u0)) (fun h => by rw [Bd.returns] at h; cases h) (BodyLoose.notSynchronized Bd) e1 (fun fs hr => retOut X1 hx (t := (.object "com/example/wattlebird/wattlebird/Unit")) (i := .areturn) (w := (.ref u0)) Bd.returns rfl (Or.inr (Or.inr (Or.inr (Or.inr ⟨rfl, rfl, rfl⟩)))) (hb hby d1_7) hr) ⟨rfl, N0, rfl⟩ (by decide) (by decide)
theorem ef_2_0 (m : MethodId) (x0 : Addr) : entryFrame m #[(.ref x0)] 1 = mkF m 0 #[.val (.ref x0)] [] := by first | (simp [entryFrame, mkF, argsToLocals, Value.category]; done) | rfl
def Q2_0 (Z : State) (u0 u1 : Addr) (h0 : Heap) (n0 : Nat) (v : Option Value) (h : Heap) (L : List Loc) : Prop := v = some (.int 1) ∧ Fr n0 L ∧ h = h0
set_option maxRecDepth 65536 in
set_option maxHeartbeats 40000000 in
theorem rm2_0 (l : Launch) (Z : State) (a0 : Array Value) (hw : ∀ d ∈ tables_1, d.before a0 Z = true) (ws : List Jvm.Cond) (u0 u1 : Addr) (h0 : Heap) (n0 : Nat) (Z0 : n0 ≤ h0.size) (S_0 : Sta Z Z.heap "com/example/wattlebird/wattlebird/Unit" "PER_KWH" "Lcom/example/wattlebird/wattlebird/Unit;" (.ref u0)) (S_1 : Sta Z Z.heap "com/example/wattlebird/wattlebird/Unit" "PER_MWH" "Lcom/example/wattlebird/wattlebird/Unit;" (.ref u1)) (X00 : Old Z n0 h0) (m1 : ¬ (u0 = u1)) :
    MetFree l (⟨"com/example/wattlebird/wattlebird/Unit", "perEnergy", "()Z"⟩ : MethodName) (head1 (Jvm.Cond.code (⟨"com/example/wattlebird/wattlebird/Unit", "perEnergy", "()Z"⟩ : MethodName) prog_90_method_7_code 1 (some .boolean) :: ws) ({ frames := 0, cells := 0, slots := 0, locals := 0 } : Room)) (fun a U => a = #[(.ref u0)] ∧ Z.Warmed39 U.vm ∧ U.heap = h0) (fun _ _ _ _ _ => True) (fun _ U o U' => ∃ v L, o = .returned v ∧ Q2_0 Z u0 u1 h0 n0 v U'.heap L ∧ FrameEnd U o U' L ({ frames := 0, cells := 0, slots := 0, locals := 0 } : Room).cells ({ frames := 0, cells := 0, slots := 0, locals := 0 } : Room).slots) := by
  refine MetFree.of_bodySF (plainFor_of_name pn_2) hisR ?_
  intro p e s m args below meth c s₁ Bd hml0 hP hK
  obtain ⟨rfl, hZ, hh⟩ := hP
  have hx := Bd.exec
  have hby := Bd.bytes
  have hml : c.maxLocals = 1 := hml0
  have hown : s.vm.findClass "com/example/wattlebird/wattlebird/Unit" = some m.cls := findClass_of_methodNamed Bd.named
  have hnm := (name_of_methodNamed Bd.named Bd.method).1
  have X0 : Stand p l e ({ frames := 0, cells := 0, slots := 0, locals := 0 } : Room) s m #[(.ref u0)] below meth c s₁ [] 0 0 := Stand.of_body Bd
  have e0 : s₁.heap = h0 := by rw [← hh, Bd.state]; rfl
  have N0 := Fr.nil n0
  show own_Ends p e below s ({ frames := 0, cells := 0, slots := 0, locals := 0 } : Room).cells ({ frames := 0, cells := 0, slots := 0, locals := 0 } : Room).slots (Q2_0 Z u0 u1 h0 n0) (s₁.setTop (entryFrame m #[(.ref u0)] 1))
  rw [ef_2_0 m u0]
  refine own_pre (B := (s₁.setTop (mkF m 1 #[.val (.ref u0)] [(.ref u0)]))) (fun t kt => ?_) ?_
  · show Steps p.tables e below (s₁.setTop (mkF m 0 _ [])) _
    refine XS.aloadN X0.here hx rfl (hb hby d2_0) rfl rfl ?_
    exact kt
  obtain ⟨T1, X1, e1, st1⟩ := getS2 X0 hx hZ hown (host := "") (Or.inl (hw _ (List.mem_of_getElem? (i := 12) rfl))) Via.refl e0 (S_0.ext X00.2) (g := (mkF m 1 #[.val (.ref u0)] [(.ref u0)])) rfl (hb hby d2_1)
  refine own_pre (B := (T1.setTop (mkF m 4 #[.val (.ref u0)] [(.ref u0), (.ref u0)]))) (fun t kt => ?_) ?_
  · show Steps p.tables e below (s₁.setTop (mkF m 1 _ [(.ref u0)])) _
    refine st1 _ ?_
    exact kt
  refine own_pre (B := (T1.setTop (mkF m 19 #[.val (.ref u0)] [(.int (1 : Int32))]))) (fun t kt => ?_) ?_
  · show Steps p.tables e below (T1.setTop (mkF m 4 _ [(.ref u0), (.ref u0)])) _
    refine Jvm.RoadKit.acmp (g := (mkF m 4 #[.val (.ref u0)] [(.ref u0), (.ref u0)])) X1 hx rfl rfl rfl (pc0 := 4) (pc' := 14) (same := true) rfl (hb hby d2_4) rfl (decide_eq_true (congrArg Value.ref rfl)) (by decide) (by decide) ?_
    show Steps p.tables e below (T1.setTop (mkF m 14 _ [])) _
    refine XS.iconst X1.here hx rfl (hb hby d2_14) ?_
    show Steps p.tables e below (T1.setTop (mkF m 15 _ [(.int (1 : Int32))])) _
    refine XS.goto X1.here hx rfl (pc0 := 15) (pc' := 19) rfl (hb hby d2_15) (by decide) (by decide) ?_
    exact kt
  exact own_fin X1 (some (.int (1 : Int32))) (fun h => by rw [Bd.returns] at h; cases h) (BodyLoose.notSynchronized Bd) e1 (fun fs hr => retN X1 hx (t := .boolean) Bd.returns (by simp) (hb hby d2_19) hr) ⟨rfl, N0, rfl⟩ (by decide) (by decide)
theorem ef_1_1 (m : MethodId)  : entryFrame m #[(.int (1 : Int32))] 1 = mkF m 0 #[.val (.int (1 : Int32))] [] := by first | (simp [entryFrame, mkF, argsToLocals, Value.category]; done) | rfl
def Q1_1 (Z : State) (u0 u1 u2 u3 : Addr) (h0 : Heap) (n0 : Nat) (v : Option Value) (h : Heap) (L : List Loc) : Prop := v = some (.ref u1) ∧ Fr n0 L ∧ h = h0
set_option maxRecDepth 65536 in
set_option maxHeartbeats 40000000 in
theorem rm1_1 (l : Launch) (Z : State) (a0 : Array Value) (hw : ∀ d ∈ tables_1, d.before a0 Z = true) (ws : List Jvm.Cond) (u0 u1 u2 u3 : Addr) (h0 : Heap) (n0 : Nat) (Z0 : n0 ≤ h0.size) (S_0 : Sta Z Z.heap "com/example/wattlebird/wattlebird/Unit" "PER_KWH" "Lcom/example/wattlebird/wattlebird/Unit;" (.ref u0)) (S_1 : Sta Z Z.heap "com/example/wattlebird/wattlebird/Unit" "PER_MWH" "Lcom/example/wattlebird/wattlebird/Unit;" (.ref u1)) (S_2 : Sta Z Z.heap "com/example/wattlebird/wattlebird/Unit" "PER_MONTH" "Lcom/example/wattlebird/wattlebird/Unit;" (.ref u2)) (S_3 : Sta Z Z.heap "com/example/wattlebird/wattlebird/Unit" "PER_KW_MONTH" "Lcom/example/wattlebird/wattlebird/Unit;" (.ref u3)) (X00 : Old Z n0 h0) :
    MetFree l (⟨"com/example/wattlebird/wattlebird/UnitPerEnergyPinLaw", "pick", "(I)Lcom/example/wattlebird/wattlebird/Unit;"⟩ : MethodName) (head1 (Jvm.Cond.code (⟨"com/example/wattlebird/wattlebird/UnitPerEnergyPinLaw", "pick", "(I)Lcom/example/wattlebird/wattlebird/Unit;"⟩ : MethodName) method_2_code 1 (some (.object "com/example/wattlebird/wattlebird/Unit")) :: ws) ({ frames := 0, cells := 0, slots := 0, locals := 0 } : Room)) (fun a U => a = #[(.int (1 : Int32))] ∧ Z.Warmed39 U.vm ∧ U.heap = h0) (fun _ _ _ _ _ => True) (fun _ U o U' => ∃ v L, o = .returned v ∧ Q1_1 Z u0 u1 u2 u3 h0 n0 v U'.heap L ∧ FrameEnd U o U' L ({ frames := 0, cells := 0, slots := 0, locals := 0 } : Room).cells ({ frames := 0, cells := 0, slots := 0, locals := 0 } : Room).slots) := by
  refine MetFree.of_bodySF (plainFor_of_name pn_1) hisR ?_
  intro p e s m args below meth c s₁ Bd hml0 hP hK
  obtain ⟨rfl, hZ, hh⟩ := hP
  have hx := Bd.exec
  have hby := Bd.bytes
  have hml : c.maxLocals = 1 := hml0
  have hown : s.vm.findClass "com/example/wattlebird/wattlebird/UnitPerEnergyPinLaw" = some m.cls := findClass_of_methodNamed Bd.named
  have hnm := (name_of_methodNamed Bd.named Bd.method).1
  have X0 : Stand p l e ({ frames := 0, cells := 0, slots := 0, locals := 0 } : Room) s m #[(.int (1 : Int32))] below meth c s₁ [] 0 0 := Stand.of_body Bd
  have e0 : s₁.heap = h0 := by rw [← hh, Bd.state]; rfl
  have N0 := Fr.nil n0
  show own_Ends p e below s ({ frames := 0, cells := 0, slots := 0, locals := 0 } : Room).cells ({ frames := 0, cells := 0, slots := 0, locals := 0 } : Room).slots (Q1_1 Z u0 u1 u2 u3 h0 n0) (s₁.setTop (entryFrame m #[(.int (1 : Int32))] 1))
  rw [ef_1_1 m ]
  refine own_pre (B := (s₁.setTop (mkF m 13 #[.val (.int (1 : Int32))] []))) (fun t kt => ?_) ?_
  · show Steps p.tables e below (s₁.setTop (mkF m 0 _ [])) _
    refine XS.iloadN X0.here hx rfl (hb hby d1_0) rfl ?_
    show Steps p.tables e below (s₁.setTop (mkF m 1 _ [(.int (1 : Int32))])) _
    refine XS.ifYes X0.here hx rfl (pc0 := 1) (pc' := 8) rfl (hb hby d1_1) rfl ((if0 _ _).trans (feq ((by decide) : ¬ ((1 : Int32) = (0 : Int32)))).2) (by decide) (by decide) ?_
    show Steps p.tables e below (s₁.setTop (mkF m 8 _ [])) _
    refine XS.iloadN X0.here hx rfl (hb hby d1_8) rfl ?_
    show Steps p.tables e below (s₁.setTop (mkF m 9 _ [(.int (1 : Int32))])) _
    refine XS.iconst X0.here hx rfl (hb hby d1_9) ?_
    show Steps p.tables e below (s₁.setTop (mkF m 10 _ [(.int (1 : Int32)), (.int (1 : Int32))])) _
    refine XS.icmpNo X0.here hx rfl (hb hby d1_10) rfl (teq (rfl : (1 : Int32) = (1 : Int32))).2 ?_
    exact kt
  obtain ⟨T1, X1, e1, st1⟩ := getS2 X0 hx hZ hown (host := "") (Or.inl (hw _ (List.mem_of_getElem? (i := 49) rfl))) Via.refl e0 (S_1.ext X00.2) (g := (mkF m 13 #[.val (.int (1 : Int32))] [])) rfl (hb hby d1_13)
  refine own_pre (B := (T1.setTop (mkF m 16 #[.val (.int (1 : Int32))] [(.ref u1)]))) (fun t kt => ?_) ?_
  · show Steps p.tables e below (s₁.setTop (mkF m 13 _ [])) _
    refine st1 _ ?_
    exact kt
  exact own_fin X1 (some (.ref u1)) (fun h => by rw [Bd.returns] at h; cases h) (BodyLoose.notSynchronized Bd) e1 (fun fs hr => retOut X1 hx (t := (.object "com/example/wattlebird/wattlebird/Unit")) (i := .areturn) (w := (.ref u1)) Bd.returns rfl (Or.inr (Or.inr (Or.inr (Or.inr ⟨rfl, rfl, rfl⟩)))) (hb hby d1_16) hr) ⟨rfl, N0, rfl⟩ (by decide) (by decide)
theorem ef_2_1 (m : MethodId) (x0 : Addr) : entryFrame m #[(.ref x0)] 1 = mkF m 0 #[.val (.ref x0)] [] := by first | (simp [entryFrame, mkF, argsToLocals, Value.category]; done) | rfl
def Q2_1 (Z : State) (u0 u1 : Addr) (h0 : Heap) (n0 : Nat) (v : Option Value) (h : Heap) (L : List Loc) : Prop := v = some (.int 1) ∧ Fr n0 L ∧ h = h0
set_option maxRecDepth 65536 in
set_option maxHeartbeats 40000000 in
theorem rm2_1 (l : Launch) (Z : State) (a0 : Array Value) (hw : ∀ d ∈ tables_1, d.before a0 Z = true) (ws : List Jvm.Cond) (u0 u1 : Addr) (h0 : Heap) (n0 : Nat) (Z0 : n0 ≤ h0.size) (S_0 : Sta Z Z.heap "com/example/wattlebird/wattlebird/Unit" "PER_KWH" "Lcom/example/wattlebird/wattlebird/Unit;" (.ref u0)) (S_1 : Sta Z Z.heap "com/example/wattlebird/wattlebird/Unit" "PER_MWH" "Lcom/example/wattlebird/wattlebird/Unit;" (.ref u1)) (X00 : Old Z n0 h0) (m0 : ¬ (u1 = u0)) :
    MetFree l (⟨"com/example/wattlebird/wattlebird/Unit", "perEnergy", "()Z"⟩ : MethodName) (head1 (Jvm.Cond.code (⟨"com/example/wattlebird/wattlebird/Unit", "perEnergy", "()Z"⟩ : MethodName) prog_90_method_7_code 1 (some .boolean) :: ws) ({ frames := 0, cells := 0, slots := 0, locals := 0 } : Room)) (fun a U => a = #[(.ref u1)] ∧ Z.Warmed39 U.vm ∧ U.heap = h0) (fun _ _ _ _ _ => True) (fun _ U o U' => ∃ v L, o = .returned v ∧ Q2_1 Z u0 u1 h0 n0 v U'.heap L ∧ FrameEnd U o U' L ({ frames := 0, cells := 0, slots := 0, locals := 0 } : Room).cells ({ frames := 0, cells := 0, slots := 0, locals := 0 } : Room).slots) := by
  refine MetFree.of_bodySF (plainFor_of_name pn_2) hisR ?_
  intro p e s m args below meth c s₁ Bd hml0 hP hK
  obtain ⟨rfl, hZ, hh⟩ := hP
  have hx := Bd.exec
  have hby := Bd.bytes
  have hml : c.maxLocals = 1 := hml0
  have hown : s.vm.findClass "com/example/wattlebird/wattlebird/Unit" = some m.cls := findClass_of_methodNamed Bd.named
  have hnm := (name_of_methodNamed Bd.named Bd.method).1
  have X0 : Stand p l e ({ frames := 0, cells := 0, slots := 0, locals := 0 } : Room) s m #[(.ref u1)] below meth c s₁ [] 0 0 := Stand.of_body Bd
  have e0 : s₁.heap = h0 := by rw [← hh, Bd.state]; rfl
  have N0 := Fr.nil n0
  show own_Ends p e below s ({ frames := 0, cells := 0, slots := 0, locals := 0 } : Room).cells ({ frames := 0, cells := 0, slots := 0, locals := 0 } : Room).slots (Q2_1 Z u0 u1 h0 n0) (s₁.setTop (entryFrame m #[(.ref u1)] 1))
  rw [ef_2_1 m u1]
  refine own_pre (B := (s₁.setTop (mkF m 1 #[.val (.ref u1)] [(.ref u1)]))) (fun t kt => ?_) ?_
  · show Steps p.tables e below (s₁.setTop (mkF m 0 _ [])) _
    refine XS.aloadN X0.here hx rfl (hb hby d2_0) rfl rfl ?_
    exact kt
  obtain ⟨T1, X1, e1, st1⟩ := getS2 X0 hx hZ hown (host := "") (Or.inl (hw _ (List.mem_of_getElem? (i := 12) rfl))) Via.refl e0 (S_0.ext X00.2) (g := (mkF m 1 #[.val (.ref u1)] [(.ref u1)])) rfl (hb hby d2_1)
  refine own_pre (B := (T1.setTop (mkF m 4 #[.val (.ref u1)] [(.ref u0), (.ref u1)]))) (fun t kt => ?_) ?_
  · show Steps p.tables e below (s₁.setTop (mkF m 1 _ [(.ref u1)])) _
    refine st1 _ ?_
    exact kt
  refine own_pre (B := (T1.setTop (mkF m 8 #[.val (.ref u1)] [(.ref u1)]))) (fun t kt => ?_) ?_
  · show Steps p.tables e below (T1.setTop (mkF m 4 _ [(.ref u0), (.ref u1)])) _
    refine Jvm.RoadKit.acmp (g := (mkF m 4 #[.val (.ref u1)] [(.ref u0), (.ref u1)])) X1 hx rfl rfl rfl (pc0 := 4) (pc' := 7) (same := false) rfl (hb hby d2_4) rfl (decide_eq_false fun q => m0 (Value.ref.inj q)) (by decide) (by decide) ?_
    show Steps p.tables e below (T1.setTop (mkF m 7 _ [])) _
    refine XS.aloadN X1.here hx rfl (hb hby d2_7) rfl rfl ?_
    exact kt
  obtain ⟨T2, X2, e2, st2⟩ := getS2 X1 hx hZ hown (host := "") (Or.inl (hw _ (List.mem_of_getElem? (i := 44) rfl))) Via.refl e1 (S_1.ext X00.2) (g := (mkF m 8 #[.val (.ref u1)] [(.ref u1)])) rfl (hb hby d2_8)
  refine own_pre (B := (T2.setTop (mkF m 11 #[.val (.ref u1)] [(.ref u1), (.ref u1)]))) (fun t kt => ?_) ?_
  · show Steps p.tables e below (T1.setTop (mkF m 8 _ [(.ref u1)])) _
    refine st2 _ ?_
    exact kt
  refine own_pre (B := (T2.setTop (mkF m 19 #[.val (.ref u1)] [(.int (1 : Int32))]))) (fun t kt => ?_) ?_
  · show Steps p.tables e below (T2.setTop (mkF m 11 _ [(.ref u1), (.ref u1)])) _
    refine Jvm.RoadKit.acmp (g := (mkF m 11 #[.val (.ref u1)] [(.ref u1), (.ref u1)])) X2 hx rfl rfl rfl (pc0 := 11) (pc' := 14) (same := true) rfl (hb hby d2_11) rfl (decide_eq_true (congrArg Value.ref rfl)) (by decide) (by decide) ?_
    show Steps p.tables e below (T2.setTop (mkF m 14 _ [])) _
    refine XS.iconst X2.here hx rfl (hb hby d2_14) ?_
    show Steps p.tables e below (T2.setTop (mkF m 15 _ [(.int (1 : Int32))])) _
    refine XS.goto X2.here hx rfl (pc0 := 15) (pc' := 19) rfl (hb hby d2_15) (by decide) (by decide) ?_
    exact kt
  exact own_fin X2 (some (.int (1 : Int32))) (fun h => by rw [Bd.returns] at h; cases h) (BodyLoose.notSynchronized Bd) e2 (fun fs hr => retN X2 hx (t := .boolean) Bd.returns (by simp) (hb hby d2_19) hr) ⟨rfl, N0, rfl⟩ (by decide) (by decide)
theorem ef_1_2 (m : MethodId)  : entryFrame m #[(.int (2 : Int32))] 1 = mkF m 0 #[.val (.int (2 : Int32))] [] := by first | (simp [entryFrame, mkF, argsToLocals, Value.category]; done) | rfl
def Q1_2 (Z : State) (u0 u1 u2 u3 : Addr) (h0 : Heap) (n0 : Nat) (v : Option Value) (h : Heap) (L : List Loc) : Prop := v = some (.ref u2) ∧ Fr n0 L ∧ h = h0
set_option maxRecDepth 65536 in
set_option maxHeartbeats 40000000 in
theorem rm1_2 (l : Launch) (Z : State) (a0 : Array Value) (hw : ∀ d ∈ tables_1, d.before a0 Z = true) (ws : List Jvm.Cond) (u0 u1 u2 u3 : Addr) (h0 : Heap) (n0 : Nat) (Z0 : n0 ≤ h0.size) (S_0 : Sta Z Z.heap "com/example/wattlebird/wattlebird/Unit" "PER_KWH" "Lcom/example/wattlebird/wattlebird/Unit;" (.ref u0)) (S_1 : Sta Z Z.heap "com/example/wattlebird/wattlebird/Unit" "PER_MWH" "Lcom/example/wattlebird/wattlebird/Unit;" (.ref u1)) (S_2 : Sta Z Z.heap "com/example/wattlebird/wattlebird/Unit" "PER_MONTH" "Lcom/example/wattlebird/wattlebird/Unit;" (.ref u2)) (S_3 : Sta Z Z.heap "com/example/wattlebird/wattlebird/Unit" "PER_KW_MONTH" "Lcom/example/wattlebird/wattlebird/Unit;" (.ref u3)) (X00 : Old Z n0 h0) :
    MetFree l (⟨"com/example/wattlebird/wattlebird/UnitPerEnergyPinLaw", "pick", "(I)Lcom/example/wattlebird/wattlebird/Unit;"⟩ : MethodName) (head1 (Jvm.Cond.code (⟨"com/example/wattlebird/wattlebird/UnitPerEnergyPinLaw", "pick", "(I)Lcom/example/wattlebird/wattlebird/Unit;"⟩ : MethodName) method_2_code 1 (some (.object "com/example/wattlebird/wattlebird/Unit")) :: ws) ({ frames := 0, cells := 0, slots := 0, locals := 0 } : Room)) (fun a U => a = #[(.int (2 : Int32))] ∧ Z.Warmed39 U.vm ∧ U.heap = h0) (fun _ _ _ _ _ => True) (fun _ U o U' => ∃ v L, o = .returned v ∧ Q1_2 Z u0 u1 u2 u3 h0 n0 v U'.heap L ∧ FrameEnd U o U' L ({ frames := 0, cells := 0, slots := 0, locals := 0 } : Room).cells ({ frames := 0, cells := 0, slots := 0, locals := 0 } : Room).slots) := by
  refine MetFree.of_bodySF (plainFor_of_name pn_1) hisR ?_
  intro p e s m args below meth c s₁ Bd hml0 hP hK
  obtain ⟨rfl, hZ, hh⟩ := hP
  have hx := Bd.exec
  have hby := Bd.bytes
  have hml : c.maxLocals = 1 := hml0
  have hown : s.vm.findClass "com/example/wattlebird/wattlebird/UnitPerEnergyPinLaw" = some m.cls := findClass_of_methodNamed Bd.named
  have hnm := (name_of_methodNamed Bd.named Bd.method).1
  have X0 : Stand p l e ({ frames := 0, cells := 0, slots := 0, locals := 0 } : Room) s m #[(.int (2 : Int32))] below meth c s₁ [] 0 0 := Stand.of_body Bd
  have e0 : s₁.heap = h0 := by rw [← hh, Bd.state]; rfl
  have N0 := Fr.nil n0
  show own_Ends p e below s ({ frames := 0, cells := 0, slots := 0, locals := 0 } : Room).cells ({ frames := 0, cells := 0, slots := 0, locals := 0 } : Room).slots (Q1_2 Z u0 u1 u2 u3 h0 n0) (s₁.setTop (entryFrame m #[(.int (2 : Int32))] 1))
  rw [ef_1_2 m ]
  refine own_pre (B := (s₁.setTop (mkF m 22 #[.val (.int (2 : Int32))] []))) (fun t kt => ?_) ?_
  · show Steps p.tables e below (s₁.setTop (mkF m 0 _ [])) _
    refine XS.iloadN X0.here hx rfl (hb hby d1_0) rfl ?_
    show Steps p.tables e below (s₁.setTop (mkF m 1 _ [(.int (2 : Int32))])) _
    refine XS.ifYes X0.here hx rfl (pc0 := 1) (pc' := 8) rfl (hb hby d1_1) rfl ((if0 _ _).trans (feq ((by decide) : ¬ ((2 : Int32) = (0 : Int32)))).2) (by decide) (by decide) ?_
    show Steps p.tables e below (s₁.setTop (mkF m 8 _ [])) _
    refine XS.iloadN X0.here hx rfl (hb hby d1_8) rfl ?_
    show Steps p.tables e below (s₁.setTop (mkF m 9 _ [(.int (2 : Int32))])) _
    refine XS.iconst X0.here hx rfl (hb hby d1_9) ?_
    show Steps p.tables e below (s₁.setTop (mkF m 10 _ [(.int (1 : Int32)), (.int (2 : Int32))])) _
    refine XS.icmpYes X0.here hx rfl (pc0 := 10) (pc' := 17) rfl (hb hby d1_10) rfl (feq ((by decide) : ¬ ((2 : Int32) = (1 : Int32)))).2 (by decide) (by decide) ?_
    show Steps p.tables e below (s₁.setTop (mkF m 17 _ [])) _
    refine XS.iloadN X0.here hx rfl (hb hby d1_17) rfl ?_
    show Steps p.tables e below (s₁.setTop (mkF m 18 _ [(.int (2 : Int32))])) _
    refine XS.iconst X0.here hx rfl (hb hby d1_18) ?_
    show Steps p.tables e below (s₁.setTop (mkF m 19 _ [(.int (2 : Int32)), (.int (2 : Int32))])) _
    refine XS.icmpNo X0.here hx rfl (hb hby d1_19) rfl (teq (rfl : (2 : Int32) = (2 : Int32))).2 ?_
    exact kt
  obtain ⟨T1, X1, e1, st1⟩ := getS2 X0 hx hZ hown (host := "") (Or.inl (hw _ (List.mem_of_getElem? (i := 47) rfl))) Via.refl e0 (S_2.ext X00.2) (g := (mkF m 22 #[.val (.int (2 : Int32))] [])) rfl (hb hby d1_22)
  refine own_pre (B := (T1.setTop (mkF m 25 #[.val (.int (2 : Int32))] [(.ref u2)]))) (fun t kt => ?_) ?_
  · show Steps p.tables e below (s₁.setTop (mkF m 22 _ [])) _
    refine st1 _ ?_
    exact kt
  exact own_fin X1 (some (.ref u2)) (fun h => by rw [Bd.returns] at h; cases h) (BodyLoose.notSynchronized Bd) e1 (fun fs hr => retOut X1 hx (t := (.object "com/example/wattlebird/wattlebird/Unit")) (i := .areturn) (w := (.ref u2)) Bd.returns rfl (Or.inr (Or.inr (Or.inr (Or.inr ⟨rfl, rfl, rfl⟩)))) (hb hby d1_25) hr) ⟨rfl, N0, rfl⟩ (by decide) (by decide)
theorem ef_2_2 (m : MethodId) (x0 : Addr) : entryFrame m #[(.ref x0)] 1 = mkF m 0 #[.val (.ref x0)] [] := by first | (simp [entryFrame, mkF, argsToLocals, Value.category]; done) | rfl
def Q2_2 (Z : State) (u0 u1 u2 : Addr) (h0 : Heap) (n0 : Nat) (v : Option Value) (h : Heap) (L : List Loc) : Prop := v = some (.int 0) ∧ Fr n0 L ∧ h = h0
set_option maxRecDepth 65536 in
set_option maxHeartbeats 40000000 in
theorem rm2_2 (l : Launch) (Z : State) (a0 : Array Value) (hw : ∀ d ∈ tables_1, d.before a0 Z = true) (ws : List Jvm.Cond) (u0 u1 u2 : Addr) (h0 : Heap) (n0 : Nat) (Z0 : n0 ≤ h0.size) (S_0 : Sta Z Z.heap "com/example/wattlebird/wattlebird/Unit" "PER_KWH" "Lcom/example/wattlebird/wattlebird/Unit;" (.ref u0)) (S_1 : Sta Z Z.heap "com/example/wattlebird/wattlebird/Unit" "PER_MWH" "Lcom/example/wattlebird/wattlebird/Unit;" (.ref u1)) (X00 : Old Z n0 h0) (m0 : ¬ (u2 = u0)) (m1 : ¬ (u2 = u1)) :
    MetFree l (⟨"com/example/wattlebird/wattlebird/Unit", "perEnergy", "()Z"⟩ : MethodName) (head1 (Jvm.Cond.code (⟨"com/example/wattlebird/wattlebird/Unit", "perEnergy", "()Z"⟩ : MethodName) prog_90_method_7_code 1 (some .boolean) :: ws) ({ frames := 0, cells := 0, slots := 0, locals := 0 } : Room)) (fun a U => a = #[(.ref u2)] ∧ Z.Warmed39 U.vm ∧ U.heap = h0) (fun _ _ _ _ _ => True) (fun _ U o U' => ∃ v L, o = .returned v ∧ Q2_2 Z u0 u1 u2 h0 n0 v U'.heap L ∧ FrameEnd U o U' L ({ frames := 0, cells := 0, slots := 0, locals := 0 } : Room).cells ({ frames := 0, cells := 0, slots := 0, locals := 0 } : Room).slots) := by
  refine MetFree.of_bodySF (plainFor_of_name pn_2) hisR ?_
  intro p e s m args below meth c s₁ Bd hml0 hP hK
  obtain ⟨rfl, hZ, hh⟩ := hP
  have hx := Bd.exec
  have hby := Bd.bytes
  have hml : c.maxLocals = 1 := hml0
  have hown : s.vm.findClass "com/example/wattlebird/wattlebird/Unit" = some m.cls := findClass_of_methodNamed Bd.named
  have hnm := (name_of_methodNamed Bd.named Bd.method).1
  have X0 : Stand p l e ({ frames := 0, cells := 0, slots := 0, locals := 0 } : Room) s m #[(.ref u2)] below meth c s₁ [] 0 0 := Stand.of_body Bd
  have e0 : s₁.heap = h0 := by rw [← hh, Bd.state]; rfl
  have N0 := Fr.nil n0
  show own_Ends p e below s ({ frames := 0, cells := 0, slots := 0, locals := 0 } : Room).cells ({ frames := 0, cells := 0, slots := 0, locals := 0 } : Room).slots (Q2_2 Z u0 u1 u2 h0 n0) (s₁.setTop (entryFrame m #[(.ref u2)] 1))
  rw [ef_2_2 m u2]
  refine own_pre (B := (s₁.setTop (mkF m 1 #[.val (.ref u2)] [(.ref u2)]))) (fun t kt => ?_) ?_
  · show Steps p.tables e below (s₁.setTop (mkF m 0 _ [])) _
    refine XS.aloadN X0.here hx rfl (hb hby d2_0) rfl rfl ?_
    exact kt
  obtain ⟨T1, X1, e1, st1⟩ := getS2 X0 hx hZ hown (host := "") (Or.inl (hw _ (List.mem_of_getElem? (i := 12) rfl))) Via.refl e0 (S_0.ext X00.2) (g := (mkF m 1 #[.val (.ref u2)] [(.ref u2)])) rfl (hb hby d2_1)
  refine own_pre (B := (T1.setTop (mkF m 4 #[.val (.ref u2)] [(.ref u0), (.ref u2)]))) (fun t kt => ?_) ?_
  · show Steps p.tables e below (s₁.setTop (mkF m 1 _ [(.ref u2)])) _
    refine st1 _ ?_
    exact kt
  refine own_pre (B := (T1.setTop (mkF m 8 #[.val (.ref u2)] [(.ref u2)]))) (fun t kt => ?_) ?_
  · show Steps p.tables e below (T1.setTop (mkF m 4 _ [(.ref u0), (.ref u2)])) _
    refine Jvm.RoadKit.acmp (g := (mkF m 4 #[.val (.ref u2)] [(.ref u0), (.ref u2)])) X1 hx rfl rfl rfl (pc0 := 4) (pc' := 7) (same := false) rfl (hb hby d2_4) rfl (decide_eq_false fun q => m0 (Value.ref.inj q)) (by decide) (by decide) ?_
    show Steps p.tables e below (T1.setTop (mkF m 7 _ [])) _
    refine XS.aloadN X1.here hx rfl (hb hby d2_7) rfl rfl ?_
    exact kt
  obtain ⟨T2, X2, e2, st2⟩ := getS2 X1 hx hZ hown (host := "") (Or.inl (hw _ (List.mem_of_getElem? (i := 44) rfl))) Via.refl e1 (S_1.ext X00.2) (g := (mkF m 8 #[.val (.ref u2)] [(.ref u2)])) rfl (hb hby d2_8)
  refine own_pre (B := (T2.setTop (mkF m 11 #[.val (.ref u2)] [(.ref u1), (.ref u2)]))) (fun t kt => ?_) ?_
  · show Steps p.tables e below (T1.setTop (mkF m 8 _ [(.ref u2)])) _
    refine st2 _ ?_
    exact kt
  refine own_pre (B := (T2.setTop (mkF m 19 #[.val (.ref u2)] [(.int (0 : Int32))]))) (fun t kt => ?_) ?_
  · show Steps p.tables e below (T2.setTop (mkF m 11 _ [(.ref u1), (.ref u2)])) _
    refine Jvm.RoadKit.acmp (g := (mkF m 11 #[.val (.ref u2)] [(.ref u1), (.ref u2)])) X2 hx rfl rfl rfl (pc0 := 11) (pc' := 18) (same := false) rfl (hb hby d2_11) rfl (decide_eq_false fun q => m1 (Value.ref.inj q)) (by decide) (by decide) ?_
    show Steps p.tables e below (T2.setTop (mkF m 18 _ [])) _
    refine XS.iconst X2.here hx rfl (hb hby d2_18) ?_
    exact kt
  exact own_fin X2 (some (.int (0 : Int32))) (fun h => by rw [Bd.returns] at h; cases h) (BodyLoose.notSynchronized Bd) e2 (fun fs hr => retN X2 hx (t := .boolean) Bd.returns (by simp) (hb hby d2_19) hr) ⟨rfl, N0, rfl⟩ (by decide) (by decide)
theorem ef_1_3 (m : MethodId)  : entryFrame m #[(.int (3 : Int32))] 1 = mkF m 0 #[.val (.int (3 : Int32))] [] := by first | (simp [entryFrame, mkF, argsToLocals, Value.category]; done) | rfl
def Q1_3 (Z : State) (u0 u1 u2 u3 : Addr) (h0 : Heap) (n0 : Nat) (v : Option Value) (h : Heap) (L : List Loc) : Prop := v = some (.ref u3) ∧ Fr n0 L ∧ h = h0
set_option maxRecDepth 65536 in
set_option maxHeartbeats 40000000 in
theorem rm1_3 (l : Launch) (Z : State) (a0 : Array Value) (hw : ∀ d ∈ tables_1, d.before a0 Z = true) (ws : List Jvm.Cond) (u0 u1 u2 u3 : Addr) (h0 : Heap) (n0 : Nat) (Z0 : n0 ≤ h0.size) (S_0 : Sta Z Z.heap "com/example/wattlebird/wattlebird/Unit" "PER_KWH" "Lcom/example/wattlebird/wattlebird/Unit;" (.ref u0)) (S_1 : Sta Z Z.heap "com/example/wattlebird/wattlebird/Unit" "PER_MWH" "Lcom/example/wattlebird/wattlebird/Unit;" (.ref u1)) (S_2 : Sta Z Z.heap "com/example/wattlebird/wattlebird/Unit" "PER_MONTH" "Lcom/example/wattlebird/wattlebird/Unit;" (.ref u2)) (S_3 : Sta Z Z.heap "com/example/wattlebird/wattlebird/Unit" "PER_KW_MONTH" "Lcom/example/wattlebird/wattlebird/Unit;" (.ref u3)) (X00 : Old Z n0 h0) :
    MetFree l (⟨"com/example/wattlebird/wattlebird/UnitPerEnergyPinLaw", "pick", "(I)Lcom/example/wattlebird/wattlebird/Unit;"⟩ : MethodName) (head1 (Jvm.Cond.code (⟨"com/example/wattlebird/wattlebird/UnitPerEnergyPinLaw", "pick", "(I)Lcom/example/wattlebird/wattlebird/Unit;"⟩ : MethodName) method_2_code 1 (some (.object "com/example/wattlebird/wattlebird/Unit")) :: ws) ({ frames := 0, cells := 0, slots := 0, locals := 0 } : Room)) (fun a U => a = #[(.int (3 : Int32))] ∧ Z.Warmed39 U.vm ∧ U.heap = h0) (fun _ _ _ _ _ => True) (fun _ U o U' => ∃ v L, o = .returned v ∧ Q1_3 Z u0 u1 u2 u3 h0 n0 v U'.heap L ∧ FrameEnd U o U' L ({ frames := 0, cells := 0, slots := 0, locals := 0 } : Room).cells ({ frames := 0, cells := 0, slots := 0, locals := 0 } : Room).slots) := by
  refine MetFree.of_bodySF (plainFor_of_name pn_1) hisR ?_
  intro p e s m args below meth c s₁ Bd hml0 hP hK
  obtain ⟨rfl, hZ, hh⟩ := hP
  have hx := Bd.exec
  have hby := Bd.bytes
  have hml : c.maxLocals = 1 := hml0
  have hown : s.vm.findClass "com/example/wattlebird/wattlebird/UnitPerEnergyPinLaw" = some m.cls := findClass_of_methodNamed Bd.named
  have hnm := (name_of_methodNamed Bd.named Bd.method).1
  have X0 : Stand p l e ({ frames := 0, cells := 0, slots := 0, locals := 0 } : Room) s m #[(.int (3 : Int32))] below meth c s₁ [] 0 0 := Stand.of_body Bd
  have e0 : s₁.heap = h0 := by rw [← hh, Bd.state]; rfl
  have N0 := Fr.nil n0
  show own_Ends p e below s ({ frames := 0, cells := 0, slots := 0, locals := 0 } : Room).cells ({ frames := 0, cells := 0, slots := 0, locals := 0 } : Room).slots (Q1_3 Z u0 u1 u2 u3 h0 n0) (s₁.setTop (entryFrame m #[(.int (3 : Int32))] 1))
  rw [ef_1_3 m ]
  refine own_pre (B := (s₁.setTop (mkF m 26 #[.val (.int (3 : Int32))] []))) (fun t kt => ?_) ?_
  · show Steps p.tables e below (s₁.setTop (mkF m 0 _ [])) _
    refine XS.iloadN X0.here hx rfl (hb hby d1_0) rfl ?_
    show Steps p.tables e below (s₁.setTop (mkF m 1 _ [(.int (3 : Int32))])) _
    refine XS.ifYes X0.here hx rfl (pc0 := 1) (pc' := 8) rfl (hb hby d1_1) rfl ((if0 _ _).trans (feq ((by decide) : ¬ ((3 : Int32) = (0 : Int32)))).2) (by decide) (by decide) ?_
    show Steps p.tables e below (s₁.setTop (mkF m 8 _ [])) _
    refine XS.iloadN X0.here hx rfl (hb hby d1_8) rfl ?_
    show Steps p.tables e below (s₁.setTop (mkF m 9 _ [(.int (3 : Int32))])) _
    refine XS.iconst X0.here hx rfl (hb hby d1_9) ?_
    show Steps p.tables e below (s₁.setTop (mkF m 10 _ [(.int (1 : Int32)), (.int (3 : Int32))])) _
    refine XS.icmpYes X0.here hx rfl (pc0 := 10) (pc' := 17) rfl (hb hby d1_10) rfl (feq ((by decide) : ¬ ((3 : Int32) = (1 : Int32)))).2 (by decide) (by decide) ?_
    show Steps p.tables e below (s₁.setTop (mkF m 17 _ [])) _
    refine XS.iloadN X0.here hx rfl (hb hby d1_17) rfl ?_
    show Steps p.tables e below (s₁.setTop (mkF m 18 _ [(.int (3 : Int32))])) _
    refine XS.iconst X0.here hx rfl (hb hby d1_18) ?_
    show Steps p.tables e below (s₁.setTop (mkF m 19 _ [(.int (2 : Int32)), (.int (3 : Int32))])) _
    refine XS.icmpYes X0.here hx rfl (pc0 := 19) (pc' := 26) rfl (hb hby d1_19) rfl (feq ((by decide) : ¬ ((3 : Int32) = (2 : Int32)))).2 (by decide) (by decide) ?_
    exact kt
  obtain ⟨T1, X1, e1, st1⟩ := getS2 X0 hx hZ hown (host := "") (Or.inl (hw _ (List.mem_of_getElem? (i := 42) rfl))) Via.refl e0 (S_3.ext X00.2) (g := (mkF m 26 #[.val (.int (3 : Int32))] [])) rfl (hb hby d1_26)
  refine own_pre (B := (T1.setTop (mkF m 29 #[.val (.int (3 : Int32))] [(.ref u3)]))) (fun t kt => ?_) ?_
  · show Steps p.tables e below (s₁.setTop (mkF m 26 _ [])) _
    refine st1 _ ?_
    exact kt
  exact own_fin X1 (some (.ref u3)) (fun h => by rw [Bd.returns] at h; cases h) (BodyLoose.notSynchronized Bd) e1 (fun fs hr => retOut X1 hx (t := (.object "com/example/wattlebird/wattlebird/Unit")) (i := .areturn) (w := (.ref u3)) Bd.returns rfl (Or.inr (Or.inr (Or.inr (Or.inr ⟨rfl, rfl, rfl⟩)))) (hb hby d1_29) hr) ⟨rfl, N0, rfl⟩ (by decide) (by decide)
theorem ef_2_3 (m : MethodId) (x0 : Addr) : entryFrame m #[(.ref x0)] 1 = mkF m 0 #[.val (.ref x0)] [] := by first | (simp [entryFrame, mkF, argsToLocals, Value.category]; done) | rfl
def Q2_3 (Z : State) (u0 u1 u3 : Addr) (h0 : Heap) (n0 : Nat) (v : Option Value) (h : Heap) (L : List Loc) : Prop := v = some (.int 0) ∧ Fr n0 L ∧ h = h0
set_option maxRecDepth 65536 in
set_option maxHeartbeats 40000000 in
theorem rm2_3 (l : Launch) (Z : State) (a0 : Array Value) (hw : ∀ d ∈ tables_1, d.before a0 Z = true) (ws : List Jvm.Cond) (u0 u1 u3 : Addr) (h0 : Heap) (n0 : Nat) (Z0 : n0 ≤ h0.size) (S_0 : Sta Z Z.heap "com/example/wattlebird/wattlebird/Unit" "PER_KWH" "Lcom/example/wattlebird/wattlebird/Unit;" (.ref u0)) (S_1 : Sta Z Z.heap "com/example/wattlebird/wattlebird/Unit" "PER_MWH" "Lcom/example/wattlebird/wattlebird/Unit;" (.ref u1)) (X00 : Old Z n0 h0) (m0 : ¬ (u3 = u0)) (m1 : ¬ (u3 = u1)) :
    MetFree l (⟨"com/example/wattlebird/wattlebird/Unit", "perEnergy", "()Z"⟩ : MethodName) (head1 (Jvm.Cond.code (⟨"com/example/wattlebird/wattlebird/Unit", "perEnergy", "()Z"⟩ : MethodName) prog_90_method_7_code 1 (some .boolean) :: ws) ({ frames := 0, cells := 0, slots := 0, locals := 0 } : Room)) (fun a U => a = #[(.ref u3)] ∧ Z.Warmed39 U.vm ∧ U.heap = h0) (fun _ _ _ _ _ => True) (fun _ U o U' => ∃ v L, o = .returned v ∧ Q2_3 Z u0 u1 u3 h0 n0 v U'.heap L ∧ FrameEnd U o U' L ({ frames := 0, cells := 0, slots := 0, locals := 0 } : Room).cells ({ frames := 0, cells := 0, slots := 0, locals := 0 } : Room).slots) := by
  refine MetFree.of_bodySF (plainFor_of_name pn_2) hisR ?_
  intro p e s m args below meth c s₁ Bd hml0 hP hK
  obtain ⟨rfl, hZ, hh⟩ := hP
  have hx := Bd.exec
  have hby := Bd.bytes
  have hml : c.maxLocals = 1 := hml0
  have hown : s.vm.findClass "com/example/wattlebird/wattlebird/Unit" = some m.cls := findClass_of_methodNamed Bd.named
  have hnm := (name_of_methodNamed Bd.named Bd.method).1
  have X0 : Stand p l e ({ frames := 0, cells := 0, slots := 0, locals := 0 } : Room) s m #[(.ref u3)] below meth c s₁ [] 0 0 := Stand.of_body Bd
  have e0 : s₁.heap = h0 := by rw [← hh, Bd.state]; rfl
  have N0 := Fr.nil n0
  show own_Ends p e below s ({ frames := 0, cells := 0, slots := 0, locals := 0 } : Room).cells ({ frames := 0, cells := 0, slots := 0, locals := 0 } : Room).slots (Q2_3 Z u0 u1 u3 h0 n0) (s₁.setTop (entryFrame m #[(.ref u3)] 1))
  rw [ef_2_3 m u3]
  refine own_pre (B := (s₁.setTop (mkF m 1 #[.val (.ref u3)] [(.ref u3)]))) (fun t kt => ?_) ?_
  · show Steps p.tables e below (s₁.setTop (mkF m 0 _ [])) _
    refine XS.aloadN X0.here hx rfl (hb hby d2_0) rfl rfl ?_
    exact kt
  obtain ⟨T1, X1, e1, st1⟩ := getS2 X0 hx hZ hown (host := "") (Or.inl (hw _ (List.mem_of_getElem? (i := 12) rfl))) Via.refl e0 (S_0.ext X00.2) (g := (mkF m 1 #[.val (.ref u3)] [(.ref u3)])) rfl (hb hby d2_1)
  refine own_pre (B := (T1.setTop (mkF m 4 #[.val (.ref u3)] [(.ref u0), (.ref u3)]))) (fun t kt => ?_) ?_
  · show Steps p.tables e below (s₁.setTop (mkF m 1 _ [(.ref u3)])) _
    refine st1 _ ?_
    exact kt
  refine own_pre (B := (T1.setTop (mkF m 8 #[.val (.ref u3)] [(.ref u3)]))) (fun t kt => ?_) ?_
  · show Steps p.tables e below (T1.setTop (mkF m 4 _ [(.ref u0), (.ref u3)])) _
    refine Jvm.RoadKit.acmp (g := (mkF m 4 #[.val (.ref u3)] [(.ref u0), (.ref u3)])) X1 hx rfl rfl rfl (pc0 := 4) (pc' := 7) (same := false) rfl (hb hby d2_4) rfl (decide_eq_false fun q => m0 (Value.ref.inj q)) (by decide) (by decide) ?_
    show Steps p.tables e below (T1.setTop (mkF m 7 _ [])) _
    refine XS.aloadN X1.here hx rfl (hb hby d2_7) rfl rfl ?_
    exact kt
  obtain ⟨T2, X2, e2, st2⟩ := getS2 X1 hx hZ hown (host := "") (Or.inl (hw _ (List.mem_of_getElem? (i := 44) rfl))) Via.refl e1 (S_1.ext X00.2) (g := (mkF m 8 #[.val (.ref u3)] [(.ref u3)])) rfl (hb hby d2_8)
  refine own_pre (B := (T2.setTop (mkF m 11 #[.val (.ref u3)] [(.ref u1), (.ref u3)]))) (fun t kt => ?_) ?_
  · show Steps p.tables e below (T1.setTop (mkF m 8 _ [(.ref u3)])) _
    refine st2 _ ?_
    exact kt
  refine own_pre (B := (T2.setTop (mkF m 19 #[.val (.ref u3)] [(.int (0 : Int32))]))) (fun t kt => ?_) ?_
  · show Steps p.tables e below (T2.setTop (mkF m 11 _ [(.ref u1), (.ref u3)])) _
    refine Jvm.RoadKit.acmp (g := (mkF m 11 #[.val (.ref u3)] [(.ref u1), (.ref u3)])) X2 hx rfl rfl rfl (pc0 := 11) (pc' := 18) (same := false) rfl (hb hby d2_11) rfl (decide_eq_false fun q => m1 (Value.ref.inj q)) (by decide) (by decide) ?_
    show Steps p.tables e below (T2.setTop (mkF m 18 _ [])) _
    refine XS.iconst X2.here hx rfl (hb hby d2_18) ?_
    exact kt
  exact own_fin X2 (some (.int (0 : Int32))) (fun h => by rw [Bd.returns] at h; cases h) (BodyLoose.notSynchronized Bd) e2 (fun fs hr => retN X2 hx (t := .boolean) Bd.returns (by simp) (hb hby d2_19) hr) ⟨rfl, N0, rfl⟩ (by decide) (by decide)
theorem ef_3 (m : MethodId) (x0 : Addr) : entryFrame m #[(.ref x0)] 1 = mkF m 0 #[.val (.ref x0)] [] := by first | (simp [entryFrame, mkF, argsToLocals, Value.category]; done) | rfl
def Q3 (Z : State) (a1 a2 : Addr) (h0 : Heap) (n0 : Nat) (v : Option Value) (h : Heap) (L : List Loc) : Prop := v = some (.ref a2) ∧ Fr n0 L ∧ h = h0
set_option maxRecDepth 65536 in
set_option maxHeartbeats 40000000 in
theorem rm3 (l : Launch) (Z : State) (a0 : Array Value) (hw : ∀ d ∈ tables_1, d.before a0 Z = true) (ws : List Jvm.Cond) (a1 a2 : Addr) (h0 : Heap) (n0 : Nat) (Z0 : n0 ≤ h0.size) (F_m : Fld Z h0 a1 "com/example/wattlebird/wattlebird/Unit" "measure" "Ljava/lang/String;" (.ref a2)) :
    MetFree l (⟨"com/example/wattlebird/wattlebird/Unit", "measure", "()Ljava/lang/String;"⟩ : MethodName) (head1 (Jvm.Cond.code (⟨"com/example/wattlebird/wattlebird/Unit", "measure", "()Ljava/lang/String;"⟩ : MethodName) prog_90_method_5_code 1 (some (.object "java/lang/String")) :: ws) ({ frames := 0, cells := 0, slots := 0, locals := 0 } : Room)) (fun a U => a = #[(.ref a1)] ∧ Z.Warmed39 U.vm ∧ U.heap = h0) (fun _ _ _ _ _ => True) (fun _ U o U' => ∃ v L, o = .returned v ∧ Q3 Z a1 a2 h0 n0 v U'.heap L ∧ FrameEnd U o U' L ({ frames := 0, cells := 0, slots := 0, locals := 0 } : Room).cells ({ frames := 0, cells := 0, slots := 0, locals := 0 } : Room).slots) := by
  refine MetFree.of_bodySF (plainFor_of_name pn_3) hisR ?_
  intro p e s m args below meth c s₁ Bd hml0 hP hK
  obtain ⟨rfl, hZ, hh⟩ := hP
  have hx := Bd.exec
  have hby := Bd.bytes
  have hml : c.maxLocals = 1 := hml0
  have hown : s.vm.findClass "com/example/wattlebird/wattlebird/Unit" = some m.cls := findClass_of_methodNamed Bd.named
  have hnm := (name_of_methodNamed Bd.named Bd.method).1
  have X0 : Stand p l e ({ frames := 0, cells := 0, slots := 0, locals := 0 } : Room) s m #[(.ref a1)] below meth c s₁ [] 0 0 := Stand.of_body Bd
  have e0 : s₁.heap = h0 := by rw [← hh, Bd.state]; rfl
  have N0 := Fr.nil n0
  show own_Ends p e below s ({ frames := 0, cells := 0, slots := 0, locals := 0 } : Room).cells ({ frames := 0, cells := 0, slots := 0, locals := 0 } : Room).slots (Q3 Z a1 a2 h0 n0) (s₁.setTop (entryFrame m #[(.ref a1)] 1))
  rw [ef_3 m a1]
  refine own_pre (B := (s₁.setTop (mkF m 1 #[.val (.ref a1)] [(.ref a1)]))) (fun t kt => ?_) ?_
  · show Steps p.tables e below (s₁.setTop (mkF m 0 _ [])) _
    refine XS.aloadN X0.here hx rfl (hb hby d3_0) rfl rfl ?_
    exact kt
  obtain ⟨T1, X1, e1, st1⟩ := getF X0 hx hZ hown (host := "") (Or.inl (hw _ (List.mem_of_getElem? (i := 18) rfl))) Via.refl e0 F_m (g := (mkF m 1 #[.val (.ref a1)] [(.ref a1)])) rfl rfl (hb hby d3_1)
  refine own_pre (B := (T1.setTop (mkF m 4 #[.val (.ref a1)] [(.ref a2)]))) (fun t kt => ?_) ?_
  · show Steps p.tables e below (s₁.setTop (mkF m 1 _ [(.ref a1)])) _
    refine st1 _ ?_
    exact kt
  exact own_fin X1 (some (.ref a2)) (fun h => by rw [Bd.returns] at h; cases h) (BodyLoose.notSynchronized Bd) e1 (fun fs hr => retOut X1 hx (t := (.object "java/lang/String")) (i := .areturn) (w := (.ref a2)) Bd.returns rfl (Or.inr (Or.inr (Or.inr (Or.inr ⟨rfl, rfl, rfl⟩)))) (hb hby d3_4) hr) ⟨rfl, N0, rfl⟩ (by decide) (by decide)
theorem ef_5_0 (m : MethodId) (x0 : Addr) (x1 : Addr) : entryFrame m #[(.ref x0), (.ref x1)] 3 = mkF m 0 #[.val (.ref x0), .val (.ref x1), .unset] [] := by first | (simp [entryFrame, mkF, argsToLocals, Value.category]; done) | rfl
def Q5_0 (Z : State) (b1 b2 : Addr) (k1 k2 : ClassId) (h0 : Heap) (n0 : Nat) (v : Option Value) (h : Heap) (L : List Loc) : Prop := v = some (.int 1) ∧ Fr n0 L ∧ h = h0
set_option maxRecDepth 65536 in
set_option maxHeartbeats 40000000 in
theorem rm5_0 (l : Launch) (Z : State) (a0 : Array Value) (hw : ∀ d ∈ tables_1, d.before a0 Z = true) (ws : List Jvm.Cond) (b1 b2 : Addr) (k1 k2 : ClassId) (h0 : Heap) (n0 : Nat) (Z0 : n0 ≤ h0.size) (V_b1 : Arv Z h0 b1 k1 .byte (3 : Int32) [(.int (107 : Int32)), (.int (87 : Int32)), (.int (104 : Int32))] (.int 0)) (V_b2 : Arv Z h0 b2 k2 .byte (3 : Int32) [(.int (107 : Int32)), (.int (87 : Int32)), (.int (104 : Int32))] (.int 0)) :
    MetFree l (⟨"java/lang/StringLatin1", "equals", "([B[B)Z"⟩ : MethodName) (head1 (Jvm.Cond.code (⟨"java/lang/StringLatin1", "equals", "([B[B)Z"⟩ : MethodName) jdk_43_method_13_code 3 (some .boolean) :: ws) ({ frames := 0, cells := 0, slots := 0, locals := 0 } : Room)) (fun a U => a = #[(.ref b1), (.ref b2)] ∧ Z.Warmed39 U.vm ∧ U.heap = h0) (fun _ _ _ _ _ => True) (fun _ U o U' => ∃ v L, o = .returned v ∧ Q5_0 Z b1 b2 k1 k2 h0 n0 v U'.heap L ∧ FrameEnd U o U' L ({ frames := 0, cells := 0, slots := 0, locals := 0 } : Room).cells ({ frames := 0, cells := 0, slots := 0, locals := 0 } : Room).slots) := by
  refine MetFree.of_bodySF (plainFor_of_name pn_5) hisR ?_
  intro p e s m args below meth c s₁ Bd hml0 hP hK
  obtain ⟨rfl, hZ, hh⟩ := hP
  have hx := Bd.exec
  have hby := Bd.bytes
  have hml : c.maxLocals = 3 := hml0
  have hown : s.vm.findClass "java/lang/StringLatin1" = some m.cls := findClass_of_methodNamed Bd.named
  have hnm := (name_of_methodNamed Bd.named Bd.method).1
  have X0 : Stand p l e ({ frames := 0, cells := 0, slots := 0, locals := 0 } : Room) s m #[(.ref b1), (.ref b2)] below meth c s₁ [] 0 0 := Stand.of_body Bd
  have e0 : s₁.heap = h0 := by rw [← hh, Bd.state]; rfl
  have N0 := Fr.nil n0
  show own_Ends p e below s ({ frames := 0, cells := 0, slots := 0, locals := 0 } : Room).cells ({ frames := 0, cells := 0, slots := 0, locals := 0 } : Room).slots (Q5_0 Z b1 b2 k1 k2 h0 n0) (s₁.setTop (entryFrame m #[(.ref b1), (.ref b2)] 3))
  rw [ef_5_0 m b1 b2]
  refine own_pre (B := (s₁.setTop (mkF m 1 #[.val (.ref b1), .val (.ref b2), .unset] [(.ref b1)]))) (fun t kt => ?_) ?_
  · show Steps p.tables e below (s₁.setTop (mkF m 0 _ [])) _
    refine XS.aloadN X0.here hx rfl (hb hby d5_0) rfl rfl ?_
    exact kt
  obtain ⟨cl1, Ar1, q1, S1, P1, H1, G1⟩ := id V_b1
  refine own_pre (B := (s₁.setTop (mkF m 3 #[.val (.ref b1), .val (.ref b2), .unset] [(.ref b2), (.int (3 : Int32))]))) (fun t kt => ?_) ?_
  · show Steps p.tables e below (s₁.setTop (mkF m 1 _ [(.ref b1)])) _
    refine X0.arraylength hx (by rw [e0]; exact Ar1.1) (State.isArrayOf_alike hZ.alike Ar1.2.1) (g := (mkF m 1 #[.val (.ref b1), .val (.ref b2), .unset] [(.ref b1)])) rfl rfl (hb hby d5_1) _ ?_
    rw [len_of S1 P1]
    show Steps p.tables e below (s₁.setTop (mkF m 2 _ [(.int (3 : Int32))])) _
    refine XS.aloadN X0.here hx rfl (hb hby d5_2) rfl rfl ?_
    exact kt
  obtain ⟨cl2, Ar2, q2, S2, P2, H2, G2⟩ := id V_b2
  refine own_pre (B := (s₁.setTop (mkF m 11 #[.val (.ref b1), .val (.ref b2), .val (.int (0 : Int32))] [(.ref b1), (.int (0 : Int32))]))) (fun t kt => ?_) ?_
  · show Steps p.tables e below (s₁.setTop (mkF m 3 _ [(.ref b2), (.int (3 : Int32))])) _
    refine X0.arraylength hx (by rw [e0]; exact Ar2.1) (State.isArrayOf_alike hZ.alike Ar2.2.1) (g := (mkF m 3 #[.val (.ref b1), .val (.ref b2), .unset] [(.ref b2), (.int (3 : Int32))])) rfl rfl (hb hby d5_3) _ ?_
    rw [len_of S2 P2]
    show Steps p.tables e below (s₁.setTop (mkF m 4 _ [(.int (3 : Int32)), (.int (3 : Int32))])) _
    refine XS.icmpNo X0.here hx rfl (hb hby d5_4) rfl (teq (rfl : (3 : Int32) = (3 : Int32))).2 ?_
    show Steps p.tables e below (s₁.setTop (mkF m 7 _ [])) _
    refine XS.iconst X0.here hx rfl (hb hby d5_7) ?_
    show Steps p.tables e below (s₁.setTop (mkF m 8 _ [(.int (0 : Int32))])) _
    refine XS.istoreN X0.here hx rfl (hb hby d5_8) rfl (l' := #[.val (.ref b1), .val (.ref b2), .val (.int (0 : Int32))]) rfl ?_
    show Steps p.tables e below (s₁.setTop (mkF m 9 _ [])) _
    refine XS.iloadN X0.here hx rfl (hb hby d5_9) rfl ?_
    show Steps p.tables e below (s₁.setTop (mkF m 10 _ [(.int (0 : Int32))])) _
    refine XS.aloadN X0.here hx rfl (hb hby d5_10) rfl rfl ?_
    exact kt
  obtain ⟨cl3, Ar3, q3, S3, P3, H3, G3⟩ := id V_b1
  refine own_pre (B := (s₁.setTop (mkF m 17 #[.val (.ref b1), .val (.ref b2), .val (.int (0 : Int32))] [(.int (0 : Int32)), (.ref b1)]))) (fun t kt => ?_) ?_
  · show Steps p.tables e below (s₁.setTop (mkF m 11 _ [(.ref b1), (.int (0 : Int32))])) _
    refine X0.arraylength hx (by rw [e0]; exact Ar3.1) (State.isArrayOf_alike hZ.alike Ar3.2.1) (g := (mkF m 11 #[.val (.ref b1), .val (.ref b2), .val (.int (0 : Int32))] [(.ref b1), (.int (0 : Int32))])) rfl rfl (hb hby d5_11) _ ?_
    rw [len_of S3 P3]
    show Steps p.tables e below (s₁.setTop (mkF m 12 _ [(.int (3 : Int32)), (.int (0 : Int32))])) _
    refine XS.icmpNo X0.here hx rfl (hb hby d5_12) rfl (tlt ((by decide) : (0 : Int32) < (3 : Int32))).2.1 ?_
    show Steps p.tables e below (s₁.setTop (mkF m 15 _ [])) _
    refine XS.aloadN X0.here hx rfl (hb hby d5_15) rfl rfl ?_
    show Steps p.tables e below (s₁.setTop (mkF m 16 _ [(.ref b1)])) _
    refine XS.iloadN X0.here hx rfl (hb hby d5_16) rfl ?_
    exact kt
  obtain ⟨cl4, Ar4, q4, S4, P4, H4, G4⟩ := id V_b1
  have in4 := inb_of S4 (⟨by decide, by decide⟩ : ¬ (0 : Int32) < 0 ∧ (0 : Int32) < (3 : Int32))
  have at4 : cl4.slots[((0 : Int32)).toNatClampNeg]? = some (.int (107 : Int32)) := Has.at H4 in4 (by decide)
  refine own_pre (B := (s₁.setTop (mkF m 20 #[.val (.ref b1), .val (.ref b2), .val (.int (0 : Int32))] [(.int (0 : Int32)), (.ref b2), (.int (107 : Int32))]))) (fun t kt => ?_) ?_
  · show Steps p.tables e below (s₁.setTop (mkF m 17 _ [(.int (0 : Int32)), (.ref b1)])) _
    refine X0.baloadBytes hx (j := (0 : Int32)) (v := (.int (107 : Int32))) (by rw [e0]; exact Ar4.1) (State.isArrayOf_alike hZ.alike Ar4.2.1) Ar4.2.2 in4 at4 (g := (mkF m 17 #[.val (.ref b1), .val (.ref b2), .val (.int (0 : Int32))] [(.int (0 : Int32)), (.ref b1)])) rfl rfl (hb hby d5_17) _ ?_
    show Steps p.tables e below (s₁.setTop (mkF m 18 _ [(.int (107 : Int32))])) _
    refine XS.aloadN X0.here hx rfl (hb hby d5_18) rfl rfl ?_
    show Steps p.tables e below (s₁.setTop (mkF m 19 _ [(.ref b2), (.int (107 : Int32))])) _
    refine XS.iloadN X0.here hx rfl (hb hby d5_19) rfl ?_
    exact kt
  obtain ⟨cl5, Ar5, q5, S5, P5, H5, G5⟩ := id V_b2
  have in5 := inb_of S5 (⟨by decide, by decide⟩ : ¬ (0 : Int32) < 0 ∧ (0 : Int32) < (3 : Int32))
  have at5 : cl5.slots[((0 : Int32)).toNatClampNeg]? = some (.int (107 : Int32)) := Has.at H5 in5 (by decide)
  refine own_pre (B := (s₁.setTop (mkF m 11 #[.val (.ref b1), .val (.ref b2), .val (.int ((0 : Int32) + (1 : Int32)))] [(.ref b1), (.int ((0 : Int32) + (1 : Int32)))]))) (fun t kt => ?_) ?_
  · show Steps p.tables e below (s₁.setTop (mkF m 20 _ [(.int (0 : Int32)), (.ref b2), (.int (107 : Int32))])) _
    refine X0.baloadBytes hx (j := (0 : Int32)) (v := (.int (107 : Int32))) (by rw [e0]; exact Ar5.1) (State.isArrayOf_alike hZ.alike Ar5.2.1) Ar5.2.2 in5 at5 (g := (mkF m 20 #[.val (.ref b1), .val (.ref b2), .val (.int (0 : Int32))] [(.int (0 : Int32)), (.ref b2), (.int (107 : Int32))])) rfl rfl (hb hby d5_20) _ ?_
    show Steps p.tables e below (s₁.setTop (mkF m 21 _ [(.int (107 : Int32)), (.int (107 : Int32))])) _
    refine XS.icmpYes X0.here hx rfl (pc0 := 21) (pc' := 26) rfl (hb hby d5_21) rfl (teq (rfl : (107 : Int32) = (107 : Int32))).1 (by decide) (by decide) ?_
    show Steps p.tables e below (s₁.setTop (mkF m 26 _ [])) _
    refine XS.iinc X0.here hx rfl (hb hby d5_26) rfl (l' := #[.val (.ref b1), .val (.ref b2), .val (.int ((0 : Int32) + (1 : Int32)))]) rfl ?_
    show Steps p.tables e below (s₁.setTop (mkF m 29 _ [])) _
    refine XS.goto X0.here hx rfl (pc0 := 29) (pc' := 9) rfl (hb hby d5_29) (by decide) (by decide) ?_
    show Steps p.tables e below (s₁.setTop (mkF m 9 _ [])) _
    refine XS.iloadN X0.here hx rfl (hb hby d5_9) rfl ?_
    show Steps p.tables e below (s₁.setTop (mkF m 10 _ [(.int ((0 : Int32) + (1 : Int32)))])) _
    refine XS.aloadN X0.here hx rfl (hb hby d5_10) rfl rfl ?_
    exact kt
  obtain ⟨cl6, Ar6, q6, S6, P6, H6, G6⟩ := id V_b1
  refine own_pre (B := (s₁.setTop (mkF m 17 #[.val (.ref b1), .val (.ref b2), .val (.int ((0 : Int32) + (1 : Int32)))] [(.int ((0 : Int32) + (1 : Int32))), (.ref b1)]))) (fun t kt => ?_) ?_
  · show Steps p.tables e below (s₁.setTop (mkF m 11 _ [(.ref b1), (.int ((0 : Int32) + (1 : Int32)))])) _
    refine X0.arraylength hx (by rw [e0]; exact Ar6.1) (State.isArrayOf_alike hZ.alike Ar6.2.1) (g := (mkF m 11 #[.val (.ref b1), .val (.ref b2), .val (.int ((0 : Int32) + (1 : Int32)))] [(.ref b1), (.int ((0 : Int32) + (1 : Int32)))])) rfl rfl (hb hby d5_11) _ ?_
    rw [len_of S6 P6]
    show Steps p.tables e below (s₁.setTop (mkF m 12 _ [(.int (3 : Int32)), (.int ((0 : Int32) + (1 : Int32)))])) _
    refine XS.icmpNo X0.here hx rfl (hb hby d5_12) rfl (tlt ((by decide) : ((0 : Int32) + (1 : Int32)) < (3 : Int32))).2.1 ?_
    show Steps p.tables e below (s₁.setTop (mkF m 15 _ [])) _
    refine XS.aloadN X0.here hx rfl (hb hby d5_15) rfl rfl ?_
    show Steps p.tables e below (s₁.setTop (mkF m 16 _ [(.ref b1)])) _
    refine XS.iloadN X0.here hx rfl (hb hby d5_16) rfl ?_
    exact kt
  obtain ⟨cl7, Ar7, q7, S7, P7, H7, G7⟩ := id V_b1
  have in7 := inb_of S7 (⟨by decide, by decide⟩ : ¬ ((0 : Int32) + (1 : Int32)) < 0 ∧ ((0 : Int32) + (1 : Int32)) < (3 : Int32))
  have at7 : cl7.slots[(((0 : Int32) + (1 : Int32))).toNatClampNeg]? = some (.int (87 : Int32)) := Has.at H7 in7 (by decide)
  refine own_pre (B := (s₁.setTop (mkF m 20 #[.val (.ref b1), .val (.ref b2), .val (.int ((0 : Int32) + (1 : Int32)))] [(.int ((0 : Int32) + (1 : Int32))), (.ref b2), (.int (87 : Int32))]))) (fun t kt => ?_) ?_
  · show Steps p.tables e below (s₁.setTop (mkF m 17 _ [(.int ((0 : Int32) + (1 : Int32))), (.ref b1)])) _
    refine X0.baloadBytes hx (j := ((0 : Int32) + (1 : Int32))) (v := (.int (87 : Int32))) (by rw [e0]; exact Ar7.1) (State.isArrayOf_alike hZ.alike Ar7.2.1) Ar7.2.2 in7 at7 (g := (mkF m 17 #[.val (.ref b1), .val (.ref b2), .val (.int ((0 : Int32) + (1 : Int32)))] [(.int ((0 : Int32) + (1 : Int32))), (.ref b1)])) rfl rfl (hb hby d5_17) _ ?_
    show Steps p.tables e below (s₁.setTop (mkF m 18 _ [(.int (87 : Int32))])) _
    refine XS.aloadN X0.here hx rfl (hb hby d5_18) rfl rfl ?_
    show Steps p.tables e below (s₁.setTop (mkF m 19 _ [(.ref b2), (.int (87 : Int32))])) _
    refine XS.iloadN X0.here hx rfl (hb hby d5_19) rfl ?_
    exact kt
  obtain ⟨cl8, Ar8, q8, S8, P8, H8, G8⟩ := id V_b2
  have in8 := inb_of S8 (⟨by decide, by decide⟩ : ¬ ((0 : Int32) + (1 : Int32)) < 0 ∧ ((0 : Int32) + (1 : Int32)) < (3 : Int32))
  have at8 : cl8.slots[(((0 : Int32) + (1 : Int32))).toNatClampNeg]? = some (.int (87 : Int32)) := Has.at H8 in8 (by decide)
  refine own_pre (B := (s₁.setTop (mkF m 11 #[.val (.ref b1), .val (.ref b2), .val (.int (((0 : Int32) + (1 : Int32)) + (1 : Int32)))] [(.ref b1), (.int (((0 : Int32) + (1 : Int32)) + (1 : Int32)))]))) (fun t kt => ?_) ?_
  · show Steps p.tables e below (s₁.setTop (mkF m 20 _ [(.int ((0 : Int32) + (1 : Int32))), (.ref b2), (.int (87 : Int32))])) _
    refine X0.baloadBytes hx (j := ((0 : Int32) + (1 : Int32))) (v := (.int (87 : Int32))) (by rw [e0]; exact Ar8.1) (State.isArrayOf_alike hZ.alike Ar8.2.1) Ar8.2.2 in8 at8 (g := (mkF m 20 #[.val (.ref b1), .val (.ref b2), .val (.int ((0 : Int32) + (1 : Int32)))] [(.int ((0 : Int32) + (1 : Int32))), (.ref b2), (.int (87 : Int32))])) rfl rfl (hb hby d5_20) _ ?_
    show Steps p.tables e below (s₁.setTop (mkF m 21 _ [(.int (87 : Int32)), (.int (87 : Int32))])) _
    refine XS.icmpYes X0.here hx rfl (pc0 := 21) (pc' := 26) rfl (hb hby d5_21) rfl (teq (rfl : (87 : Int32) = (87 : Int32))).1 (by decide) (by decide) ?_
    show Steps p.tables e below (s₁.setTop (mkF m 26 _ [])) _
    refine XS.iinc X0.here hx rfl (hb hby d5_26) rfl (l' := #[.val (.ref b1), .val (.ref b2), .val (.int (((0 : Int32) + (1 : Int32)) + (1 : Int32)))]) rfl ?_
    show Steps p.tables e below (s₁.setTop (mkF m 29 _ [])) _
    refine XS.goto X0.here hx rfl (pc0 := 29) (pc' := 9) rfl (hb hby d5_29) (by decide) (by decide) ?_
    show Steps p.tables e below (s₁.setTop (mkF m 9 _ [])) _
    refine XS.iloadN X0.here hx rfl (hb hby d5_9) rfl ?_
    show Steps p.tables e below (s₁.setTop (mkF m 10 _ [(.int (((0 : Int32) + (1 : Int32)) + (1 : Int32)))])) _
    refine XS.aloadN X0.here hx rfl (hb hby d5_10) rfl rfl ?_
    exact kt
  obtain ⟨cl9, Ar9, q9, S9, P9, H9, G9⟩ := id V_b1
  refine own_pre (B := (s₁.setTop (mkF m 17 #[.val (.ref b1), .val (.ref b2), .val (.int (((0 : Int32) + (1 : Int32)) + (1 : Int32)))] [(.int (((0 : Int32) + (1 : Int32)) + (1 : Int32))), (.ref b1)]))) (fun t kt => ?_) ?_
  · show Steps p.tables e below (s₁.setTop (mkF m 11 _ [(.ref b1), (.int (((0 : Int32) + (1 : Int32)) + (1 : Int32)))])) _
    refine X0.arraylength hx (by rw [e0]; exact Ar9.1) (State.isArrayOf_alike hZ.alike Ar9.2.1) (g := (mkF m 11 #[.val (.ref b1), .val (.ref b2), .val (.int (((0 : Int32) + (1 : Int32)) + (1 : Int32)))] [(.ref b1), (.int (((0 : Int32) + (1 : Int32)) + (1 : Int32)))])) rfl rfl (hb hby d5_11) _ ?_
    rw [len_of S9 P9]
    show Steps p.tables e below (s₁.setTop (mkF m 12 _ [(.int (3 : Int32)), (.int (((0 : Int32) + (1 : Int32)) + (1 : Int32)))])) _
    refine XS.icmpNo X0.here hx rfl (hb hby d5_12) rfl (tlt ((by decide) : (((0 : Int32) + (1 : Int32)) + (1 : Int32)) < (3 : Int32))).2.1 ?_
    show Steps p.tables e below (s₁.setTop (mkF m 15 _ [])) _
    refine XS.aloadN X0.here hx rfl (hb hby d5_15) rfl rfl ?_
    show Steps p.tables e below (s₁.setTop (mkF m 16 _ [(.ref b1)])) _
    refine XS.iloadN X0.here hx rfl (hb hby d5_16) rfl ?_
    exact kt
  obtain ⟨cl10, Ar10, q10, S10, P10, H10, G10⟩ := id V_b1
  have in10 := inb_of S10 (⟨by decide, by decide⟩ : ¬ (((0 : Int32) + (1 : Int32)) + (1 : Int32)) < 0 ∧ (((0 : Int32) + (1 : Int32)) + (1 : Int32)) < (3 : Int32))
  have at10 : cl10.slots[((((0 : Int32) + (1 : Int32)) + (1 : Int32))).toNatClampNeg]? = some (.int (104 : Int32)) := Has.at H10 in10 (by decide)
  refine own_pre (B := (s₁.setTop (mkF m 20 #[.val (.ref b1), .val (.ref b2), .val (.int (((0 : Int32) + (1 : Int32)) + (1 : Int32)))] [(.int (((0 : Int32) + (1 : Int32)) + (1 : Int32))), (.ref b2), (.int (104 : Int32))]))) (fun t kt => ?_) ?_
  · show Steps p.tables e below (s₁.setTop (mkF m 17 _ [(.int (((0 : Int32) + (1 : Int32)) + (1 : Int32))), (.ref b1)])) _
    refine X0.baloadBytes hx (j := (((0 : Int32) + (1 : Int32)) + (1 : Int32))) (v := (.int (104 : Int32))) (by rw [e0]; exact Ar10.1) (State.isArrayOf_alike hZ.alike Ar10.2.1) Ar10.2.2 in10 at10 (g := (mkF m 17 #[.val (.ref b1), .val (.ref b2), .val (.int (((0 : Int32) + (1 : Int32)) + (1 : Int32)))] [(.int (((0 : Int32) + (1 : Int32)) + (1 : Int32))), (.ref b1)])) rfl rfl (hb hby d5_17) _ ?_
    show Steps p.tables e below (s₁.setTop (mkF m 18 _ [(.int (104 : Int32))])) _
    refine XS.aloadN X0.here hx rfl (hb hby d5_18) rfl rfl ?_
    show Steps p.tables e below (s₁.setTop (mkF m 19 _ [(.ref b2), (.int (104 : Int32))])) _
    refine XS.iloadN X0.here hx rfl (hb hby d5_19) rfl ?_
    exact kt
  obtain ⟨cl11, Ar11, q11, S11, P11, H11, G11⟩ := id V_b2
  have in11 := inb_of S11 (⟨by decide, by decide⟩ : ¬ (((0 : Int32) + (1 : Int32)) + (1 : Int32)) < 0 ∧ (((0 : Int32) + (1 : Int32)) + (1 : Int32)) < (3 : Int32))
  have at11 : cl11.slots[((((0 : Int32) + (1 : Int32)) + (1 : Int32))).toNatClampNeg]? = some (.int (104 : Int32)) := Has.at H11 in11 (by decide)
  refine own_pre (B := (s₁.setTop (mkF m 11 #[.val (.ref b1), .val (.ref b2), .val (.int ((((0 : Int32) + (1 : Int32)) + (1 : Int32)) + (1 : Int32)))] [(.ref b1), (.int ((((0 : Int32) + (1 : Int32)) + (1 : Int32)) + (1 : Int32)))]))) (fun t kt => ?_) ?_
  · show Steps p.tables e below (s₁.setTop (mkF m 20 _ [(.int (((0 : Int32) + (1 : Int32)) + (1 : Int32))), (.ref b2), (.int (104 : Int32))])) _
    refine X0.baloadBytes hx (j := (((0 : Int32) + (1 : Int32)) + (1 : Int32))) (v := (.int (104 : Int32))) (by rw [e0]; exact Ar11.1) (State.isArrayOf_alike hZ.alike Ar11.2.1) Ar11.2.2 in11 at11 (g := (mkF m 20 #[.val (.ref b1), .val (.ref b2), .val (.int (((0 : Int32) + (1 : Int32)) + (1 : Int32)))] [(.int (((0 : Int32) + (1 : Int32)) + (1 : Int32))), (.ref b2), (.int (104 : Int32))])) rfl rfl (hb hby d5_20) _ ?_
    show Steps p.tables e below (s₁.setTop (mkF m 21 _ [(.int (104 : Int32)), (.int (104 : Int32))])) _
    refine XS.icmpYes X0.here hx rfl (pc0 := 21) (pc' := 26) rfl (hb hby d5_21) rfl (teq (rfl : (104 : Int32) = (104 : Int32))).1 (by decide) (by decide) ?_
    show Steps p.tables e below (s₁.setTop (mkF m 26 _ [])) _
    refine XS.iinc X0.here hx rfl (hb hby d5_26) rfl (l' := #[.val (.ref b1), .val (.ref b2), .val (.int ((((0 : Int32) + (1 : Int32)) + (1 : Int32)) + (1 : Int32)))]) rfl ?_
    show Steps p.tables e below (s₁.setTop (mkF m 29 _ [])) _
    refine XS.goto X0.here hx rfl (pc0 := 29) (pc' := 9) rfl (hb hby d5_29) (by decide) (by decide) ?_
    show Steps p.tables e below (s₁.setTop (mkF m 9 _ [])) _
    refine XS.iloadN X0.here hx rfl (hb hby d5_9) rfl ?_
    show Steps p.tables e below (s₁.setTop (mkF m 10 _ [(.int ((((0 : Int32) + (1 : Int32)) + (1 : Int32)) + (1 : Int32)))])) _
    refine XS.aloadN X0.here hx rfl (hb hby d5_10) rfl rfl ?_
    exact kt
  obtain ⟨cl12, Ar12, q12, S12, P12, H12, G12⟩ := id V_b1
  refine own_pre (B := (s₁.setTop (mkF m 33 #[.val (.ref b1), .val (.ref b2), .val (.int ((((0 : Int32) + (1 : Int32)) + (1 : Int32)) + (1 : Int32)))] [(.int (1 : Int32))]))) (fun t kt => ?_) ?_
  · show Steps p.tables e below (s₁.setTop (mkF m 11 _ [(.ref b1), (.int ((((0 : Int32) + (1 : Int32)) + (1 : Int32)) + (1 : Int32)))])) _
    refine X0.arraylength hx (by rw [e0]; exact Ar12.1) (State.isArrayOf_alike hZ.alike Ar12.2.1) (g := (mkF m 11 #[.val (.ref b1), .val (.ref b2), .val (.int ((((0 : Int32) + (1 : Int32)) + (1 : Int32)) + (1 : Int32)))] [(.ref b1), (.int ((((0 : Int32) + (1 : Int32)) + (1 : Int32)) + (1 : Int32)))])) rfl rfl (hb hby d5_11) _ ?_
    rw [len_of S12 P12]
    show Steps p.tables e below (s₁.setTop (mkF m 12 _ [(.int (3 : Int32)), (.int ((((0 : Int32) + (1 : Int32)) + (1 : Int32)) + (1 : Int32)))])) _
    refine XS.icmpYes X0.here hx rfl (pc0 := 12) (pc' := 32) rfl (hb hby d5_12) rfl (flt ((by decide) : ¬ (((((0 : Int32) + (1 : Int32)) + (1 : Int32)) + (1 : Int32)) < (3 : Int32)))).2.1 (by decide) (by decide) ?_
    show Steps p.tables e below (s₁.setTop (mkF m 32 _ [])) _
    refine XS.iconst X0.here hx rfl (hb hby d5_32) ?_
    exact kt
  exact own_fin X0 (some (.int (1 : Int32))) (fun h => by rw [Bd.returns] at h; cases h) (BodyLoose.notSynchronized Bd) e0 (fun fs hr => retN X0 hx (t := .boolean) Bd.returns (by simp) (hb hby d5_33) hr) ⟨rfl, N0, rfl⟩ (by decide) (by decide)
theorem ef_4_0 (m : MethodId) (x0 : Addr) (x1 : Addr) : entryFrame m #[(.ref x0), (.ref x1)] 3 = mkF m 0 #[.val (.ref x0), .val (.ref x1), .unset] [] := by first | (simp [entryFrame, mkF, argsToLocals, Value.category]; done) | rfl
def Q4_0 (Z : State) (a1 a2 b1 b2 : Addr) (k1 k2 : ClassId) (cz : Int32) (h0 : Heap) (n0 : Nat) (v : Option Value) (h : Heap) (L : List Loc) : Prop := v = some (.int 1) ∧ Fr n0 L ∧ h = h0
set_option maxRecDepth 65536 in
set_option maxHeartbeats 40000000 in
theorem rm4_0 (l : Launch) (Z : State) (a0 : Array Value) (hw : ∀ d ∈ tables_1, d.before a0 Z = true) (ws : List Jvm.Cond) (a1 a2 b1 b2 : Addr) (k1 k2 : ClassId) (cz : Int32) (h0 : Heap) (n0 : Nat) (Z0 : n0 ≤ h0.size) (E_a2 : Exa Z h0 a2 "java/lang/String") (C_a1 : Fld Z h0 a1 "java/lang/String" "coder" "B" (.int (0 : Int32))) (F_a1 : Fld Z h0 a1 "java/lang/String" "value" "[B" (.ref b1)) (C_a2 : Fld Z h0 a2 "java/lang/String" "coder" "B" (.int (0 : Int32))) (F_a2 : Fld Z h0 a2 "java/lang/String" "value" "[B" (.ref b2)) (V_b1 : Arv Z h0 b1 k1 .byte (3 : Int32) [(.int (107 : Int32)), (.int (87 : Int32)), (.int (104 : Int32))] (.int 0)) (V_b2 : Arv Z h0 b2 k2 .byte (3 : Int32) [(.int (107 : Int32)), (.int (87 : Int32)), (.int (104 : Int32))] (.int 0)) (S_CS : Sta Z Z.heap "java/lang/String" "COMPACT_STRINGS" "Z" (.int cz)) (hcs : ¬ (cz = (0 : Int32))) (X00 : Old Z n0 h0) :
    MetFree l (⟨"java/lang/String", "equals", "(Ljava/lang/Object;)Z"⟩ : MethodName) (head1 (Jvm.Cond.code (⟨"java/lang/String", "equals", "(Ljava/lang/Object;)Z"⟩ : MethodName) jdk_42_method_66_code 3 (some .boolean) :: ws) ({ frames := 1, cells := 0, slots := 0, locals := 14 } : Room)) (fun a U => a = #[(.ref a1), (.ref a2)] ∧ Z.Warmed39 U.vm ∧ U.heap = h0) (fun _ _ _ _ _ => True) (fun _ U o U' => ∃ v L, o = .returned v ∧ Q4_0 Z a1 a2 b1 b2 k1 k2 cz h0 n0 v U'.heap L ∧ FrameEnd U o U' L ({ frames := 1, cells := 0, slots := 0, locals := 14 } : Room).cells ({ frames := 1, cells := 0, slots := 0, locals := 14 } : Room).slots) := by
  refine MetFree.of_bodySF (plainFor_of_name pn_4) hisR ?_
  intro p e s m args below meth c s₁ Bd hml0 hP hK
  obtain ⟨rfl, hZ, hh⟩ := hP
  have hx := Bd.exec
  have hby := Bd.bytes
  have hml : c.maxLocals = 3 := hml0
  have hown : s.vm.findClass "java/lang/String" = some m.cls := findClass_of_methodNamed Bd.named
  have hnm := (name_of_methodNamed Bd.named Bd.method).1
  have X0 : Stand p l e ({ frames := 1, cells := 0, slots := 0, locals := 14 } : Room) s m #[(.ref a1), (.ref a2)] below meth c s₁ [] 0 0 := Stand.of_body Bd
  have e0 : s₁.heap = h0 := by rw [← hh, Bd.state]; rfl
  have N0 := Fr.nil n0
  show own_Ends p e below s ({ frames := 1, cells := 0, slots := 0, locals := 14 } : Room).cells ({ frames := 1, cells := 0, slots := 0, locals := 14 } : Room).slots (Q4_0 Z a1 a2 b1 b2 k1 k2 cz h0 n0) (s₁.setTop (entryFrame m #[(.ref a1), (.ref a2)] 3))
  rw [ef_4_0 m a1 a2]
  refine own_pre (B := (s₁.setTop (mkF m 2 #[.val (.ref a1), .val (.ref a2), .unset] [(.ref a2), (.ref a1)]))) (fun t kt => ?_) ?_
  · show Steps p.tables e below (s₁.setTop (mkF m 0 _ [])) _
    refine XS.aloadN X0.here hx rfl (hb hby d4_0) rfl rfl ?_
    show Steps p.tables e below (s₁.setTop (mkF m 1 _ [(.ref a1)])) _
    refine XS.aloadN X0.here hx rfl (hb hby d4_1) rfl rfl ?_
    exact kt
  by_cases ha2 : a1 = a2
  · refine own_pre (B := (s₁.setTop (mkF m 5 #[.val (.ref a1), .val (.ref a2), .unset] []))) (fun t kt => ?_) ?_
    · show Steps p.tables e below (s₁.setTop (mkF m 2 _ [(.ref a2), (.ref a1)])) _
      refine Jvm.RoadKit.acmp (g := (mkF m 2 #[.val (.ref a1), .val (.ref a2), .unset] [(.ref a2), (.ref a1)])) X0 hx rfl rfl rfl (pc0 := 2) (pc' := 5) (same := true) rfl (hb hby d4_2) rfl (decide_eq_true (congrArg Value.ref ha2)) (by decide) (by decide) ?_
      exact kt
    refine own_pre (B := (s₁.setTop (mkF m 6 #[.val (.ref a1), .val (.ref a2), .unset] [(.int (1 : Int32))]))) (fun t kt => ?_) ?_
    · show Steps p.tables e below (s₁.setTop (mkF m 5 _ [])) _
      refine XS.iconst X0.here hx rfl (hb hby d4_5) ?_
      exact kt
    exact own_fin X0 (some (.int (1 : Int32))) (fun h => by rw [Bd.returns] at h; cases h) (BodyLoose.notSynchronized Bd) e0 (fun fs hr => retN X0 hx (t := .boolean) Bd.returns (by simp) (hb hby d4_6) hr) ⟨rfl, N0, rfl⟩ (by decide) (by decide)
  · refine own_pre (B := (s₁.setTop (mkF m 7 #[.val (.ref a1), .val (.ref a2), .unset] []))) (fun t kt => ?_) ?_
    · show Steps p.tables e below (s₁.setTop (mkF m 2 _ [(.ref a2), (.ref a1)])) _
      refine Jvm.RoadKit.acmp (g := (mkF m 2 #[.val (.ref a1), .val (.ref a2), .unset] [(.ref a2), (.ref a1)])) X0 hx rfl rfl rfl (pc0 := 2) (pc' := 7) (same := false) rfl (hb hby d4_2) rfl (decide_eq_false fun q => ha2 (Value.ref.inj q)) (by decide) (by decide) ?_
      exact kt
    refine own_pre (B := (s₁.setTop (mkF m 8 #[.val (.ref a1), .val (.ref a2), .unset] [(.ref a2)]))) (fun t kt => ?_) ?_
    · show Steps p.tables e below (s₁.setTop (mkF m 7 _ [])) _
      refine XS.aloadN X0.here hx rfl (hb hby d4_7) rfl rfl ?_
      exact kt
    obtain ⟨T1, X1, e1, st1⟩ := instY X0 hx hZ hown (hw _ (List.mem_of_getElem? (i := 33) rfl)) e0 (Ins.self E_a2) (g := (mkF m 8 #[.val (.ref a1), .val (.ref a2), .unset] [(.ref a2)])) rfl rfl (hb hby d4_8)
    refine own_pre (B := (T1.setTop (mkF m 15 #[.val (.ref a1), .val (.ref a2), .unset] [(.ref a2)]))) (fun t kt => ?_) ?_
    · show Steps p.tables e below (s₁.setTop (mkF m 8 _ [(.ref a2)])) _
      refine st1 _ ?_
      show Steps p.tables e below (T1.setTop (mkF m 11 _ [(.int (1 : Int32))])) _
      refine XS.ifNo X1.here hx rfl (hb hby d4_11) rfl ((if0 _ _).trans (feq ((by decide) : ¬ ((1 : Int32) = (0 : Int32)))).1) ?_
      show Steps p.tables e below (T1.setTop (mkF m 14 _ [])) _
      refine XS.aloadN X1.here hx rfl (hb hby d4_14) rfl rfl ?_
      exact kt
    obtain ⟨T2, X2, e2, st2⟩ := castY X1 hx hZ hown (hw _ (List.mem_of_getElem? (i := 33) rfl)) e1 (Ins.self E_a2) (g := (mkF m 15 #[.val (.ref a1), .val (.ref a2), .unset] [(.ref a2)])) rfl rfl (hb hby d4_15)
    refine own_pre (B := (T2.setTop (mkF m 19 #[.val (.ref a1), .val (.ref a2), .val (.ref a2)] []))) (fun t kt => ?_) ?_
    · show Steps p.tables e below (T1.setTop (mkF m 15 _ [(.ref a2)])) _
      refine st2 _ ?_
      show Steps p.tables e below (T2.setTop (mkF m 18 _ [(.ref a2)])) _
      refine XS.astoreN X2.here hx rfl (hb hby d4_18) rfl rfl (l' := #[.val (.ref a1), .val (.ref a2), .val (.ref a2)]) rfl ?_
      exact kt
    obtain ⟨T3, X3, e3, st3⟩ := getS2 X2 hx hZ hown (host := "") (Or.inl (hw _ (List.mem_of_getElem? (i := 35) rfl))) Via.refl e2 (S_CS.ext X00.2) (g := (mkF m 19 #[.val (.ref a1), .val (.ref a2), .val (.ref a2)] [])) rfl (hb hby d4_19)
    refine own_pre (B := (T3.setTop (mkF m 26 #[.val (.ref a1), .val (.ref a2), .val (.ref a2)] [(.ref a1)]))) (fun t kt => ?_) ?_
    · show Steps p.tables e below (T2.setTop (mkF m 19 _ [])) _
      refine st3 _ ?_
      show Steps p.tables e below (T3.setTop (mkF m 22 _ [(.int cz)])) _
      refine XS.ifNo X3.here hx rfl (hb hby d4_22) rfl ((if0 _ _).trans (feq (hcs : ¬ (cz = (0 : Int32)))).1) ?_
      show Steps p.tables e below (T3.setTop (mkF m 25 _ [])) _
      refine XS.aloadN X3.here hx rfl (hb hby d4_25) rfl rfl ?_
      exact kt
    obtain ⟨T4, X4, e4, st4⟩ := getF X3 hx hZ hown (host := "") (Or.inl (hw _ (List.mem_of_getElem? (i := 36) rfl))) Via.refl e3 C_a1 (g := (mkF m 26 #[.val (.ref a1), .val (.ref a2), .val (.ref a2)] [(.ref a1)])) rfl rfl (hb hby d4_26)
    refine own_pre (B := (T4.setTop (mkF m 30 #[.val (.ref a1), .val (.ref a2), .val (.ref a2)] [(.ref a2), (.int (0 : Int32))]))) (fun t kt => ?_) ?_
    · show Steps p.tables e below (T3.setTop (mkF m 26 _ [(.ref a1)])) _
      refine st4 _ ?_
      show Steps p.tables e below (T4.setTop (mkF m 29 _ [(.int (0 : Int32))])) _
      refine XS.aloadN X4.here hx rfl (hb hby d4_29) rfl rfl ?_
      exact kt
    obtain ⟨T5, X5, e5, st5⟩ := getF X4 hx hZ hown (host := "") (Or.inl (hw _ (List.mem_of_getElem? (i := 36) rfl))) Via.refl e4 C_a2 (g := (mkF m 30 #[.val (.ref a1), .val (.ref a2), .val (.ref a2)] [(.ref a2), (.int (0 : Int32))])) rfl rfl (hb hby d4_30)
    refine own_pre (B := (T5.setTop (mkF m 37 #[.val (.ref a1), .val (.ref a2), .val (.ref a2)] [(.ref a1)]))) (fun t kt => ?_) ?_
    · show Steps p.tables e below (T4.setTop (mkF m 30 _ [(.ref a2), (.int (0 : Int32))])) _
      refine st5 _ ?_
      show Steps p.tables e below (T5.setTop (mkF m 33 _ [(.int (0 : Int32)), (.int (0 : Int32))])) _
      refine XS.icmpNo X5.here hx rfl (hb hby d4_33) rfl (teq (rfl : (0 : Int32) = (0 : Int32))).2 ?_
      show Steps p.tables e below (T5.setTop (mkF m 36 _ [])) _
      refine XS.aloadN X5.here hx rfl (hb hby d4_36) rfl rfl ?_
      exact kt
    obtain ⟨T6, X6, e6, st6⟩ := getF X5 hx hZ hown (host := "") (Or.inl (hw _ (List.mem_of_getElem? (i := 37) rfl))) Via.refl e5 F_a1 (g := (mkF m 37 #[.val (.ref a1), .val (.ref a2), .val (.ref a2)] [(.ref a1)])) rfl rfl (hb hby d4_37)
    refine own_pre (B := (T6.setTop (mkF m 41 #[.val (.ref a1), .val (.ref a2), .val (.ref a2)] [(.ref a2), (.ref b1)]))) (fun t kt => ?_) ?_
    · show Steps p.tables e below (T5.setTop (mkF m 37 _ [(.ref a1)])) _
      refine st6 _ ?_
      show Steps p.tables e below (T6.setTop (mkF m 40 _ [(.ref b1)])) _
      refine XS.aloadN X6.here hx rfl (hb hby d4_40) rfl rfl ?_
      exact kt
    obtain ⟨T7, X7, e7, st7⟩ := getF X6 hx hZ hown (host := "") (Or.inl (hw _ (List.mem_of_getElem? (i := 37) rfl))) Via.refl e6 F_a2 (g := (mkF m 41 #[.val (.ref a1), .val (.ref a2), .val (.ref a2)] [(.ref a2), (.ref b1)])) rfl rfl (hb hby d4_41)
    refine own_pre (B := (T7.setTop (mkF m 44 #[.val (.ref a1), .val (.ref a2), .val (.ref a2)] [(.ref b2), (.ref b1)]))) (fun t kt => ?_) ?_
    · show Steps p.tables e below (T6.setTop (mkF m 41 _ [(.ref a2), (.ref b1)])) _
      refine st7 _ ?_
      exact kt
    obtain ⟨_, _, ⟨T8, L8, k8, n8⟩, -, X8, ⟨Lc8, hQ8, l8, y8, z8⟩, st8⟩ := Jvm.LawKit.callS X7 hx (y := (⟨"java/lang/StringLatin1", "equals", "([B[B)Z"⟩ : MethodName)) hown (mvT hZ (hw _ (List.mem_of_getElem? (i := 38) rfl))) (mvT hZ (hw _ (List.mem_of_getElem? (i := 39) rfl))) (mvT hZ (hw _ (List.mem_of_getElem? (i := 40) rfl))) (mvT hZ (hw _ (List.mem_of_getElem? (i := 41) rfl))) (by decide) (backOf (W := 0) (rm5_0 l Z a0 hw [] b1 b2 k1 k2 h0 n0 Z0 V_b1 V_b2) hZ (hw _ (List.mem_of_getElem? (i := 41) rfl)) (hw _ (List.mem_of_getElem? (i := 40) rfl)) (by decide) (by decide)) (g := (mkF m 44 #[.val (.ref a1), .val (.ref a2), .val (.ref a2)] [(.ref b2), (.ref b1)])) rfl (by rw [hml]; rfl) (argsL := [(.ref b1), (.ref b2)]) (rest := []) (lenOf pd_4 rfl) rfl (by show 2 * 0 + _ ≤ _; exact Nat.le_of_eq rfl) (hb hby d4_44) (fun _ _ => ⟨rfl, e7, (by decide : 0 + 0 ≤ _), (by decide : 0 + 0 ≤ _)⟩)
    dsimp only [Pt.U, Pt.locs, Pt.cells, Pt.slots] at X8 l8 y8 z8 st8 hQ8
    subst l8 y8 z8
    obtain ⟨rfl, N8q, e8⟩ := hQ8
    have N8 := Fr.app N0 N8q
    refine own_pre (B := (T8.setTop (mkF m 55 #[.val (.ref a1), .val (.ref a2), .val (.ref a2)] [(.int (1 : Int32))]))) (fun t kt => ?_) ?_
    · refine st8 _ ?_
      show Steps p.tables e below (T8.setTop (mkF m 47 _ [(.int (1 : Int32))])) _
      refine XS.ifNo X8.here hx rfl (hb hby d4_47) rfl ((if0 _ _).trans (feq ((by decide) : ¬ ((1 : Int32) = (0 : Int32)))).1) ?_
      show Steps p.tables e below (T8.setTop (mkF m 50 _ [])) _
      refine XS.iconst X8.here hx rfl (hb hby d4_50) ?_
      show Steps p.tables e below (T8.setTop (mkF m 51 _ [(.int (1 : Int32))])) _
      refine XS.goto X8.here hx rfl (pc0 := 51) (pc' := 55) rfl (hb hby d4_51) (by decide) (by decide) ?_
      exact kt
    exact own_fin X8 (some (.int (1 : Int32))) (fun h => by rw [Bd.returns] at h; cases h) (BodyLoose.notSynchronized Bd) e8 (fun fs hr => retN X8 hx (t := .boolean) Bd.returns (by simp) (hb hby d4_55) hr) ⟨rfl, N8, rfl⟩ (by decide) (by decide)
theorem ef_5_1 (m : MethodId) (x0 : Addr) (x1 : Addr) : entryFrame m #[(.ref x0), (.ref x1)] 3 = mkF m 0 #[.val (.ref x0), .val (.ref x1), .unset] [] := by first | (simp [entryFrame, mkF, argsToLocals, Value.category]; done) | rfl
def Q5_1 (Z : State) (b1 b2 : Addr) (k1 k2 : ClassId) (h0 : Heap) (n0 : Nat) (v : Option Value) (h : Heap) (L : List Loc) : Prop := v = some (.int 0) ∧ Fr n0 L ∧ h = h0
set_option maxRecDepth 65536 in
set_option maxHeartbeats 40000000 in
theorem rm5_1 (l : Launch) (Z : State) (a0 : Array Value) (hw : ∀ d ∈ tables_1, d.before a0 Z = true) (ws : List Jvm.Cond) (b1 b2 : Addr) (k1 k2 : ClassId) (h0 : Heap) (n0 : Nat) (Z0 : n0 ≤ h0.size) (V_b1 : Arv Z h0 b1 k1 .byte (3 : Int32) [(.int (77 : Int32)), (.int (87 : Int32)), (.int (104 : Int32))] (.int 0)) (V_b2 : Arv Z h0 b2 k2 .byte (3 : Int32) [(.int (107 : Int32)), (.int (87 : Int32)), (.int (104 : Int32))] (.int 0)) :
    MetFree l (⟨"java/lang/StringLatin1", "equals", "([B[B)Z"⟩ : MethodName) (head1 (Jvm.Cond.code (⟨"java/lang/StringLatin1", "equals", "([B[B)Z"⟩ : MethodName) jdk_43_method_13_code 3 (some .boolean) :: ws) ({ frames := 0, cells := 0, slots := 0, locals := 0 } : Room)) (fun a U => a = #[(.ref b1), (.ref b2)] ∧ Z.Warmed39 U.vm ∧ U.heap = h0) (fun _ _ _ _ _ => True) (fun _ U o U' => ∃ v L, o = .returned v ∧ Q5_1 Z b1 b2 k1 k2 h0 n0 v U'.heap L ∧ FrameEnd U o U' L ({ frames := 0, cells := 0, slots := 0, locals := 0 } : Room).cells ({ frames := 0, cells := 0, slots := 0, locals := 0 } : Room).slots) := by
  refine MetFree.of_bodySF (plainFor_of_name pn_5) hisR ?_
  intro p e s m args below meth c s₁ Bd hml0 hP hK
  obtain ⟨rfl, hZ, hh⟩ := hP
  have hx := Bd.exec
  have hby := Bd.bytes
  have hml : c.maxLocals = 3 := hml0
  have hown : s.vm.findClass "java/lang/StringLatin1" = some m.cls := findClass_of_methodNamed Bd.named
  have hnm := (name_of_methodNamed Bd.named Bd.method).1
  have X0 : Stand p l e ({ frames := 0, cells := 0, slots := 0, locals := 0 } : Room) s m #[(.ref b1), (.ref b2)] below meth c s₁ [] 0 0 := Stand.of_body Bd
  have e0 : s₁.heap = h0 := by rw [← hh, Bd.state]; rfl
  have N0 := Fr.nil n0
  show own_Ends p e below s ({ frames := 0, cells := 0, slots := 0, locals := 0 } : Room).cells ({ frames := 0, cells := 0, slots := 0, locals := 0 } : Room).slots (Q5_1 Z b1 b2 k1 k2 h0 n0) (s₁.setTop (entryFrame m #[(.ref b1), (.ref b2)] 3))
  rw [ef_5_1 m b1 b2]
  refine own_pre (B := (s₁.setTop (mkF m 1 #[.val (.ref b1), .val (.ref b2), .unset] [(.ref b1)]))) (fun t kt => ?_) ?_
  · show Steps p.tables e below (s₁.setTop (mkF m 0 _ [])) _
    refine XS.aloadN X0.here hx rfl (hb hby d5_0) rfl rfl ?_
    exact kt
  obtain ⟨cl1, Ar1, q1, S1, P1, H1, G1⟩ := id V_b1
  refine own_pre (B := (s₁.setTop (mkF m 3 #[.val (.ref b1), .val (.ref b2), .unset] [(.ref b2), (.int (3 : Int32))]))) (fun t kt => ?_) ?_
  · show Steps p.tables e below (s₁.setTop (mkF m 1 _ [(.ref b1)])) _
    refine X0.arraylength hx (by rw [e0]; exact Ar1.1) (State.isArrayOf_alike hZ.alike Ar1.2.1) (g := (mkF m 1 #[.val (.ref b1), .val (.ref b2), .unset] [(.ref b1)])) rfl rfl (hb hby d5_1) _ ?_
    rw [len_of S1 P1]
    show Steps p.tables e below (s₁.setTop (mkF m 2 _ [(.int (3 : Int32))])) _
    refine XS.aloadN X0.here hx rfl (hb hby d5_2) rfl rfl ?_
    exact kt
  obtain ⟨cl2, Ar2, q2, S2, P2, H2, G2⟩ := id V_b2
  refine own_pre (B := (s₁.setTop (mkF m 11 #[.val (.ref b1), .val (.ref b2), .val (.int (0 : Int32))] [(.ref b1), (.int (0 : Int32))]))) (fun t kt => ?_) ?_
  · show Steps p.tables e below (s₁.setTop (mkF m 3 _ [(.ref b2), (.int (3 : Int32))])) _
    refine X0.arraylength hx (by rw [e0]; exact Ar2.1) (State.isArrayOf_alike hZ.alike Ar2.2.1) (g := (mkF m 3 #[.val (.ref b1), .val (.ref b2), .unset] [(.ref b2), (.int (3 : Int32))])) rfl rfl (hb hby d5_3) _ ?_
    rw [len_of S2 P2]
    show Steps p.tables e below (s₁.setTop (mkF m 4 _ [(.int (3 : Int32)), (.int (3 : Int32))])) _
    refine XS.icmpNo X0.here hx rfl (hb hby d5_4) rfl (teq (rfl : (3 : Int32) = (3 : Int32))).2 ?_
    show Steps p.tables e below (s₁.setTop (mkF m 7 _ [])) _
    refine XS.iconst X0.here hx rfl (hb hby d5_7) ?_
    show Steps p.tables e below (s₁.setTop (mkF m 8 _ [(.int (0 : Int32))])) _
    refine XS.istoreN X0.here hx rfl (hb hby d5_8) rfl (l' := #[.val (.ref b1), .val (.ref b2), .val (.int (0 : Int32))]) rfl ?_
    show Steps p.tables e below (s₁.setTop (mkF m 9 _ [])) _
    refine XS.iloadN X0.here hx rfl (hb hby d5_9) rfl ?_
    show Steps p.tables e below (s₁.setTop (mkF m 10 _ [(.int (0 : Int32))])) _
    refine XS.aloadN X0.here hx rfl (hb hby d5_10) rfl rfl ?_
    exact kt
  obtain ⟨cl3, Ar3, q3, S3, P3, H3, G3⟩ := id V_b1
  refine own_pre (B := (s₁.setTop (mkF m 17 #[.val (.ref b1), .val (.ref b2), .val (.int (0 : Int32))] [(.int (0 : Int32)), (.ref b1)]))) (fun t kt => ?_) ?_
  · show Steps p.tables e below (s₁.setTop (mkF m 11 _ [(.ref b1), (.int (0 : Int32))])) _
    refine X0.arraylength hx (by rw [e0]; exact Ar3.1) (State.isArrayOf_alike hZ.alike Ar3.2.1) (g := (mkF m 11 #[.val (.ref b1), .val (.ref b2), .val (.int (0 : Int32))] [(.ref b1), (.int (0 : Int32))])) rfl rfl (hb hby d5_11) _ ?_
    rw [len_of S3 P3]
    show Steps p.tables e below (s₁.setTop (mkF m 12 _ [(.int (3 : Int32)), (.int (0 : Int32))])) _
    refine XS.icmpNo X0.here hx rfl (hb hby d5_12) rfl (tlt ((by decide) : (0 : Int32) < (3 : Int32))).2.1 ?_
    show Steps p.tables e below (s₁.setTop (mkF m 15 _ [])) _
    refine XS.aloadN X0.here hx rfl (hb hby d5_15) rfl rfl ?_
    show Steps p.tables e below (s₁.setTop (mkF m 16 _ [(.ref b1)])) _
    refine XS.iloadN X0.here hx rfl (hb hby d5_16) rfl ?_
    exact kt
  obtain ⟨cl4, Ar4, q4, S4, P4, H4, G4⟩ := id V_b1
  have in4 := inb_of S4 (⟨by decide, by decide⟩ : ¬ (0 : Int32) < 0 ∧ (0 : Int32) < (3 : Int32))
  have at4 : cl4.slots[((0 : Int32)).toNatClampNeg]? = some (.int (77 : Int32)) := Has.at H4 in4 (by decide)
  refine own_pre (B := (s₁.setTop (mkF m 20 #[.val (.ref b1), .val (.ref b2), .val (.int (0 : Int32))] [(.int (0 : Int32)), (.ref b2), (.int (77 : Int32))]))) (fun t kt => ?_) ?_
  · show Steps p.tables e below (s₁.setTop (mkF m 17 _ [(.int (0 : Int32)), (.ref b1)])) _
    refine X0.baloadBytes hx (j := (0 : Int32)) (v := (.int (77 : Int32))) (by rw [e0]; exact Ar4.1) (State.isArrayOf_alike hZ.alike Ar4.2.1) Ar4.2.2 in4 at4 (g := (mkF m 17 #[.val (.ref b1), .val (.ref b2), .val (.int (0 : Int32))] [(.int (0 : Int32)), (.ref b1)])) rfl rfl (hb hby d5_17) _ ?_
    show Steps p.tables e below (s₁.setTop (mkF m 18 _ [(.int (77 : Int32))])) _
    refine XS.aloadN X0.here hx rfl (hb hby d5_18) rfl rfl ?_
    show Steps p.tables e below (s₁.setTop (mkF m 19 _ [(.ref b2), (.int (77 : Int32))])) _
    refine XS.iloadN X0.here hx rfl (hb hby d5_19) rfl ?_
    exact kt
  obtain ⟨cl5, Ar5, q5, S5, P5, H5, G5⟩ := id V_b2
  have in5 := inb_of S5 (⟨by decide, by decide⟩ : ¬ (0 : Int32) < 0 ∧ (0 : Int32) < (3 : Int32))
  have at5 : cl5.slots[((0 : Int32)).toNatClampNeg]? = some (.int (107 : Int32)) := Has.at H5 in5 (by decide)
  refine own_pre (B := (s₁.setTop (mkF m 25 #[.val (.ref b1), .val (.ref b2), .val (.int (0 : Int32))] [(.int (0 : Int32))]))) (fun t kt => ?_) ?_
  · show Steps p.tables e below (s₁.setTop (mkF m 20 _ [(.int (0 : Int32)), (.ref b2), (.int (77 : Int32))])) _
    refine X0.baloadBytes hx (j := (0 : Int32)) (v := (.int (107 : Int32))) (by rw [e0]; exact Ar5.1) (State.isArrayOf_alike hZ.alike Ar5.2.1) Ar5.2.2 in5 at5 (g := (mkF m 20 #[.val (.ref b1), .val (.ref b2), .val (.int (0 : Int32))] [(.int (0 : Int32)), (.ref b2), (.int (77 : Int32))])) rfl rfl (hb hby d5_20) _ ?_
    show Steps p.tables e below (s₁.setTop (mkF m 21 _ [(.int (107 : Int32)), (.int (77 : Int32))])) _
    refine XS.icmpNo X0.here hx rfl (hb hby d5_21) rfl (feq ((by decide) : ¬ ((77 : Int32) = (107 : Int32)))).1 ?_
    show Steps p.tables e below (s₁.setTop (mkF m 24 _ [])) _
    refine XS.iconst X0.here hx rfl (hb hby d5_24) ?_
    exact kt
  exact own_fin X0 (some (.int (0 : Int32))) (fun h => by rw [Bd.returns] at h; cases h) (BodyLoose.notSynchronized Bd) e0 (fun fs hr => retN X0 hx (t := .boolean) Bd.returns (by simp) (hb hby d5_25) hr) ⟨rfl, N0, rfl⟩ (by decide) (by decide)
theorem ef_4_1 (m : MethodId) (x0 : Addr) (x1 : Addr) : entryFrame m #[(.ref x0), (.ref x1)] 3 = mkF m 0 #[.val (.ref x0), .val (.ref x1), .unset] [] := by first | (simp [entryFrame, mkF, argsToLocals, Value.category]; done) | rfl
def Q4_1 (Z : State) (a1 a2 b1 b2 : Addr) (k1 k2 : ClassId) (cz : Int32) (h0 : Heap) (n0 : Nat) (v : Option Value) (h : Heap) (L : List Loc) : Prop := v = some (.int 0) ∧ Fr n0 L ∧ h = h0
set_option maxRecDepth 65536 in
set_option maxHeartbeats 40000000 in
theorem rm4_1 (l : Launch) (Z : State) (a0 : Array Value) (hw : ∀ d ∈ tables_1, d.before a0 Z = true) (ws : List Jvm.Cond) (a1 a2 b1 b2 : Addr) (k1 k2 : ClassId) (cz : Int32) (h0 : Heap) (n0 : Nat) (Z0 : n0 ≤ h0.size) (E_a2 : Exa Z h0 a2 "java/lang/String") (C_a1 : Fld Z h0 a1 "java/lang/String" "coder" "B" (.int (0 : Int32))) (F_a1 : Fld Z h0 a1 "java/lang/String" "value" "[B" (.ref b1)) (C_a2 : Fld Z h0 a2 "java/lang/String" "coder" "B" (.int (0 : Int32))) (F_a2 : Fld Z h0 a2 "java/lang/String" "value" "[B" (.ref b2)) (V_b1 : Arv Z h0 b1 k1 .byte (3 : Int32) [(.int (77 : Int32)), (.int (87 : Int32)), (.int (104 : Int32))] (.int 0)) (V_b2 : Arv Z h0 b2 k2 .byte (3 : Int32) [(.int (107 : Int32)), (.int (87 : Int32)), (.int (104 : Int32))] (.int 0)) (S_CS : Sta Z Z.heap "java/lang/String" "COMPACT_STRINGS" "Z" (.int cz)) (hcs : ¬ (cz = (0 : Int32))) (X00 : Old Z n0 h0) (hne : ¬ (a1 = a2)) :
    MetFree l (⟨"java/lang/String", "equals", "(Ljava/lang/Object;)Z"⟩ : MethodName) (head1 (Jvm.Cond.code (⟨"java/lang/String", "equals", "(Ljava/lang/Object;)Z"⟩ : MethodName) jdk_42_method_66_code 3 (some .boolean) :: ws) ({ frames := 1, cells := 0, slots := 0, locals := 14 } : Room)) (fun a U => a = #[(.ref a1), (.ref a2)] ∧ Z.Warmed39 U.vm ∧ U.heap = h0) (fun _ _ _ _ _ => True) (fun _ U o U' => ∃ v L, o = .returned v ∧ Q4_1 Z a1 a2 b1 b2 k1 k2 cz h0 n0 v U'.heap L ∧ FrameEnd U o U' L ({ frames := 1, cells := 0, slots := 0, locals := 14 } : Room).cells ({ frames := 1, cells := 0, slots := 0, locals := 14 } : Room).slots) := by
  refine MetFree.of_bodySF (plainFor_of_name pn_4) hisR ?_
  intro p e s m args below meth c s₁ Bd hml0 hP hK
  obtain ⟨rfl, hZ, hh⟩ := hP
  have hx := Bd.exec
  have hby := Bd.bytes
  have hml : c.maxLocals = 3 := hml0
  have hown : s.vm.findClass "java/lang/String" = some m.cls := findClass_of_methodNamed Bd.named
  have hnm := (name_of_methodNamed Bd.named Bd.method).1
  have X0 : Stand p l e ({ frames := 1, cells := 0, slots := 0, locals := 14 } : Room) s m #[(.ref a1), (.ref a2)] below meth c s₁ [] 0 0 := Stand.of_body Bd
  have e0 : s₁.heap = h0 := by rw [← hh, Bd.state]; rfl
  have N0 := Fr.nil n0
  show own_Ends p e below s ({ frames := 1, cells := 0, slots := 0, locals := 14 } : Room).cells ({ frames := 1, cells := 0, slots := 0, locals := 14 } : Room).slots (Q4_1 Z a1 a2 b1 b2 k1 k2 cz h0 n0) (s₁.setTop (entryFrame m #[(.ref a1), (.ref a2)] 3))
  rw [ef_4_1 m a1 a2]
  refine own_pre (B := (s₁.setTop (mkF m 2 #[.val (.ref a1), .val (.ref a2), .unset] [(.ref a2), (.ref a1)]))) (fun t kt => ?_) ?_
  · show Steps p.tables e below (s₁.setTop (mkF m 0 _ [])) _
    refine XS.aloadN X0.here hx rfl (hb hby d4_0) rfl rfl ?_
    show Steps p.tables e below (s₁.setTop (mkF m 1 _ [(.ref a1)])) _
    refine XS.aloadN X0.here hx rfl (hb hby d4_1) rfl rfl ?_
    exact kt
  refine own_pre (B := (s₁.setTop (mkF m 8 #[.val (.ref a1), .val (.ref a2), .unset] [(.ref a2)]))) (fun t kt => ?_) ?_
  · show Steps p.tables e below (s₁.setTop (mkF m 2 _ [(.ref a2), (.ref a1)])) _
    refine Jvm.RoadKit.acmp (g := (mkF m 2 #[.val (.ref a1), .val (.ref a2), .unset] [(.ref a2), (.ref a1)])) X0 hx rfl rfl rfl (pc0 := 2) (pc' := 7) (same := false) rfl (hb hby d4_2) rfl (decide_eq_false fun q => hne (Value.ref.inj q)) (by decide) (by decide) ?_
    show Steps p.tables e below (s₁.setTop (mkF m 7 _ [])) _
    refine XS.aloadN X0.here hx rfl (hb hby d4_7) rfl rfl ?_
    exact kt
  obtain ⟨T1, X1, e1, st1⟩ := instY X0 hx hZ hown (hw _ (List.mem_of_getElem? (i := 33) rfl)) e0 (Ins.self E_a2) (g := (mkF m 8 #[.val (.ref a1), .val (.ref a2), .unset] [(.ref a2)])) rfl rfl (hb hby d4_8)
  refine own_pre (B := (T1.setTop (mkF m 15 #[.val (.ref a1), .val (.ref a2), .unset] [(.ref a2)]))) (fun t kt => ?_) ?_
  · show Steps p.tables e below (s₁.setTop (mkF m 8 _ [(.ref a2)])) _
    refine st1 _ ?_
    show Steps p.tables e below (T1.setTop (mkF m 11 _ [(.int (1 : Int32))])) _
    refine XS.ifNo X1.here hx rfl (hb hby d4_11) rfl ((if0 _ _).trans (feq ((by decide) : ¬ ((1 : Int32) = (0 : Int32)))).1) ?_
    show Steps p.tables e below (T1.setTop (mkF m 14 _ [])) _
    refine XS.aloadN X1.here hx rfl (hb hby d4_14) rfl rfl ?_
    exact kt
  obtain ⟨T2, X2, e2, st2⟩ := castY X1 hx hZ hown (hw _ (List.mem_of_getElem? (i := 33) rfl)) e1 (Ins.self E_a2) (g := (mkF m 15 #[.val (.ref a1), .val (.ref a2), .unset] [(.ref a2)])) rfl rfl (hb hby d4_15)
  refine own_pre (B := (T2.setTop (mkF m 19 #[.val (.ref a1), .val (.ref a2), .val (.ref a2)] []))) (fun t kt => ?_) ?_
  · show Steps p.tables e below (T1.setTop (mkF m 15 _ [(.ref a2)])) _
    refine st2 _ ?_
    show Steps p.tables e below (T2.setTop (mkF m 18 _ [(.ref a2)])) _
    refine XS.astoreN X2.here hx rfl (hb hby d4_18) rfl rfl (l' := #[.val (.ref a1), .val (.ref a2), .val (.ref a2)]) rfl ?_
    exact kt
  obtain ⟨T3, X3, e3, st3⟩ := getS2 X2 hx hZ hown (host := "") (Or.inl (hw _ (List.mem_of_getElem? (i := 35) rfl))) Via.refl e2 (S_CS.ext X00.2) (g := (mkF m 19 #[.val (.ref a1), .val (.ref a2), .val (.ref a2)] [])) rfl (hb hby d4_19)
  refine own_pre (B := (T3.setTop (mkF m 26 #[.val (.ref a1), .val (.ref a2), .val (.ref a2)] [(.ref a1)]))) (fun t kt => ?_) ?_
  · show Steps p.tables e below (T2.setTop (mkF m 19 _ [])) _
    refine st3 _ ?_
    show Steps p.tables e below (T3.setTop (mkF m 22 _ [(.int cz)])) _
    refine XS.ifNo X3.here hx rfl (hb hby d4_22) rfl ((if0 _ _).trans (feq (hcs : ¬ (cz = (0 : Int32)))).1) ?_
    show Steps p.tables e below (T3.setTop (mkF m 25 _ [])) _
    refine XS.aloadN X3.here hx rfl (hb hby d4_25) rfl rfl ?_
    exact kt
  obtain ⟨T4, X4, e4, st4⟩ := getF X3 hx hZ hown (host := "") (Or.inl (hw _ (List.mem_of_getElem? (i := 36) rfl))) Via.refl e3 C_a1 (g := (mkF m 26 #[.val (.ref a1), .val (.ref a2), .val (.ref a2)] [(.ref a1)])) rfl rfl (hb hby d4_26)
  refine own_pre (B := (T4.setTop (mkF m 30 #[.val (.ref a1), .val (.ref a2), .val (.ref a2)] [(.ref a2), (.int (0 : Int32))]))) (fun t kt => ?_) ?_
  · show Steps p.tables e below (T3.setTop (mkF m 26 _ [(.ref a1)])) _
    refine st4 _ ?_
    show Steps p.tables e below (T4.setTop (mkF m 29 _ [(.int (0 : Int32))])) _
    refine XS.aloadN X4.here hx rfl (hb hby d4_29) rfl rfl ?_
    exact kt
  obtain ⟨T5, X5, e5, st5⟩ := getF X4 hx hZ hown (host := "") (Or.inl (hw _ (List.mem_of_getElem? (i := 36) rfl))) Via.refl e4 C_a2 (g := (mkF m 30 #[.val (.ref a1), .val (.ref a2), .val (.ref a2)] [(.ref a2), (.int (0 : Int32))])) rfl rfl (hb hby d4_30)
  refine own_pre (B := (T5.setTop (mkF m 37 #[.val (.ref a1), .val (.ref a2), .val (.ref a2)] [(.ref a1)]))) (fun t kt => ?_) ?_
  · show Steps p.tables e below (T4.setTop (mkF m 30 _ [(.ref a2), (.int (0 : Int32))])) _
    refine st5 _ ?_
    show Steps p.tables e below (T5.setTop (mkF m 33 _ [(.int (0 : Int32)), (.int (0 : Int32))])) _
    refine XS.icmpNo X5.here hx rfl (hb hby d4_33) rfl (teq (rfl : (0 : Int32) = (0 : Int32))).2 ?_
    show Steps p.tables e below (T5.setTop (mkF m 36 _ [])) _
    refine XS.aloadN X5.here hx rfl (hb hby d4_36) rfl rfl ?_
    exact kt
  obtain ⟨T6, X6, e6, st6⟩ := getF X5 hx hZ hown (host := "") (Or.inl (hw _ (List.mem_of_getElem? (i := 37) rfl))) Via.refl e5 F_a1 (g := (mkF m 37 #[.val (.ref a1), .val (.ref a2), .val (.ref a2)] [(.ref a1)])) rfl rfl (hb hby d4_37)
  refine own_pre (B := (T6.setTop (mkF m 41 #[.val (.ref a1), .val (.ref a2), .val (.ref a2)] [(.ref a2), (.ref b1)]))) (fun t kt => ?_) ?_
  · show Steps p.tables e below (T5.setTop (mkF m 37 _ [(.ref a1)])) _
    refine st6 _ ?_
    show Steps p.tables e below (T6.setTop (mkF m 40 _ [(.ref b1)])) _
    refine XS.aloadN X6.here hx rfl (hb hby d4_40) rfl rfl ?_
    exact kt
  obtain ⟨T7, X7, e7, st7⟩ := getF X6 hx hZ hown (host := "") (Or.inl (hw _ (List.mem_of_getElem? (i := 37) rfl))) Via.refl e6 F_a2 (g := (mkF m 41 #[.val (.ref a1), .val (.ref a2), .val (.ref a2)] [(.ref a2), (.ref b1)])) rfl rfl (hb hby d4_41)
  refine own_pre (B := (T7.setTop (mkF m 44 #[.val (.ref a1), .val (.ref a2), .val (.ref a2)] [(.ref b2), (.ref b1)]))) (fun t kt => ?_) ?_
  · show Steps p.tables e below (T6.setTop (mkF m 41 _ [(.ref a2), (.ref b1)])) _
    refine st7 _ ?_
    exact kt
  obtain ⟨_, _, ⟨T8, L8, k8, n8⟩, -, X8, ⟨Lc8, hQ8, l8, y8, z8⟩, st8⟩ := Jvm.LawKit.callS X7 hx (y := (⟨"java/lang/StringLatin1", "equals", "([B[B)Z"⟩ : MethodName)) hown (mvT hZ (hw _ (List.mem_of_getElem? (i := 38) rfl))) (mvT hZ (hw _ (List.mem_of_getElem? (i := 39) rfl))) (mvT hZ (hw _ (List.mem_of_getElem? (i := 40) rfl))) (mvT hZ (hw _ (List.mem_of_getElem? (i := 41) rfl))) (by decide) (backOf (W := 0) (rm5_1 l Z a0 hw [] b1 b2 k1 k2 h0 n0 Z0 V_b1 V_b2) hZ (hw _ (List.mem_of_getElem? (i := 41) rfl)) (hw _ (List.mem_of_getElem? (i := 40) rfl)) (by decide) (by decide)) (g := (mkF m 44 #[.val (.ref a1), .val (.ref a2), .val (.ref a2)] [(.ref b2), (.ref b1)])) rfl (by rw [hml]; rfl) (argsL := [(.ref b1), (.ref b2)]) (rest := []) (lenOf pd_4 rfl) rfl (by show 2 * 0 + _ ≤ _; exact Nat.le_of_eq rfl) (hb hby d4_44) (fun _ _ => ⟨rfl, e7, (by decide : 0 + 0 ≤ _), (by decide : 0 + 0 ≤ _)⟩)
  dsimp only [Pt.U, Pt.locs, Pt.cells, Pt.slots] at X8 l8 y8 z8 st8 hQ8
  subst l8 y8 z8
  obtain ⟨rfl, N8q, e8⟩ := hQ8
  have N8 := Fr.app N0 N8q
  refine own_pre (B := (T8.setTop (mkF m 55 #[.val (.ref a1), .val (.ref a2), .val (.ref a2)] [(.int (0 : Int32))]))) (fun t kt => ?_) ?_
  · refine st8 _ ?_
    show Steps p.tables e below (T8.setTop (mkF m 47 _ [(.int (0 : Int32))])) _
    refine XS.ifYes X8.here hx rfl (pc0 := 47) (pc' := 54) rfl (hb hby d4_47) rfl ((if0 _ _).trans (teq (rfl : (0 : Int32) = (0 : Int32))).1) (by decide) (by decide) ?_
    show Steps p.tables e below (T8.setTop (mkF m 54 _ [])) _
    refine XS.iconst X8.here hx rfl (hb hby d4_54) ?_
    exact kt
  exact own_fin X8 (some (.int (0 : Int32))) (fun h => by rw [Bd.returns] at h; cases h) (BodyLoose.notSynchronized Bd) e8 (fun fs hr => retN X8 hx (t := .boolean) Bd.returns (by simp) (hb hby d4_55) hr) ⟨rfl, N8, rfl⟩ (by decide) (by decide)
theorem ef_5_2 (m : MethodId) (x0 : Addr) (x1 : Addr) : entryFrame m #[(.ref x0), (.ref x1)] 3 = mkF m 0 #[.val (.ref x0), .val (.ref x1), .unset] [] := by first | (simp [entryFrame, mkF, argsToLocals, Value.category]; done) | rfl
def Q5_2 (Z : State) (b1 b2 : Addr) (k1 k2 : ClassId) (h0 : Heap) (n0 : Nat) (v : Option Value) (h : Heap) (L : List Loc) : Prop := v = some (.int 1) ∧ Fr n0 L ∧ h = h0
set_option maxRecDepth 65536 in
set_option maxHeartbeats 40000000 in
theorem rm5_2 (l : Launch) (Z : State) (a0 : Array Value) (hw : ∀ d ∈ tables_1, d.before a0 Z = true) (ws : List Jvm.Cond) (b1 b2 : Addr) (k1 k2 : ClassId) (h0 : Heap) (n0 : Nat) (Z0 : n0 ≤ h0.size) (V_b1 : Arv Z h0 b1 k1 .byte (3 : Int32) [(.int (77 : Int32)), (.int (87 : Int32)), (.int (104 : Int32))] (.int 0)) (V_b2 : Arv Z h0 b2 k2 .byte (3 : Int32) [(.int (77 : Int32)), (.int (87 : Int32)), (.int (104 : Int32))] (.int 0)) :
    MetFree l (⟨"java/lang/StringLatin1", "equals", "([B[B)Z"⟩ : MethodName) (head1 (Jvm.Cond.code (⟨"java/lang/StringLatin1", "equals", "([B[B)Z"⟩ : MethodName) jdk_43_method_13_code 3 (some .boolean) :: ws) ({ frames := 0, cells := 0, slots := 0, locals := 0 } : Room)) (fun a U => a = #[(.ref b1), (.ref b2)] ∧ Z.Warmed39 U.vm ∧ U.heap = h0) (fun _ _ _ _ _ => True) (fun _ U o U' => ∃ v L, o = .returned v ∧ Q5_2 Z b1 b2 k1 k2 h0 n0 v U'.heap L ∧ FrameEnd U o U' L ({ frames := 0, cells := 0, slots := 0, locals := 0 } : Room).cells ({ frames := 0, cells := 0, slots := 0, locals := 0 } : Room).slots) := by
  refine MetFree.of_bodySF (plainFor_of_name pn_5) hisR ?_
  intro p e s m args below meth c s₁ Bd hml0 hP hK
  obtain ⟨rfl, hZ, hh⟩ := hP
  have hx := Bd.exec
  have hby := Bd.bytes
  have hml : c.maxLocals = 3 := hml0
  have hown : s.vm.findClass "java/lang/StringLatin1" = some m.cls := findClass_of_methodNamed Bd.named
  have hnm := (name_of_methodNamed Bd.named Bd.method).1
  have X0 : Stand p l e ({ frames := 0, cells := 0, slots := 0, locals := 0 } : Room) s m #[(.ref b1), (.ref b2)] below meth c s₁ [] 0 0 := Stand.of_body Bd
  have e0 : s₁.heap = h0 := by rw [← hh, Bd.state]; rfl
  have N0 := Fr.nil n0
  show own_Ends p e below s ({ frames := 0, cells := 0, slots := 0, locals := 0 } : Room).cells ({ frames := 0, cells := 0, slots := 0, locals := 0 } : Room).slots (Q5_2 Z b1 b2 k1 k2 h0 n0) (s₁.setTop (entryFrame m #[(.ref b1), (.ref b2)] 3))
  rw [ef_5_2 m b1 b2]
  refine own_pre (B := (s₁.setTop (mkF m 1 #[.val (.ref b1), .val (.ref b2), .unset] [(.ref b1)]))) (fun t kt => ?_) ?_
  · show Steps p.tables e below (s₁.setTop (mkF m 0 _ [])) _
    refine XS.aloadN X0.here hx rfl (hb hby d5_0) rfl rfl ?_
    exact kt
  obtain ⟨cl1, Ar1, q1, S1, P1, H1, G1⟩ := id V_b1
  refine own_pre (B := (s₁.setTop (mkF m 3 #[.val (.ref b1), .val (.ref b2), .unset] [(.ref b2), (.int (3 : Int32))]))) (fun t kt => ?_) ?_
  · show Steps p.tables e below (s₁.setTop (mkF m 1 _ [(.ref b1)])) _
    refine X0.arraylength hx (by rw [e0]; exact Ar1.1) (State.isArrayOf_alike hZ.alike Ar1.2.1) (g := (mkF m 1 #[.val (.ref b1), .val (.ref b2), .unset] [(.ref b1)])) rfl rfl (hb hby d5_1) _ ?_
    rw [len_of S1 P1]
    show Steps p.tables e below (s₁.setTop (mkF m 2 _ [(.int (3 : Int32))])) _
    refine XS.aloadN X0.here hx rfl (hb hby d5_2) rfl rfl ?_
    exact kt
  obtain ⟨cl2, Ar2, q2, S2, P2, H2, G2⟩ := id V_b2
  refine own_pre (B := (s₁.setTop (mkF m 11 #[.val (.ref b1), .val (.ref b2), .val (.int (0 : Int32))] [(.ref b1), (.int (0 : Int32))]))) (fun t kt => ?_) ?_
  · show Steps p.tables e below (s₁.setTop (mkF m 3 _ [(.ref b2), (.int (3 : Int32))])) _
    refine X0.arraylength hx (by rw [e0]; exact Ar2.1) (State.isArrayOf_alike hZ.alike Ar2.2.1) (g := (mkF m 3 #[.val (.ref b1), .val (.ref b2), .unset] [(.ref b2), (.int (3 : Int32))])) rfl rfl (hb hby d5_3) _ ?_
    rw [len_of S2 P2]
    show Steps p.tables e below (s₁.setTop (mkF m 4 _ [(.int (3 : Int32)), (.int (3 : Int32))])) _
    refine XS.icmpNo X0.here hx rfl (hb hby d5_4) rfl (teq (rfl : (3 : Int32) = (3 : Int32))).2 ?_
    show Steps p.tables e below (s₁.setTop (mkF m 7 _ [])) _
    refine XS.iconst X0.here hx rfl (hb hby d5_7) ?_
    show Steps p.tables e below (s₁.setTop (mkF m 8 _ [(.int (0 : Int32))])) _
    refine XS.istoreN X0.here hx rfl (hb hby d5_8) rfl (l' := #[.val (.ref b1), .val (.ref b2), .val (.int (0 : Int32))]) rfl ?_
    show Steps p.tables e below (s₁.setTop (mkF m 9 _ [])) _
    refine XS.iloadN X0.here hx rfl (hb hby d5_9) rfl ?_
    show Steps p.tables e below (s₁.setTop (mkF m 10 _ [(.int (0 : Int32))])) _
    refine XS.aloadN X0.here hx rfl (hb hby d5_10) rfl rfl ?_
    exact kt
  obtain ⟨cl3, Ar3, q3, S3, P3, H3, G3⟩ := id V_b1
  refine own_pre (B := (s₁.setTop (mkF m 17 #[.val (.ref b1), .val (.ref b2), .val (.int (0 : Int32))] [(.int (0 : Int32)), (.ref b1)]))) (fun t kt => ?_) ?_
  · show Steps p.tables e below (s₁.setTop (mkF m 11 _ [(.ref b1), (.int (0 : Int32))])) _
    refine X0.arraylength hx (by rw [e0]; exact Ar3.1) (State.isArrayOf_alike hZ.alike Ar3.2.1) (g := (mkF m 11 #[.val (.ref b1), .val (.ref b2), .val (.int (0 : Int32))] [(.ref b1), (.int (0 : Int32))])) rfl rfl (hb hby d5_11) _ ?_
    rw [len_of S3 P3]
    show Steps p.tables e below (s₁.setTop (mkF m 12 _ [(.int (3 : Int32)), (.int (0 : Int32))])) _
    refine XS.icmpNo X0.here hx rfl (hb hby d5_12) rfl (tlt ((by decide) : (0 : Int32) < (3 : Int32))).2.1 ?_
    show Steps p.tables e below (s₁.setTop (mkF m 15 _ [])) _
    refine XS.aloadN X0.here hx rfl (hb hby d5_15) rfl rfl ?_
    show Steps p.tables e below (s₁.setTop (mkF m 16 _ [(.ref b1)])) _
    refine XS.iloadN X0.here hx rfl (hb hby d5_16) rfl ?_
    exact kt
  obtain ⟨cl4, Ar4, q4, S4, P4, H4, G4⟩ := id V_b1
  have in4 := inb_of S4 (⟨by decide, by decide⟩ : ¬ (0 : Int32) < 0 ∧ (0 : Int32) < (3 : Int32))
  have at4 : cl4.slots[((0 : Int32)).toNatClampNeg]? = some (.int (77 : Int32)) := Has.at H4 in4 (by decide)
  refine own_pre (B := (s₁.setTop (mkF m 20 #[.val (.ref b1), .val (.ref b2), .val (.int (0 : Int32))] [(.int (0 : Int32)), (.ref b2), (.int (77 : Int32))]))) (fun t kt => ?_) ?_
  · show Steps p.tables e below (s₁.setTop (mkF m 17 _ [(.int (0 : Int32)), (.ref b1)])) _
    refine X0.baloadBytes hx (j := (0 : Int32)) (v := (.int (77 : Int32))) (by rw [e0]; exact Ar4.1) (State.isArrayOf_alike hZ.alike Ar4.2.1) Ar4.2.2 in4 at4 (g := (mkF m 17 #[.val (.ref b1), .val (.ref b2), .val (.int (0 : Int32))] [(.int (0 : Int32)), (.ref b1)])) rfl rfl (hb hby d5_17) _ ?_
    show Steps p.tables e below (s₁.setTop (mkF m 18 _ [(.int (77 : Int32))])) _
    refine XS.aloadN X0.here hx rfl (hb hby d5_18) rfl rfl ?_
    show Steps p.tables e below (s₁.setTop (mkF m 19 _ [(.ref b2), (.int (77 : Int32))])) _
    refine XS.iloadN X0.here hx rfl (hb hby d5_19) rfl ?_
    exact kt
  obtain ⟨cl5, Ar5, q5, S5, P5, H5, G5⟩ := id V_b2
  have in5 := inb_of S5 (⟨by decide, by decide⟩ : ¬ (0 : Int32) < 0 ∧ (0 : Int32) < (3 : Int32))
  have at5 : cl5.slots[((0 : Int32)).toNatClampNeg]? = some (.int (77 : Int32)) := Has.at H5 in5 (by decide)
  refine own_pre (B := (s₁.setTop (mkF m 11 #[.val (.ref b1), .val (.ref b2), .val (.int ((0 : Int32) + (1 : Int32)))] [(.ref b1), (.int ((0 : Int32) + (1 : Int32)))]))) (fun t kt => ?_) ?_
  · show Steps p.tables e below (s₁.setTop (mkF m 20 _ [(.int (0 : Int32)), (.ref b2), (.int (77 : Int32))])) _
    refine X0.baloadBytes hx (j := (0 : Int32)) (v := (.int (77 : Int32))) (by rw [e0]; exact Ar5.1) (State.isArrayOf_alike hZ.alike Ar5.2.1) Ar5.2.2 in5 at5 (g := (mkF m 20 #[.val (.ref b1), .val (.ref b2), .val (.int (0 : Int32))] [(.int (0 : Int32)), (.ref b2), (.int (77 : Int32))])) rfl rfl (hb hby d5_20) _ ?_
    show Steps p.tables e below (s₁.setTop (mkF m 21 _ [(.int (77 : Int32)), (.int (77 : Int32))])) _
    refine XS.icmpYes X0.here hx rfl (pc0 := 21) (pc' := 26) rfl (hb hby d5_21) rfl (teq (rfl : (77 : Int32) = (77 : Int32))).1 (by decide) (by decide) ?_
    show Steps p.tables e below (s₁.setTop (mkF m 26 _ [])) _
    refine XS.iinc X0.here hx rfl (hb hby d5_26) rfl (l' := #[.val (.ref b1), .val (.ref b2), .val (.int ((0 : Int32) + (1 : Int32)))]) rfl ?_
    show Steps p.tables e below (s₁.setTop (mkF m 29 _ [])) _
    refine XS.goto X0.here hx rfl (pc0 := 29) (pc' := 9) rfl (hb hby d5_29) (by decide) (by decide) ?_
    show Steps p.tables e below (s₁.setTop (mkF m 9 _ [])) _
    refine XS.iloadN X0.here hx rfl (hb hby d5_9) rfl ?_
    show Steps p.tables e below (s₁.setTop (mkF m 10 _ [(.int ((0 : Int32) + (1 : Int32)))])) _
    refine XS.aloadN X0.here hx rfl (hb hby d5_10) rfl rfl ?_
    exact kt
  obtain ⟨cl6, Ar6, q6, S6, P6, H6, G6⟩ := id V_b1
  refine own_pre (B := (s₁.setTop (mkF m 17 #[.val (.ref b1), .val (.ref b2), .val (.int ((0 : Int32) + (1 : Int32)))] [(.int ((0 : Int32) + (1 : Int32))), (.ref b1)]))) (fun t kt => ?_) ?_
  · show Steps p.tables e below (s₁.setTop (mkF m 11 _ [(.ref b1), (.int ((0 : Int32) + (1 : Int32)))])) _
    refine X0.arraylength hx (by rw [e0]; exact Ar6.1) (State.isArrayOf_alike hZ.alike Ar6.2.1) (g := (mkF m 11 #[.val (.ref b1), .val (.ref b2), .val (.int ((0 : Int32) + (1 : Int32)))] [(.ref b1), (.int ((0 : Int32) + (1 : Int32)))])) rfl rfl (hb hby d5_11) _ ?_
    rw [len_of S6 P6]
    show Steps p.tables e below (s₁.setTop (mkF m 12 _ [(.int (3 : Int32)), (.int ((0 : Int32) + (1 : Int32)))])) _
    refine XS.icmpNo X0.here hx rfl (hb hby d5_12) rfl (tlt ((by decide) : ((0 : Int32) + (1 : Int32)) < (3 : Int32))).2.1 ?_
    show Steps p.tables e below (s₁.setTop (mkF m 15 _ [])) _
    refine XS.aloadN X0.here hx rfl (hb hby d5_15) rfl rfl ?_
    show Steps p.tables e below (s₁.setTop (mkF m 16 _ [(.ref b1)])) _
    refine XS.iloadN X0.here hx rfl (hb hby d5_16) rfl ?_
    exact kt
  obtain ⟨cl7, Ar7, q7, S7, P7, H7, G7⟩ := id V_b1
  have in7 := inb_of S7 (⟨by decide, by decide⟩ : ¬ ((0 : Int32) + (1 : Int32)) < 0 ∧ ((0 : Int32) + (1 : Int32)) < (3 : Int32))
  have at7 : cl7.slots[(((0 : Int32) + (1 : Int32))).toNatClampNeg]? = some (.int (87 : Int32)) := Has.at H7 in7 (by decide)
  refine own_pre (B := (s₁.setTop (mkF m 20 #[.val (.ref b1), .val (.ref b2), .val (.int ((0 : Int32) + (1 : Int32)))] [(.int ((0 : Int32) + (1 : Int32))), (.ref b2), (.int (87 : Int32))]))) (fun t kt => ?_) ?_
  · show Steps p.tables e below (s₁.setTop (mkF m 17 _ [(.int ((0 : Int32) + (1 : Int32))), (.ref b1)])) _
    refine X0.baloadBytes hx (j := ((0 : Int32) + (1 : Int32))) (v := (.int (87 : Int32))) (by rw [e0]; exact Ar7.1) (State.isArrayOf_alike hZ.alike Ar7.2.1) Ar7.2.2 in7 at7 (g := (mkF m 17 #[.val (.ref b1), .val (.ref b2), .val (.int ((0 : Int32) + (1 : Int32)))] [(.int ((0 : Int32) + (1 : Int32))), (.ref b1)])) rfl rfl (hb hby d5_17) _ ?_
    show Steps p.tables e below (s₁.setTop (mkF m 18 _ [(.int (87 : Int32))])) _
    refine XS.aloadN X0.here hx rfl (hb hby d5_18) rfl rfl ?_
    show Steps p.tables e below (s₁.setTop (mkF m 19 _ [(.ref b2), (.int (87 : Int32))])) _
    refine XS.iloadN X0.here hx rfl (hb hby d5_19) rfl ?_
    exact kt
  obtain ⟨cl8, Ar8, q8, S8, P8, H8, G8⟩ := id V_b2
  have in8 := inb_of S8 (⟨by decide, by decide⟩ : ¬ ((0 : Int32) + (1 : Int32)) < 0 ∧ ((0 : Int32) + (1 : Int32)) < (3 : Int32))
  have at8 : cl8.slots[(((0 : Int32) + (1 : Int32))).toNatClampNeg]? = some (.int (87 : Int32)) := Has.at H8 in8 (by decide)
  refine own_pre (B := (s₁.setTop (mkF m 11 #[.val (.ref b1), .val (.ref b2), .val (.int (((0 : Int32) + (1 : Int32)) + (1 : Int32)))] [(.ref b1), (.int (((0 : Int32) + (1 : Int32)) + (1 : Int32)))]))) (fun t kt => ?_) ?_
  · show Steps p.tables e below (s₁.setTop (mkF m 20 _ [(.int ((0 : Int32) + (1 : Int32))), (.ref b2), (.int (87 : Int32))])) _
    refine X0.baloadBytes hx (j := ((0 : Int32) + (1 : Int32))) (v := (.int (87 : Int32))) (by rw [e0]; exact Ar8.1) (State.isArrayOf_alike hZ.alike Ar8.2.1) Ar8.2.2 in8 at8 (g := (mkF m 20 #[.val (.ref b1), .val (.ref b2), .val (.int ((0 : Int32) + (1 : Int32)))] [(.int ((0 : Int32) + (1 : Int32))), (.ref b2), (.int (87 : Int32))])) rfl rfl (hb hby d5_20) _ ?_
    show Steps p.tables e below (s₁.setTop (mkF m 21 _ [(.int (87 : Int32)), (.int (87 : Int32))])) _
    refine XS.icmpYes X0.here hx rfl (pc0 := 21) (pc' := 26) rfl (hb hby d5_21) rfl (teq (rfl : (87 : Int32) = (87 : Int32))).1 (by decide) (by decide) ?_
    show Steps p.tables e below (s₁.setTop (mkF m 26 _ [])) _
    refine XS.iinc X0.here hx rfl (hb hby d5_26) rfl (l' := #[.val (.ref b1), .val (.ref b2), .val (.int (((0 : Int32) + (1 : Int32)) + (1 : Int32)))]) rfl ?_
    show Steps p.tables e below (s₁.setTop (mkF m 29 _ [])) _
    refine XS.goto X0.here hx rfl (pc0 := 29) (pc' := 9) rfl (hb hby d5_29) (by decide) (by decide) ?_
    show Steps p.tables e below (s₁.setTop (mkF m 9 _ [])) _
    refine XS.iloadN X0.here hx rfl (hb hby d5_9) rfl ?_
    show Steps p.tables e below (s₁.setTop (mkF m 10 _ [(.int (((0 : Int32) + (1 : Int32)) + (1 : Int32)))])) _
    refine XS.aloadN X0.here hx rfl (hb hby d5_10) rfl rfl ?_
    exact kt
  obtain ⟨cl9, Ar9, q9, S9, P9, H9, G9⟩ := id V_b1
  refine own_pre (B := (s₁.setTop (mkF m 17 #[.val (.ref b1), .val (.ref b2), .val (.int (((0 : Int32) + (1 : Int32)) + (1 : Int32)))] [(.int (((0 : Int32) + (1 : Int32)) + (1 : Int32))), (.ref b1)]))) (fun t kt => ?_) ?_
  · show Steps p.tables e below (s₁.setTop (mkF m 11 _ [(.ref b1), (.int (((0 : Int32) + (1 : Int32)) + (1 : Int32)))])) _
    refine X0.arraylength hx (by rw [e0]; exact Ar9.1) (State.isArrayOf_alike hZ.alike Ar9.2.1) (g := (mkF m 11 #[.val (.ref b1), .val (.ref b2), .val (.int (((0 : Int32) + (1 : Int32)) + (1 : Int32)))] [(.ref b1), (.int (((0 : Int32) + (1 : Int32)) + (1 : Int32)))])) rfl rfl (hb hby d5_11) _ ?_
    rw [len_of S9 P9]
    show Steps p.tables e below (s₁.setTop (mkF m 12 _ [(.int (3 : Int32)), (.int (((0 : Int32) + (1 : Int32)) + (1 : Int32)))])) _
    refine XS.icmpNo X0.here hx rfl (hb hby d5_12) rfl (tlt ((by decide) : (((0 : Int32) + (1 : Int32)) + (1 : Int32)) < (3 : Int32))).2.1 ?_
    show Steps p.tables e below (s₁.setTop (mkF m 15 _ [])) _
    refine XS.aloadN X0.here hx rfl (hb hby d5_15) rfl rfl ?_
    show Steps p.tables e below (s₁.setTop (mkF m 16 _ [(.ref b1)])) _
    refine XS.iloadN X0.here hx rfl (hb hby d5_16) rfl ?_
    exact kt
  obtain ⟨cl10, Ar10, q10, S10, P10, H10, G10⟩ := id V_b1
  have in10 := inb_of S10 (⟨by decide, by decide⟩ : ¬ (((0 : Int32) + (1 : Int32)) + (1 : Int32)) < 0 ∧ (((0 : Int32) + (1 : Int32)) + (1 : Int32)) < (3 : Int32))
  have at10 : cl10.slots[((((0 : Int32) + (1 : Int32)) + (1 : Int32))).toNatClampNeg]? = some (.int (104 : Int32)) := Has.at H10 in10 (by decide)
  refine own_pre (B := (s₁.setTop (mkF m 20 #[.val (.ref b1), .val (.ref b2), .val (.int (((0 : Int32) + (1 : Int32)) + (1 : Int32)))] [(.int (((0 : Int32) + (1 : Int32)) + (1 : Int32))), (.ref b2), (.int (104 : Int32))]))) (fun t kt => ?_) ?_
  · show Steps p.tables e below (s₁.setTop (mkF m 17 _ [(.int (((0 : Int32) + (1 : Int32)) + (1 : Int32))), (.ref b1)])) _
    refine X0.baloadBytes hx (j := (((0 : Int32) + (1 : Int32)) + (1 : Int32))) (v := (.int (104 : Int32))) (by rw [e0]; exact Ar10.1) (State.isArrayOf_alike hZ.alike Ar10.2.1) Ar10.2.2 in10 at10 (g := (mkF m 17 #[.val (.ref b1), .val (.ref b2), .val (.int (((0 : Int32) + (1 : Int32)) + (1 : Int32)))] [(.int (((0 : Int32) + (1 : Int32)) + (1 : Int32))), (.ref b1)])) rfl rfl (hb hby d5_17) _ ?_
    show Steps p.tables e below (s₁.setTop (mkF m 18 _ [(.int (104 : Int32))])) _
    refine XS.aloadN X0.here hx rfl (hb hby d5_18) rfl rfl ?_
    show Steps p.tables e below (s₁.setTop (mkF m 19 _ [(.ref b2), (.int (104 : Int32))])) _
    refine XS.iloadN X0.here hx rfl (hb hby d5_19) rfl ?_
    exact kt
  obtain ⟨cl11, Ar11, q11, S11, P11, H11, G11⟩ := id V_b2
  have in11 := inb_of S11 (⟨by decide, by decide⟩ : ¬ (((0 : Int32) + (1 : Int32)) + (1 : Int32)) < 0 ∧ (((0 : Int32) + (1 : Int32)) + (1 : Int32)) < (3 : Int32))
  have at11 : cl11.slots[((((0 : Int32) + (1 : Int32)) + (1 : Int32))).toNatClampNeg]? = some (.int (104 : Int32)) := Has.at H11 in11 (by decide)
  refine own_pre (B := (s₁.setTop (mkF m 11 #[.val (.ref b1), .val (.ref b2), .val (.int ((((0 : Int32) + (1 : Int32)) + (1 : Int32)) + (1 : Int32)))] [(.ref b1), (.int ((((0 : Int32) + (1 : Int32)) + (1 : Int32)) + (1 : Int32)))]))) (fun t kt => ?_) ?_
  · show Steps p.tables e below (s₁.setTop (mkF m 20 _ [(.int (((0 : Int32) + (1 : Int32)) + (1 : Int32))), (.ref b2), (.int (104 : Int32))])) _
    refine X0.baloadBytes hx (j := (((0 : Int32) + (1 : Int32)) + (1 : Int32))) (v := (.int (104 : Int32))) (by rw [e0]; exact Ar11.1) (State.isArrayOf_alike hZ.alike Ar11.2.1) Ar11.2.2 in11 at11 (g := (mkF m 20 #[.val (.ref b1), .val (.ref b2), .val (.int (((0 : Int32) + (1 : Int32)) + (1 : Int32)))] [(.int (((0 : Int32) + (1 : Int32)) + (1 : Int32))), (.ref b2), (.int (104 : Int32))])) rfl rfl (hb hby d5_20) _ ?_
    show Steps p.tables e below (s₁.setTop (mkF m 21 _ [(.int (104 : Int32)), (.int (104 : Int32))])) _
    refine XS.icmpYes X0.here hx rfl (pc0 := 21) (pc' := 26) rfl (hb hby d5_21) rfl (teq (rfl : (104 : Int32) = (104 : Int32))).1 (by decide) (by decide) ?_
    show Steps p.tables e below (s₁.setTop (mkF m 26 _ [])) _
    refine XS.iinc X0.here hx rfl (hb hby d5_26) rfl (l' := #[.val (.ref b1), .val (.ref b2), .val (.int ((((0 : Int32) + (1 : Int32)) + (1 : Int32)) + (1 : Int32)))]) rfl ?_
    show Steps p.tables e below (s₁.setTop (mkF m 29 _ [])) _
    refine XS.goto X0.here hx rfl (pc0 := 29) (pc' := 9) rfl (hb hby d5_29) (by decide) (by decide) ?_
    show Steps p.tables e below (s₁.setTop (mkF m 9 _ [])) _
    refine XS.iloadN X0.here hx rfl (hb hby d5_9) rfl ?_
    show Steps p.tables e below (s₁.setTop (mkF m 10 _ [(.int ((((0 : Int32) + (1 : Int32)) + (1 : Int32)) + (1 : Int32)))])) _
    refine XS.aloadN X0.here hx rfl (hb hby d5_10) rfl rfl ?_
    exact kt
  obtain ⟨cl12, Ar12, q12, S12, P12, H12, G12⟩ := id V_b1
  refine own_pre (B := (s₁.setTop (mkF m 33 #[.val (.ref b1), .val (.ref b2), .val (.int ((((0 : Int32) + (1 : Int32)) + (1 : Int32)) + (1 : Int32)))] [(.int (1 : Int32))]))) (fun t kt => ?_) ?_
  · show Steps p.tables e below (s₁.setTop (mkF m 11 _ [(.ref b1), (.int ((((0 : Int32) + (1 : Int32)) + (1 : Int32)) + (1 : Int32)))])) _
    refine X0.arraylength hx (by rw [e0]; exact Ar12.1) (State.isArrayOf_alike hZ.alike Ar12.2.1) (g := (mkF m 11 #[.val (.ref b1), .val (.ref b2), .val (.int ((((0 : Int32) + (1 : Int32)) + (1 : Int32)) + (1 : Int32)))] [(.ref b1), (.int ((((0 : Int32) + (1 : Int32)) + (1 : Int32)) + (1 : Int32)))])) rfl rfl (hb hby d5_11) _ ?_
    rw [len_of S12 P12]
    show Steps p.tables e below (s₁.setTop (mkF m 12 _ [(.int (3 : Int32)), (.int ((((0 : Int32) + (1 : Int32)) + (1 : Int32)) + (1 : Int32)))])) _
    refine XS.icmpYes X0.here hx rfl (pc0 := 12) (pc' := 32) rfl (hb hby d5_12) rfl (flt ((by decide) : ¬ (((((0 : Int32) + (1 : Int32)) + (1 : Int32)) + (1 : Int32)) < (3 : Int32)))).2.1 (by decide) (by decide) ?_
    show Steps p.tables e below (s₁.setTop (mkF m 32 _ [])) _
    refine XS.iconst X0.here hx rfl (hb hby d5_32) ?_
    exact kt
  exact own_fin X0 (some (.int (1 : Int32))) (fun h => by rw [Bd.returns] at h; cases h) (BodyLoose.notSynchronized Bd) e0 (fun fs hr => retN X0 hx (t := .boolean) Bd.returns (by simp) (hb hby d5_33) hr) ⟨rfl, N0, rfl⟩ (by decide) (by decide)
theorem ef_4_2 (m : MethodId) (x0 : Addr) (x1 : Addr) : entryFrame m #[(.ref x0), (.ref x1)] 3 = mkF m 0 #[.val (.ref x0), .val (.ref x1), .unset] [] := by first | (simp [entryFrame, mkF, argsToLocals, Value.category]; done) | rfl
def Q4_2 (Z : State) (a1 a2 b1 b2 : Addr) (k1 k2 : ClassId) (cz : Int32) (h0 : Heap) (n0 : Nat) (v : Option Value) (h : Heap) (L : List Loc) : Prop := v = some (.int 1) ∧ Fr n0 L ∧ h = h0
set_option maxRecDepth 65536 in
set_option maxHeartbeats 40000000 in
theorem rm4_2 (l : Launch) (Z : State) (a0 : Array Value) (hw : ∀ d ∈ tables_1, d.before a0 Z = true) (ws : List Jvm.Cond) (a1 a2 b1 b2 : Addr) (k1 k2 : ClassId) (cz : Int32) (h0 : Heap) (n0 : Nat) (Z0 : n0 ≤ h0.size) (E_a2 : Exa Z h0 a2 "java/lang/String") (C_a1 : Fld Z h0 a1 "java/lang/String" "coder" "B" (.int (0 : Int32))) (F_a1 : Fld Z h0 a1 "java/lang/String" "value" "[B" (.ref b1)) (C_a2 : Fld Z h0 a2 "java/lang/String" "coder" "B" (.int (0 : Int32))) (F_a2 : Fld Z h0 a2 "java/lang/String" "value" "[B" (.ref b2)) (V_b1 : Arv Z h0 b1 k1 .byte (3 : Int32) [(.int (77 : Int32)), (.int (87 : Int32)), (.int (104 : Int32))] (.int 0)) (V_b2 : Arv Z h0 b2 k2 .byte (3 : Int32) [(.int (77 : Int32)), (.int (87 : Int32)), (.int (104 : Int32))] (.int 0)) (S_CS : Sta Z Z.heap "java/lang/String" "COMPACT_STRINGS" "Z" (.int cz)) (hcs : ¬ (cz = (0 : Int32))) (X00 : Old Z n0 h0) :
    MetFree l (⟨"java/lang/String", "equals", "(Ljava/lang/Object;)Z"⟩ : MethodName) (head1 (Jvm.Cond.code (⟨"java/lang/String", "equals", "(Ljava/lang/Object;)Z"⟩ : MethodName) jdk_42_method_66_code 3 (some .boolean) :: ws) ({ frames := 1, cells := 0, slots := 0, locals := 14 } : Room)) (fun a U => a = #[(.ref a1), (.ref a2)] ∧ Z.Warmed39 U.vm ∧ U.heap = h0) (fun _ _ _ _ _ => True) (fun _ U o U' => ∃ v L, o = .returned v ∧ Q4_2 Z a1 a2 b1 b2 k1 k2 cz h0 n0 v U'.heap L ∧ FrameEnd U o U' L ({ frames := 1, cells := 0, slots := 0, locals := 14 } : Room).cells ({ frames := 1, cells := 0, slots := 0, locals := 14 } : Room).slots) := by
  refine MetFree.of_bodySF (plainFor_of_name pn_4) hisR ?_
  intro p e s m args below meth c s₁ Bd hml0 hP hK
  obtain ⟨rfl, hZ, hh⟩ := hP
  have hx := Bd.exec
  have hby := Bd.bytes
  have hml : c.maxLocals = 3 := hml0
  have hown : s.vm.findClass "java/lang/String" = some m.cls := findClass_of_methodNamed Bd.named
  have hnm := (name_of_methodNamed Bd.named Bd.method).1
  have X0 : Stand p l e ({ frames := 1, cells := 0, slots := 0, locals := 14 } : Room) s m #[(.ref a1), (.ref a2)] below meth c s₁ [] 0 0 := Stand.of_body Bd
  have e0 : s₁.heap = h0 := by rw [← hh, Bd.state]; rfl
  have N0 := Fr.nil n0
  show own_Ends p e below s ({ frames := 1, cells := 0, slots := 0, locals := 14 } : Room).cells ({ frames := 1, cells := 0, slots := 0, locals := 14 } : Room).slots (Q4_2 Z a1 a2 b1 b2 k1 k2 cz h0 n0) (s₁.setTop (entryFrame m #[(.ref a1), (.ref a2)] 3))
  rw [ef_4_2 m a1 a2]
  refine own_pre (B := (s₁.setTop (mkF m 2 #[.val (.ref a1), .val (.ref a2), .unset] [(.ref a2), (.ref a1)]))) (fun t kt => ?_) ?_
  · show Steps p.tables e below (s₁.setTop (mkF m 0 _ [])) _
    refine XS.aloadN X0.here hx rfl (hb hby d4_0) rfl rfl ?_
    show Steps p.tables e below (s₁.setTop (mkF m 1 _ [(.ref a1)])) _
    refine XS.aloadN X0.here hx rfl (hb hby d4_1) rfl rfl ?_
    exact kt
  by_cases ha2 : a1 = a2
  · refine own_pre (B := (s₁.setTop (mkF m 5 #[.val (.ref a1), .val (.ref a2), .unset] []))) (fun t kt => ?_) ?_
    · show Steps p.tables e below (s₁.setTop (mkF m 2 _ [(.ref a2), (.ref a1)])) _
      refine Jvm.RoadKit.acmp (g := (mkF m 2 #[.val (.ref a1), .val (.ref a2), .unset] [(.ref a2), (.ref a1)])) X0 hx rfl rfl rfl (pc0 := 2) (pc' := 5) (same := true) rfl (hb hby d4_2) rfl (decide_eq_true (congrArg Value.ref ha2)) (by decide) (by decide) ?_
      exact kt
    refine own_pre (B := (s₁.setTop (mkF m 6 #[.val (.ref a1), .val (.ref a2), .unset] [(.int (1 : Int32))]))) (fun t kt => ?_) ?_
    · show Steps p.tables e below (s₁.setTop (mkF m 5 _ [])) _
      refine XS.iconst X0.here hx rfl (hb hby d4_5) ?_
      exact kt
    exact own_fin X0 (some (.int (1 : Int32))) (fun h => by rw [Bd.returns] at h; cases h) (BodyLoose.notSynchronized Bd) e0 (fun fs hr => retN X0 hx (t := .boolean) Bd.returns (by simp) (hb hby d4_6) hr) ⟨rfl, N0, rfl⟩ (by decide) (by decide)
  · refine own_pre (B := (s₁.setTop (mkF m 7 #[.val (.ref a1), .val (.ref a2), .unset] []))) (fun t kt => ?_) ?_
    · show Steps p.tables e below (s₁.setTop (mkF m 2 _ [(.ref a2), (.ref a1)])) _
      refine Jvm.RoadKit.acmp (g := (mkF m 2 #[.val (.ref a1), .val (.ref a2), .unset] [(.ref a2), (.ref a1)])) X0 hx rfl rfl rfl (pc0 := 2) (pc' := 7) (same := false) rfl (hb hby d4_2) rfl (decide_eq_false fun q => ha2 (Value.ref.inj q)) (by decide) (by decide) ?_
      exact kt
    refine own_pre (B := (s₁.setTop (mkF m 8 #[.val (.ref a1), .val (.ref a2), .unset] [(.ref a2)]))) (fun t kt => ?_) ?_
    · show Steps p.tables e below (s₁.setTop (mkF m 7 _ [])) _
      refine XS.aloadN X0.here hx rfl (hb hby d4_7) rfl rfl ?_
      exact kt
    obtain ⟨T1, X1, e1, st1⟩ := instY X0 hx hZ hown (hw _ (List.mem_of_getElem? (i := 33) rfl)) e0 (Ins.self E_a2) (g := (mkF m 8 #[.val (.ref a1), .val (.ref a2), .unset] [(.ref a2)])) rfl rfl (hb hby d4_8)
    refine own_pre (B := (T1.setTop (mkF m 15 #[.val (.ref a1), .val (.ref a2), .unset] [(.ref a2)]))) (fun t kt => ?_) ?_
    · show Steps p.tables e below (s₁.setTop (mkF m 8 _ [(.ref a2)])) _
      refine st1 _ ?_
      show Steps p.tables e below (T1.setTop (mkF m 11 _ [(.int (1 : Int32))])) _
      refine XS.ifNo X1.here hx rfl (hb hby d4_11) rfl ((if0 _ _).trans (feq ((by decide) : ¬ ((1 : Int32) = (0 : Int32)))).1) ?_
      show Steps p.tables e below (T1.setTop (mkF m 14 _ [])) _
      refine XS.aloadN X1.here hx rfl (hb hby d4_14) rfl rfl ?_
      exact kt
    obtain ⟨T2, X2, e2, st2⟩ := castY X1 hx hZ hown (hw _ (List.mem_of_getElem? (i := 33) rfl)) e1 (Ins.self E_a2) (g := (mkF m 15 #[.val (.ref a1), .val (.ref a2), .unset] [(.ref a2)])) rfl rfl (hb hby d4_15)
    refine own_pre (B := (T2.setTop (mkF m 19 #[.val (.ref a1), .val (.ref a2), .val (.ref a2)] []))) (fun t kt => ?_) ?_
    · show Steps p.tables e below (T1.setTop (mkF m 15 _ [(.ref a2)])) _
      refine st2 _ ?_
      show Steps p.tables e below (T2.setTop (mkF m 18 _ [(.ref a2)])) _
      refine XS.astoreN X2.here hx rfl (hb hby d4_18) rfl rfl (l' := #[.val (.ref a1), .val (.ref a2), .val (.ref a2)]) rfl ?_
      exact kt
    obtain ⟨T3, X3, e3, st3⟩ := getS2 X2 hx hZ hown (host := "") (Or.inl (hw _ (List.mem_of_getElem? (i := 35) rfl))) Via.refl e2 (S_CS.ext X00.2) (g := (mkF m 19 #[.val (.ref a1), .val (.ref a2), .val (.ref a2)] [])) rfl (hb hby d4_19)
    refine own_pre (B := (T3.setTop (mkF m 26 #[.val (.ref a1), .val (.ref a2), .val (.ref a2)] [(.ref a1)]))) (fun t kt => ?_) ?_
    · show Steps p.tables e below (T2.setTop (mkF m 19 _ [])) _
      refine st3 _ ?_
      show Steps p.tables e below (T3.setTop (mkF m 22 _ [(.int cz)])) _
      refine XS.ifNo X3.here hx rfl (hb hby d4_22) rfl ((if0 _ _).trans (feq (hcs : ¬ (cz = (0 : Int32)))).1) ?_
      show Steps p.tables e below (T3.setTop (mkF m 25 _ [])) _
      refine XS.aloadN X3.here hx rfl (hb hby d4_25) rfl rfl ?_
      exact kt
    obtain ⟨T4, X4, e4, st4⟩ := getF X3 hx hZ hown (host := "") (Or.inl (hw _ (List.mem_of_getElem? (i := 36) rfl))) Via.refl e3 C_a1 (g := (mkF m 26 #[.val (.ref a1), .val (.ref a2), .val (.ref a2)] [(.ref a1)])) rfl rfl (hb hby d4_26)
    refine own_pre (B := (T4.setTop (mkF m 30 #[.val (.ref a1), .val (.ref a2), .val (.ref a2)] [(.ref a2), (.int (0 : Int32))]))) (fun t kt => ?_) ?_
    · show Steps p.tables e below (T3.setTop (mkF m 26 _ [(.ref a1)])) _
      refine st4 _ ?_
      show Steps p.tables e below (T4.setTop (mkF m 29 _ [(.int (0 : Int32))])) _
      refine XS.aloadN X4.here hx rfl (hb hby d4_29) rfl rfl ?_
      exact kt
    obtain ⟨T5, X5, e5, st5⟩ := getF X4 hx hZ hown (host := "") (Or.inl (hw _ (List.mem_of_getElem? (i := 36) rfl))) Via.refl e4 C_a2 (g := (mkF m 30 #[.val (.ref a1), .val (.ref a2), .val (.ref a2)] [(.ref a2), (.int (0 : Int32))])) rfl rfl (hb hby d4_30)
    refine own_pre (B := (T5.setTop (mkF m 37 #[.val (.ref a1), .val (.ref a2), .val (.ref a2)] [(.ref a1)]))) (fun t kt => ?_) ?_
    · show Steps p.tables e below (T4.setTop (mkF m 30 _ [(.ref a2), (.int (0 : Int32))])) _
      refine st5 _ ?_
      show Steps p.tables e below (T5.setTop (mkF m 33 _ [(.int (0 : Int32)), (.int (0 : Int32))])) _
      refine XS.icmpNo X5.here hx rfl (hb hby d4_33) rfl (teq (rfl : (0 : Int32) = (0 : Int32))).2 ?_
      show Steps p.tables e below (T5.setTop (mkF m 36 _ [])) _
      refine XS.aloadN X5.here hx rfl (hb hby d4_36) rfl rfl ?_
      exact kt
    obtain ⟨T6, X6, e6, st6⟩ := getF X5 hx hZ hown (host := "") (Or.inl (hw _ (List.mem_of_getElem? (i := 37) rfl))) Via.refl e5 F_a1 (g := (mkF m 37 #[.val (.ref a1), .val (.ref a2), .val (.ref a2)] [(.ref a1)])) rfl rfl (hb hby d4_37)
    refine own_pre (B := (T6.setTop (mkF m 41 #[.val (.ref a1), .val (.ref a2), .val (.ref a2)] [(.ref a2), (.ref b1)]))) (fun t kt => ?_) ?_
    · show Steps p.tables e below (T5.setTop (mkF m 37 _ [(.ref a1)])) _
      refine st6 _ ?_
      show Steps p.tables e below (T6.setTop (mkF m 40 _ [(.ref b1)])) _
      refine XS.aloadN X6.here hx rfl (hb hby d4_40) rfl rfl ?_
      exact kt
    obtain ⟨T7, X7, e7, st7⟩ := getF X6 hx hZ hown (host := "") (Or.inl (hw _ (List.mem_of_getElem? (i := 37) rfl))) Via.refl e6 F_a2 (g := (mkF m 41 #[.val (.ref a1), .val (.ref a2), .val (.ref a2)] [(.ref a2), (.ref b1)])) rfl rfl (hb hby d4_41)
    refine own_pre (B := (T7.setTop (mkF m 44 #[.val (.ref a1), .val (.ref a2), .val (.ref a2)] [(.ref b2), (.ref b1)]))) (fun t kt => ?_) ?_
    · show Steps p.tables e below (T6.setTop (mkF m 41 _ [(.ref a2), (.ref b1)])) _
      refine st7 _ ?_
      exact kt
    obtain ⟨_, _, ⟨T8, L8, k8, n8⟩, -, X8, ⟨Lc8, hQ8, l8, y8, z8⟩, st8⟩ := Jvm.LawKit.callS X7 hx (y := (⟨"java/lang/StringLatin1", "equals", "([B[B)Z"⟩ : MethodName)) hown (mvT hZ (hw _ (List.mem_of_getElem? (i := 38) rfl))) (mvT hZ (hw _ (List.mem_of_getElem? (i := 39) rfl))) (mvT hZ (hw _ (List.mem_of_getElem? (i := 40) rfl))) (mvT hZ (hw _ (List.mem_of_getElem? (i := 41) rfl))) (by decide) (backOf (W := 0) (rm5_2 l Z a0 hw [] b1 b2 k1 k2 h0 n0 Z0 V_b1 V_b2) hZ (hw _ (List.mem_of_getElem? (i := 41) rfl)) (hw _ (List.mem_of_getElem? (i := 40) rfl)) (by decide) (by decide)) (g := (mkF m 44 #[.val (.ref a1), .val (.ref a2), .val (.ref a2)] [(.ref b2), (.ref b1)])) rfl (by rw [hml]; rfl) (argsL := [(.ref b1), (.ref b2)]) (rest := []) (lenOf pd_4 rfl) rfl (by show 2 * 0 + _ ≤ _; exact Nat.le_of_eq rfl) (hb hby d4_44) (fun _ _ => ⟨rfl, e7, (by decide : 0 + 0 ≤ _), (by decide : 0 + 0 ≤ _)⟩)
    dsimp only [Pt.U, Pt.locs, Pt.cells, Pt.slots] at X8 l8 y8 z8 st8 hQ8
    subst l8 y8 z8
    obtain ⟨rfl, N8q, e8⟩ := hQ8
    have N8 := Fr.app N0 N8q
    refine own_pre (B := (T8.setTop (mkF m 55 #[.val (.ref a1), .val (.ref a2), .val (.ref a2)] [(.int (1 : Int32))]))) (fun t kt => ?_) ?_
    · refine st8 _ ?_
      show Steps p.tables e below (T8.setTop (mkF m 47 _ [(.int (1 : Int32))])) _
      refine XS.ifNo X8.here hx rfl (hb hby d4_47) rfl ((if0 _ _).trans (feq ((by decide) : ¬ ((1 : Int32) = (0 : Int32)))).1) ?_
      show Steps p.tables e below (T8.setTop (mkF m 50 _ [])) _
      refine XS.iconst X8.here hx rfl (hb hby d4_50) ?_
      show Steps p.tables e below (T8.setTop (mkF m 51 _ [(.int (1 : Int32))])) _
      refine XS.goto X8.here hx rfl (pc0 := 51) (pc' := 55) rfl (hb hby d4_51) (by decide) (by decide) ?_
      exact kt
    exact own_fin X8 (some (.int (1 : Int32))) (fun h => by rw [Bd.returns] at h; cases h) (BodyLoose.notSynchronized Bd) e8 (fun fs hr => retN X8 hx (t := .boolean) Bd.returns (by simp) (hb hby d4_55) hr) ⟨rfl, N8, rfl⟩ (by decide) (by decide)
theorem ef_5_3 (m : MethodId) (x0 : Addr) (x1 : Addr) : entryFrame m #[(.ref x0), (.ref x1)] 3 = mkF m 0 #[.val (.ref x0), .val (.ref x1), .unset] [] := by first | (simp [entryFrame, mkF, argsToLocals, Value.category]; done) | rfl
def Q5_3 (Z : State) (b1 b2 : Addr) (k1 k2 : ClassId) (h0 : Heap) (n0 : Nat) (v : Option Value) (h : Heap) (L : List Loc) : Prop := v = some (.int 0) ∧ Fr n0 L ∧ h = h0
set_option maxRecDepth 65536 in
set_option maxHeartbeats 40000000 in
theorem rm5_3 (l : Launch) (Z : State) (a0 : Array Value) (hw : ∀ d ∈ tables_1, d.before a0 Z = true) (ws : List Jvm.Cond) (b1 b2 : Addr) (k1 k2 : ClassId) (h0 : Heap) (n0 : Nat) (Z0 : n0 ≤ h0.size) (V_b1 : Arv Z h0 b1 k1 .byte (5 : Int32) [(.int (109 : Int32)), (.int (111 : Int32)), (.int (110 : Int32)), (.int (116 : Int32)), (.int (104 : Int32))] (.int 0)) (V_b2 : Arv Z h0 b2 k2 .byte (3 : Int32) [(.int (107 : Int32)), (.int (87 : Int32)), (.int (104 : Int32))] (.int 0)) :
    MetFree l (⟨"java/lang/StringLatin1", "equals", "([B[B)Z"⟩ : MethodName) (head1 (Jvm.Cond.code (⟨"java/lang/StringLatin1", "equals", "([B[B)Z"⟩ : MethodName) jdk_43_method_13_code 3 (some .boolean) :: ws) ({ frames := 0, cells := 0, slots := 0, locals := 0 } : Room)) (fun a U => a = #[(.ref b1), (.ref b2)] ∧ Z.Warmed39 U.vm ∧ U.heap = h0) (fun _ _ _ _ _ => True) (fun _ U o U' => ∃ v L, o = .returned v ∧ Q5_3 Z b1 b2 k1 k2 h0 n0 v U'.heap L ∧ FrameEnd U o U' L ({ frames := 0, cells := 0, slots := 0, locals := 0 } : Room).cells ({ frames := 0, cells := 0, slots := 0, locals := 0 } : Room).slots) := by
  refine MetFree.of_bodySF (plainFor_of_name pn_5) hisR ?_
  intro p e s m args below meth c s₁ Bd hml0 hP hK
  obtain ⟨rfl, hZ, hh⟩ := hP
  have hx := Bd.exec
  have hby := Bd.bytes
  have hml : c.maxLocals = 3 := hml0
  have hown : s.vm.findClass "java/lang/StringLatin1" = some m.cls := findClass_of_methodNamed Bd.named
  have hnm := (name_of_methodNamed Bd.named Bd.method).1
  have X0 : Stand p l e ({ frames := 0, cells := 0, slots := 0, locals := 0 } : Room) s m #[(.ref b1), (.ref b2)] below meth c s₁ [] 0 0 := Stand.of_body Bd
  have e0 : s₁.heap = h0 := by rw [← hh, Bd.state]; rfl
  have N0 := Fr.nil n0
  show own_Ends p e below s ({ frames := 0, cells := 0, slots := 0, locals := 0 } : Room).cells ({ frames := 0, cells := 0, slots := 0, locals := 0 } : Room).slots (Q5_3 Z b1 b2 k1 k2 h0 n0) (s₁.setTop (entryFrame m #[(.ref b1), (.ref b2)] 3))
  rw [ef_5_3 m b1 b2]
  refine own_pre (B := (s₁.setTop (mkF m 1 #[.val (.ref b1), .val (.ref b2), .unset] [(.ref b1)]))) (fun t kt => ?_) ?_
  · show Steps p.tables e below (s₁.setTop (mkF m 0 _ [])) _
    refine XS.aloadN X0.here hx rfl (hb hby d5_0) rfl rfl ?_
    exact kt
  obtain ⟨cl1, Ar1, q1, S1, P1, H1, G1⟩ := id V_b1
  refine own_pre (B := (s₁.setTop (mkF m 3 #[.val (.ref b1), .val (.ref b2), .unset] [(.ref b2), (.int (5 : Int32))]))) (fun t kt => ?_) ?_
  · show Steps p.tables e below (s₁.setTop (mkF m 1 _ [(.ref b1)])) _
    refine X0.arraylength hx (by rw [e0]; exact Ar1.1) (State.isArrayOf_alike hZ.alike Ar1.2.1) (g := (mkF m 1 #[.val (.ref b1), .val (.ref b2), .unset] [(.ref b1)])) rfl rfl (hb hby d5_1) _ ?_
    rw [len_of S1 P1]
    show Steps p.tables e below (s₁.setTop (mkF m 2 _ [(.int (5 : Int32))])) _
    refine XS.aloadN X0.here hx rfl (hb hby d5_2) rfl rfl ?_
    exact kt
  obtain ⟨cl2, Ar2, q2, S2, P2, H2, G2⟩ := id V_b2
  refine own_pre (B := (s₁.setTop (mkF m 35 #[.val (.ref b1), .val (.ref b2), .unset] [(.int (0 : Int32))]))) (fun t kt => ?_) ?_
  · show Steps p.tables e below (s₁.setTop (mkF m 3 _ [(.ref b2), (.int (5 : Int32))])) _
    refine X0.arraylength hx (by rw [e0]; exact Ar2.1) (State.isArrayOf_alike hZ.alike Ar2.2.1) (g := (mkF m 3 #[.val (.ref b1), .val (.ref b2), .unset] [(.ref b2), (.int (5 : Int32))])) rfl rfl (hb hby d5_3) _ ?_
    rw [len_of S2 P2]
    show Steps p.tables e below (s₁.setTop (mkF m 4 _ [(.int (3 : Int32)), (.int (5 : Int32))])) _
    refine XS.icmpYes X0.here hx rfl (pc0 := 4) (pc' := 34) rfl (hb hby d5_4) rfl (feq ((by decide) : ¬ ((5 : Int32) = (3 : Int32)))).2 (by decide) (by decide) ?_
    show Steps p.tables e below (s₁.setTop (mkF m 34 _ [])) _
    refine XS.iconst X0.here hx rfl (hb hby d5_34) ?_
    exact kt
  exact own_fin X0 (some (.int (0 : Int32))) (fun h => by rw [Bd.returns] at h; cases h) (BodyLoose.notSynchronized Bd) e0 (fun fs hr => retN X0 hx (t := .boolean) Bd.returns (by simp) (hb hby d5_35) hr) ⟨rfl, N0, rfl⟩ (by decide) (by decide)
theorem ef_4_3 (m : MethodId) (x0 : Addr) (x1 : Addr) : entryFrame m #[(.ref x0), (.ref x1)] 3 = mkF m 0 #[.val (.ref x0), .val (.ref x1), .unset] [] := by first | (simp [entryFrame, mkF, argsToLocals, Value.category]; done) | rfl
def Q4_3 (Z : State) (a1 a2 b1 b2 : Addr) (k1 k2 : ClassId) (cz : Int32) (h0 : Heap) (n0 : Nat) (v : Option Value) (h : Heap) (L : List Loc) : Prop := v = some (.int 0) ∧ Fr n0 L ∧ h = h0
set_option maxRecDepth 65536 in
set_option maxHeartbeats 40000000 in
theorem rm4_3 (l : Launch) (Z : State) (a0 : Array Value) (hw : ∀ d ∈ tables_1, d.before a0 Z = true) (ws : List Jvm.Cond) (a1 a2 b1 b2 : Addr) (k1 k2 : ClassId) (cz : Int32) (h0 : Heap) (n0 : Nat) (Z0 : n0 ≤ h0.size) (E_a2 : Exa Z h0 a2 "java/lang/String") (C_a1 : Fld Z h0 a1 "java/lang/String" "coder" "B" (.int (0 : Int32))) (F_a1 : Fld Z h0 a1 "java/lang/String" "value" "[B" (.ref b1)) (C_a2 : Fld Z h0 a2 "java/lang/String" "coder" "B" (.int (0 : Int32))) (F_a2 : Fld Z h0 a2 "java/lang/String" "value" "[B" (.ref b2)) (V_b1 : Arv Z h0 b1 k1 .byte (5 : Int32) [(.int (109 : Int32)), (.int (111 : Int32)), (.int (110 : Int32)), (.int (116 : Int32)), (.int (104 : Int32))] (.int 0)) (V_b2 : Arv Z h0 b2 k2 .byte (3 : Int32) [(.int (107 : Int32)), (.int (87 : Int32)), (.int (104 : Int32))] (.int 0)) (S_CS : Sta Z Z.heap "java/lang/String" "COMPACT_STRINGS" "Z" (.int cz)) (hcs : ¬ (cz = (0 : Int32))) (X00 : Old Z n0 h0) (hne : ¬ (a1 = a2)) :
    MetFree l (⟨"java/lang/String", "equals", "(Ljava/lang/Object;)Z"⟩ : MethodName) (head1 (Jvm.Cond.code (⟨"java/lang/String", "equals", "(Ljava/lang/Object;)Z"⟩ : MethodName) jdk_42_method_66_code 3 (some .boolean) :: ws) ({ frames := 1, cells := 0, slots := 0, locals := 14 } : Room)) (fun a U => a = #[(.ref a1), (.ref a2)] ∧ Z.Warmed39 U.vm ∧ U.heap = h0) (fun _ _ _ _ _ => True) (fun _ U o U' => ∃ v L, o = .returned v ∧ Q4_3 Z a1 a2 b1 b2 k1 k2 cz h0 n0 v U'.heap L ∧ FrameEnd U o U' L ({ frames := 1, cells := 0, slots := 0, locals := 14 } : Room).cells ({ frames := 1, cells := 0, slots := 0, locals := 14 } : Room).slots) := by
  refine MetFree.of_bodySF (plainFor_of_name pn_4) hisR ?_
  intro p e s m args below meth c s₁ Bd hml0 hP hK
  obtain ⟨rfl, hZ, hh⟩ := hP
  have hx := Bd.exec
  have hby := Bd.bytes
  have hml : c.maxLocals = 3 := hml0
  have hown : s.vm.findClass "java/lang/String" = some m.cls := findClass_of_methodNamed Bd.named
  have hnm := (name_of_methodNamed Bd.named Bd.method).1
  have X0 : Stand p l e ({ frames := 1, cells := 0, slots := 0, locals := 14 } : Room) s m #[(.ref a1), (.ref a2)] below meth c s₁ [] 0 0 := Stand.of_body Bd
  have e0 : s₁.heap = h0 := by rw [← hh, Bd.state]; rfl
  have N0 := Fr.nil n0
  show own_Ends p e below s ({ frames := 1, cells := 0, slots := 0, locals := 14 } : Room).cells ({ frames := 1, cells := 0, slots := 0, locals := 14 } : Room).slots (Q4_3 Z a1 a2 b1 b2 k1 k2 cz h0 n0) (s₁.setTop (entryFrame m #[(.ref a1), (.ref a2)] 3))
  rw [ef_4_3 m a1 a2]
  refine own_pre (B := (s₁.setTop (mkF m 2 #[.val (.ref a1), .val (.ref a2), .unset] [(.ref a2), (.ref a1)]))) (fun t kt => ?_) ?_
  · show Steps p.tables e below (s₁.setTop (mkF m 0 _ [])) _
    refine XS.aloadN X0.here hx rfl (hb hby d4_0) rfl rfl ?_
    show Steps p.tables e below (s₁.setTop (mkF m 1 _ [(.ref a1)])) _
    refine XS.aloadN X0.here hx rfl (hb hby d4_1) rfl rfl ?_
    exact kt
  refine own_pre (B := (s₁.setTop (mkF m 8 #[.val (.ref a1), .val (.ref a2), .unset] [(.ref a2)]))) (fun t kt => ?_) ?_
  · show Steps p.tables e below (s₁.setTop (mkF m 2 _ [(.ref a2), (.ref a1)])) _
    refine Jvm.RoadKit.acmp (g := (mkF m 2 #[.val (.ref a1), .val (.ref a2), .unset] [(.ref a2), (.ref a1)])) X0 hx rfl rfl rfl (pc0 := 2) (pc' := 7) (same := false) rfl (hb hby d4_2) rfl (decide_eq_false fun q => hne (Value.ref.inj q)) (by decide) (by decide) ?_
    show Steps p.tables e below (s₁.setTop (mkF m 7 _ [])) _
    refine XS.aloadN X0.here hx rfl (hb hby d4_7) rfl rfl ?_
    exact kt
  obtain ⟨T1, X1, e1, st1⟩ := instY X0 hx hZ hown (hw _ (List.mem_of_getElem? (i := 33) rfl)) e0 (Ins.self E_a2) (g := (mkF m 8 #[.val (.ref a1), .val (.ref a2), .unset] [(.ref a2)])) rfl rfl (hb hby d4_8)
  refine own_pre (B := (T1.setTop (mkF m 15 #[.val (.ref a1), .val (.ref a2), .unset] [(.ref a2)]))) (fun t kt => ?_) ?_
  · show Steps p.tables e below (s₁.setTop (mkF m 8 _ [(.ref a2)])) _
    refine st1 _ ?_
    show Steps p.tables e below (T1.setTop (mkF m 11 _ [(.int (1 : Int32))])) _
    refine XS.ifNo X1.here hx rfl (hb hby d4_11) rfl ((if0 _ _).trans (feq ((by decide) : ¬ ((1 : Int32) = (0 : Int32)))).1) ?_
    show Steps p.tables e below (T1.setTop (mkF m 14 _ [])) _
    refine XS.aloadN X1.here hx rfl (hb hby d4_14) rfl rfl ?_
    exact kt
  obtain ⟨T2, X2, e2, st2⟩ := castY X1 hx hZ hown (hw _ (List.mem_of_getElem? (i := 33) rfl)) e1 (Ins.self E_a2) (g := (mkF m 15 #[.val (.ref a1), .val (.ref a2), .unset] [(.ref a2)])) rfl rfl (hb hby d4_15)
  refine own_pre (B := (T2.setTop (mkF m 19 #[.val (.ref a1), .val (.ref a2), .val (.ref a2)] []))) (fun t kt => ?_) ?_
  · show Steps p.tables e below (T1.setTop (mkF m 15 _ [(.ref a2)])) _
    refine st2 _ ?_
    show Steps p.tables e below (T2.setTop (mkF m 18 _ [(.ref a2)])) _
    refine XS.astoreN X2.here hx rfl (hb hby d4_18) rfl rfl (l' := #[.val (.ref a1), .val (.ref a2), .val (.ref a2)]) rfl ?_
    exact kt
  obtain ⟨T3, X3, e3, st3⟩ := getS2 X2 hx hZ hown (host := "") (Or.inl (hw _ (List.mem_of_getElem? (i := 35) rfl))) Via.refl e2 (S_CS.ext X00.2) (g := (mkF m 19 #[.val (.ref a1), .val (.ref a2), .val (.ref a2)] [])) rfl (hb hby d4_19)
  refine own_pre (B := (T3.setTop (mkF m 26 #[.val (.ref a1), .val (.ref a2), .val (.ref a2)] [(.ref a1)]))) (fun t kt => ?_) ?_
  · show Steps p.tables e below (T2.setTop (mkF m 19 _ [])) _
    refine st3 _ ?_
    show Steps p.tables e below (T3.setTop (mkF m 22 _ [(.int cz)])) _
    refine XS.ifNo X3.here hx rfl (hb hby d4_22) rfl ((if0 _ _).trans (feq (hcs : ¬ (cz = (0 : Int32)))).1) ?_
    show Steps p.tables e below (T3.setTop (mkF m 25 _ [])) _
    refine XS.aloadN X3.here hx rfl (hb hby d4_25) rfl rfl ?_
    exact kt
  obtain ⟨T4, X4, e4, st4⟩ := getF X3 hx hZ hown (host := "") (Or.inl (hw _ (List.mem_of_getElem? (i := 36) rfl))) Via.refl e3 C_a1 (g := (mkF m 26 #[.val (.ref a1), .val (.ref a2), .val (.ref a2)] [(.ref a1)])) rfl rfl (hb hby d4_26)
  refine own_pre (B := (T4.setTop (mkF m 30 #[.val (.ref a1), .val (.ref a2), .val (.ref a2)] [(.ref a2), (.int (0 : Int32))]))) (fun t kt => ?_) ?_
  · show Steps p.tables e below (T3.setTop (mkF m 26 _ [(.ref a1)])) _
    refine st4 _ ?_
    show Steps p.tables e below (T4.setTop (mkF m 29 _ [(.int (0 : Int32))])) _
    refine XS.aloadN X4.here hx rfl (hb hby d4_29) rfl rfl ?_
    exact kt
  obtain ⟨T5, X5, e5, st5⟩ := getF X4 hx hZ hown (host := "") (Or.inl (hw _ (List.mem_of_getElem? (i := 36) rfl))) Via.refl e4 C_a2 (g := (mkF m 30 #[.val (.ref a1), .val (.ref a2), .val (.ref a2)] [(.ref a2), (.int (0 : Int32))])) rfl rfl (hb hby d4_30)
  refine own_pre (B := (T5.setTop (mkF m 37 #[.val (.ref a1), .val (.ref a2), .val (.ref a2)] [(.ref a1)]))) (fun t kt => ?_) ?_
  · show Steps p.tables e below (T4.setTop (mkF m 30 _ [(.ref a2), (.int (0 : Int32))])) _
    refine st5 _ ?_
    show Steps p.tables e below (T5.setTop (mkF m 33 _ [(.int (0 : Int32)), (.int (0 : Int32))])) _
    refine XS.icmpNo X5.here hx rfl (hb hby d4_33) rfl (teq (rfl : (0 : Int32) = (0 : Int32))).2 ?_
    show Steps p.tables e below (T5.setTop (mkF m 36 _ [])) _
    refine XS.aloadN X5.here hx rfl (hb hby d4_36) rfl rfl ?_
    exact kt
  obtain ⟨T6, X6, e6, st6⟩ := getF X5 hx hZ hown (host := "") (Or.inl (hw _ (List.mem_of_getElem? (i := 37) rfl))) Via.refl e5 F_a1 (g := (mkF m 37 #[.val (.ref a1), .val (.ref a2), .val (.ref a2)] [(.ref a1)])) rfl rfl (hb hby d4_37)
  refine own_pre (B := (T6.setTop (mkF m 41 #[.val (.ref a1), .val (.ref a2), .val (.ref a2)] [(.ref a2), (.ref b1)]))) (fun t kt => ?_) ?_
  · show Steps p.tables e below (T5.setTop (mkF m 37 _ [(.ref a1)])) _
    refine st6 _ ?_
    show Steps p.tables e below (T6.setTop (mkF m 40 _ [(.ref b1)])) _
    refine XS.aloadN X6.here hx rfl (hb hby d4_40) rfl rfl ?_
    exact kt
  obtain ⟨T7, X7, e7, st7⟩ := getF X6 hx hZ hown (host := "") (Or.inl (hw _ (List.mem_of_getElem? (i := 37) rfl))) Via.refl e6 F_a2 (g := (mkF m 41 #[.val (.ref a1), .val (.ref a2), .val (.ref a2)] [(.ref a2), (.ref b1)])) rfl rfl (hb hby d4_41)
  refine own_pre (B := (T7.setTop (mkF m 44 #[.val (.ref a1), .val (.ref a2), .val (.ref a2)] [(.ref b2), (.ref b1)]))) (fun t kt => ?_) ?_
  · show Steps p.tables e below (T6.setTop (mkF m 41 _ [(.ref a2), (.ref b1)])) _
    refine st7 _ ?_
    exact kt
  obtain ⟨_, _, ⟨T8, L8, k8, n8⟩, -, X8, ⟨Lc8, hQ8, l8, y8, z8⟩, st8⟩ := Jvm.LawKit.callS X7 hx (y := (⟨"java/lang/StringLatin1", "equals", "([B[B)Z"⟩ : MethodName)) hown (mvT hZ (hw _ (List.mem_of_getElem? (i := 38) rfl))) (mvT hZ (hw _ (List.mem_of_getElem? (i := 39) rfl))) (mvT hZ (hw _ (List.mem_of_getElem? (i := 40) rfl))) (mvT hZ (hw _ (List.mem_of_getElem? (i := 41) rfl))) (by decide) (backOf (W := 0) (rm5_3 l Z a0 hw [] b1 b2 k1 k2 h0 n0 Z0 V_b1 V_b2) hZ (hw _ (List.mem_of_getElem? (i := 41) rfl)) (hw _ (List.mem_of_getElem? (i := 40) rfl)) (by decide) (by decide)) (g := (mkF m 44 #[.val (.ref a1), .val (.ref a2), .val (.ref a2)] [(.ref b2), (.ref b1)])) rfl (by rw [hml]; rfl) (argsL := [(.ref b1), (.ref b2)]) (rest := []) (lenOf pd_4 rfl) rfl (by show 2 * 0 + _ ≤ _; exact Nat.le_of_eq rfl) (hb hby d4_44) (fun _ _ => ⟨rfl, e7, (by decide : 0 + 0 ≤ _), (by decide : 0 + 0 ≤ _)⟩)
  dsimp only [Pt.U, Pt.locs, Pt.cells, Pt.slots] at X8 l8 y8 z8 st8 hQ8
  subst l8 y8 z8
  obtain ⟨rfl, N8q, e8⟩ := hQ8
  have N8 := Fr.app N0 N8q
  refine own_pre (B := (T8.setTop (mkF m 55 #[.val (.ref a1), .val (.ref a2), .val (.ref a2)] [(.int (0 : Int32))]))) (fun t kt => ?_) ?_
  · refine st8 _ ?_
    show Steps p.tables e below (T8.setTop (mkF m 47 _ [(.int (0 : Int32))])) _
    refine XS.ifYes X8.here hx rfl (pc0 := 47) (pc' := 54) rfl (hb hby d4_47) rfl ((if0 _ _).trans (teq (rfl : (0 : Int32) = (0 : Int32))).1) (by decide) (by decide) ?_
    show Steps p.tables e below (T8.setTop (mkF m 54 _ [])) _
    refine XS.iconst X8.here hx rfl (hb hby d4_54) ?_
    exact kt
  exact own_fin X8 (some (.int (0 : Int32))) (fun h => by rw [Bd.returns] at h; cases h) (BodyLoose.notSynchronized Bd) e8 (fun fs hr => retN X8 hx (t := .boolean) Bd.returns (by simp) (hb hby d4_55) hr) ⟨rfl, N8, rfl⟩ (by decide) (by decide)
theorem ef_5_4 (m : MethodId) (x0 : Addr) (x1 : Addr) : entryFrame m #[(.ref x0), (.ref x1)] 3 = mkF m 0 #[.val (.ref x0), .val (.ref x1), .unset] [] := by first | (simp [entryFrame, mkF, argsToLocals, Value.category]; done) | rfl
def Q5_4 (Z : State) (b1 b2 : Addr) (k1 k2 : ClassId) (h0 : Heap) (n0 : Nat) (v : Option Value) (h : Heap) (L : List Loc) : Prop := v = some (.int 0) ∧ Fr n0 L ∧ h = h0
set_option maxRecDepth 65536 in
set_option maxHeartbeats 40000000 in
theorem rm5_4 (l : Launch) (Z : State) (a0 : Array Value) (hw : ∀ d ∈ tables_1, d.before a0 Z = true) (ws : List Jvm.Cond) (b1 b2 : Addr) (k1 k2 : ClassId) (h0 : Heap) (n0 : Nat) (Z0 : n0 ≤ h0.size) (V_b1 : Arv Z h0 b1 k1 .byte (5 : Int32) [(.int (109 : Int32)), (.int (111 : Int32)), (.int (110 : Int32)), (.int (116 : Int32)), (.int (104 : Int32))] (.int 0)) (V_b2 : Arv Z h0 b2 k2 .byte (3 : Int32) [(.int (77 : Int32)), (.int (87 : Int32)), (.int (104 : Int32))] (.int 0)) :
    MetFree l (⟨"java/lang/StringLatin1", "equals", "([B[B)Z"⟩ : MethodName) (head1 (Jvm.Cond.code (⟨"java/lang/StringLatin1", "equals", "([B[B)Z"⟩ : MethodName) jdk_43_method_13_code 3 (some .boolean) :: ws) ({ frames := 0, cells := 0, slots := 0, locals := 0 } : Room)) (fun a U => a = #[(.ref b1), (.ref b2)] ∧ Z.Warmed39 U.vm ∧ U.heap = h0) (fun _ _ _ _ _ => True) (fun _ U o U' => ∃ v L, o = .returned v ∧ Q5_4 Z b1 b2 k1 k2 h0 n0 v U'.heap L ∧ FrameEnd U o U' L ({ frames := 0, cells := 0, slots := 0, locals := 0 } : Room).cells ({ frames := 0, cells := 0, slots := 0, locals := 0 } : Room).slots) := by
  refine MetFree.of_bodySF (plainFor_of_name pn_5) hisR ?_
  intro p e s m args below meth c s₁ Bd hml0 hP hK
  obtain ⟨rfl, hZ, hh⟩ := hP
  have hx := Bd.exec
  have hby := Bd.bytes
  have hml : c.maxLocals = 3 := hml0
  have hown : s.vm.findClass "java/lang/StringLatin1" = some m.cls := findClass_of_methodNamed Bd.named
  have hnm := (name_of_methodNamed Bd.named Bd.method).1
  have X0 : Stand p l e ({ frames := 0, cells := 0, slots := 0, locals := 0 } : Room) s m #[(.ref b1), (.ref b2)] below meth c s₁ [] 0 0 := Stand.of_body Bd
  have e0 : s₁.heap = h0 := by rw [← hh, Bd.state]; rfl
  have N0 := Fr.nil n0
  show own_Ends p e below s ({ frames := 0, cells := 0, slots := 0, locals := 0 } : Room).cells ({ frames := 0, cells := 0, slots := 0, locals := 0 } : Room).slots (Q5_4 Z b1 b2 k1 k2 h0 n0) (s₁.setTop (entryFrame m #[(.ref b1), (.ref b2)] 3))
  rw [ef_5_4 m b1 b2]
  refine own_pre (B := (s₁.setTop (mkF m 1 #[.val (.ref b1), .val (.ref b2), .unset] [(.ref b1)]))) (fun t kt => ?_) ?_
  · show Steps p.tables e below (s₁.setTop (mkF m 0 _ [])) _
    refine XS.aloadN X0.here hx rfl (hb hby d5_0) rfl rfl ?_
    exact kt
  obtain ⟨cl1, Ar1, q1, S1, P1, H1, G1⟩ := id V_b1
  refine own_pre (B := (s₁.setTop (mkF m 3 #[.val (.ref b1), .val (.ref b2), .unset] [(.ref b2), (.int (5 : Int32))]))) (fun t kt => ?_) ?_
  · show Steps p.tables e below (s₁.setTop (mkF m 1 _ [(.ref b1)])) _
    refine X0.arraylength hx (by rw [e0]; exact Ar1.1) (State.isArrayOf_alike hZ.alike Ar1.2.1) (g := (mkF m 1 #[.val (.ref b1), .val (.ref b2), .unset] [(.ref b1)])) rfl rfl (hb hby d5_1) _ ?_
    rw [len_of S1 P1]
    show Steps p.tables e below (s₁.setTop (mkF m 2 _ [(.int (5 : Int32))])) _
    refine XS.aloadN X0.here hx rfl (hb hby d5_2) rfl rfl ?_
    exact kt
  obtain ⟨cl2, Ar2, q2, S2, P2, H2, G2⟩ := id V_b2
  refine own_pre (B := (s₁.setTop (mkF m 35 #[.val (.ref b1), .val (.ref b2), .unset] [(.int (0 : Int32))]))) (fun t kt => ?_) ?_
  · show Steps p.tables e below (s₁.setTop (mkF m 3 _ [(.ref b2), (.int (5 : Int32))])) _
    refine X0.arraylength hx (by rw [e0]; exact Ar2.1) (State.isArrayOf_alike hZ.alike Ar2.2.1) (g := (mkF m 3 #[.val (.ref b1), .val (.ref b2), .unset] [(.ref b2), (.int (5 : Int32))])) rfl rfl (hb hby d5_3) _ ?_
    rw [len_of S2 P2]
    show Steps p.tables e below (s₁.setTop (mkF m 4 _ [(.int (3 : Int32)), (.int (5 : Int32))])) _
    refine XS.icmpYes X0.here hx rfl (pc0 := 4) (pc' := 34) rfl (hb hby d5_4) rfl (feq ((by decide) : ¬ ((5 : Int32) = (3 : Int32)))).2 (by decide) (by decide) ?_
    show Steps p.tables e below (s₁.setTop (mkF m 34 _ [])) _
    refine XS.iconst X0.here hx rfl (hb hby d5_34) ?_
    exact kt
  exact own_fin X0 (some (.int (0 : Int32))) (fun h => by rw [Bd.returns] at h; cases h) (BodyLoose.notSynchronized Bd) e0 (fun fs hr => retN X0 hx (t := .boolean) Bd.returns (by simp) (hb hby d5_35) hr) ⟨rfl, N0, rfl⟩ (by decide) (by decide)
theorem ef_4_4 (m : MethodId) (x0 : Addr) (x1 : Addr) : entryFrame m #[(.ref x0), (.ref x1)] 3 = mkF m 0 #[.val (.ref x0), .val (.ref x1), .unset] [] := by first | (simp [entryFrame, mkF, argsToLocals, Value.category]; done) | rfl
def Q4_4 (Z : State) (a1 a2 b1 b2 : Addr) (k1 k2 : ClassId) (cz : Int32) (h0 : Heap) (n0 : Nat) (v : Option Value) (h : Heap) (L : List Loc) : Prop := v = some (.int 0) ∧ Fr n0 L ∧ h = h0
set_option maxRecDepth 65536 in
set_option maxHeartbeats 40000000 in
theorem rm4_4 (l : Launch) (Z : State) (a0 : Array Value) (hw : ∀ d ∈ tables_1, d.before a0 Z = true) (ws : List Jvm.Cond) (a1 a2 b1 b2 : Addr) (k1 k2 : ClassId) (cz : Int32) (h0 : Heap) (n0 : Nat) (Z0 : n0 ≤ h0.size) (E_a2 : Exa Z h0 a2 "java/lang/String") (C_a1 : Fld Z h0 a1 "java/lang/String" "coder" "B" (.int (0 : Int32))) (F_a1 : Fld Z h0 a1 "java/lang/String" "value" "[B" (.ref b1)) (C_a2 : Fld Z h0 a2 "java/lang/String" "coder" "B" (.int (0 : Int32))) (F_a2 : Fld Z h0 a2 "java/lang/String" "value" "[B" (.ref b2)) (V_b1 : Arv Z h0 b1 k1 .byte (5 : Int32) [(.int (109 : Int32)), (.int (111 : Int32)), (.int (110 : Int32)), (.int (116 : Int32)), (.int (104 : Int32))] (.int 0)) (V_b2 : Arv Z h0 b2 k2 .byte (3 : Int32) [(.int (77 : Int32)), (.int (87 : Int32)), (.int (104 : Int32))] (.int 0)) (S_CS : Sta Z Z.heap "java/lang/String" "COMPACT_STRINGS" "Z" (.int cz)) (hcs : ¬ (cz = (0 : Int32))) (X00 : Old Z n0 h0) (hne : ¬ (a1 = a2)) :
    MetFree l (⟨"java/lang/String", "equals", "(Ljava/lang/Object;)Z"⟩ : MethodName) (head1 (Jvm.Cond.code (⟨"java/lang/String", "equals", "(Ljava/lang/Object;)Z"⟩ : MethodName) jdk_42_method_66_code 3 (some .boolean) :: ws) ({ frames := 1, cells := 0, slots := 0, locals := 14 } : Room)) (fun a U => a = #[(.ref a1), (.ref a2)] ∧ Z.Warmed39 U.vm ∧ U.heap = h0) (fun _ _ _ _ _ => True) (fun _ U o U' => ∃ v L, o = .returned v ∧ Q4_4 Z a1 a2 b1 b2 k1 k2 cz h0 n0 v U'.heap L ∧ FrameEnd U o U' L ({ frames := 1, cells := 0, slots := 0, locals := 14 } : Room).cells ({ frames := 1, cells := 0, slots := 0, locals := 14 } : Room).slots) := by
  refine MetFree.of_bodySF (plainFor_of_name pn_4) hisR ?_
  intro p e s m args below meth c s₁ Bd hml0 hP hK
  obtain ⟨rfl, hZ, hh⟩ := hP
  have hx := Bd.exec
  have hby := Bd.bytes
  have hml : c.maxLocals = 3 := hml0
  have hown : s.vm.findClass "java/lang/String" = some m.cls := findClass_of_methodNamed Bd.named
  have hnm := (name_of_methodNamed Bd.named Bd.method).1
  have X0 : Stand p l e ({ frames := 1, cells := 0, slots := 0, locals := 14 } : Room) s m #[(.ref a1), (.ref a2)] below meth c s₁ [] 0 0 := Stand.of_body Bd
  have e0 : s₁.heap = h0 := by rw [← hh, Bd.state]; rfl
  have N0 := Fr.nil n0
  show own_Ends p e below s ({ frames := 1, cells := 0, slots := 0, locals := 14 } : Room).cells ({ frames := 1, cells := 0, slots := 0, locals := 14 } : Room).slots (Q4_4 Z a1 a2 b1 b2 k1 k2 cz h0 n0) (s₁.setTop (entryFrame m #[(.ref a1), (.ref a2)] 3))
  rw [ef_4_4 m a1 a2]
  refine own_pre (B := (s₁.setTop (mkF m 2 #[.val (.ref a1), .val (.ref a2), .unset] [(.ref a2), (.ref a1)]))) (fun t kt => ?_) ?_
  · show Steps p.tables e below (s₁.setTop (mkF m 0 _ [])) _
    refine XS.aloadN X0.here hx rfl (hb hby d4_0) rfl rfl ?_
    show Steps p.tables e below (s₁.setTop (mkF m 1 _ [(.ref a1)])) _
    refine XS.aloadN X0.here hx rfl (hb hby d4_1) rfl rfl ?_
    exact kt
  refine own_pre (B := (s₁.setTop (mkF m 8 #[.val (.ref a1), .val (.ref a2), .unset] [(.ref a2)]))) (fun t kt => ?_) ?_
  · show Steps p.tables e below (s₁.setTop (mkF m 2 _ [(.ref a2), (.ref a1)])) _
    refine Jvm.RoadKit.acmp (g := (mkF m 2 #[.val (.ref a1), .val (.ref a2), .unset] [(.ref a2), (.ref a1)])) X0 hx rfl rfl rfl (pc0 := 2) (pc' := 7) (same := false) rfl (hb hby d4_2) rfl (decide_eq_false fun q => hne (Value.ref.inj q)) (by decide) (by decide) ?_
    show Steps p.tables e below (s₁.setTop (mkF m 7 _ [])) _
    refine XS.aloadN X0.here hx rfl (hb hby d4_7) rfl rfl ?_
    exact kt
  obtain ⟨T1, X1, e1, st1⟩ := instY X0 hx hZ hown (hw _ (List.mem_of_getElem? (i := 33) rfl)) e0 (Ins.self E_a2) (g := (mkF m 8 #[.val (.ref a1), .val (.ref a2), .unset] [(.ref a2)])) rfl rfl (hb hby d4_8)
  refine own_pre (B := (T1.setTop (mkF m 15 #[.val (.ref a1), .val (.ref a2), .unset] [(.ref a2)]))) (fun t kt => ?_) ?_
  · show Steps p.tables e below (s₁.setTop (mkF m 8 _ [(.ref a2)])) _
    refine st1 _ ?_
    show Steps p.tables e below (T1.setTop (mkF m 11 _ [(.int (1 : Int32))])) _
    refine XS.ifNo X1.here hx rfl (hb hby d4_11) rfl ((if0 _ _).trans (feq ((by decide) : ¬ ((1 : Int32) = (0 : Int32)))).1) ?_
    show Steps p.tables e below (T1.setTop (mkF m 14 _ [])) _
    refine XS.aloadN X1.here hx rfl (hb hby d4_14) rfl rfl ?_
    exact kt
  obtain ⟨T2, X2, e2, st2⟩ := castY X1 hx hZ hown (hw _ (List.mem_of_getElem? (i := 33) rfl)) e1 (Ins.self E_a2) (g := (mkF m 15 #[.val (.ref a1), .val (.ref a2), .unset] [(.ref a2)])) rfl rfl (hb hby d4_15)
  refine own_pre (B := (T2.setTop (mkF m 19 #[.val (.ref a1), .val (.ref a2), .val (.ref a2)] []))) (fun t kt => ?_) ?_
  · show Steps p.tables e below (T1.setTop (mkF m 15 _ [(.ref a2)])) _
    refine st2 _ ?_
    show Steps p.tables e below (T2.setTop (mkF m 18 _ [(.ref a2)])) _
    refine XS.astoreN X2.here hx rfl (hb hby d4_18) rfl rfl (l' := #[.val (.ref a1), .val (.ref a2), .val (.ref a2)]) rfl ?_
    exact kt
  obtain ⟨T3, X3, e3, st3⟩ := getS2 X2 hx hZ hown (host := "") (Or.inl (hw _ (List.mem_of_getElem? (i := 35) rfl))) Via.refl e2 (S_CS.ext X00.2) (g := (mkF m 19 #[.val (.ref a1), .val (.ref a2), .val (.ref a2)] [])) rfl (hb hby d4_19)
  refine own_pre (B := (T3.setTop (mkF m 26 #[.val (.ref a1), .val (.ref a2), .val (.ref a2)] [(.ref a1)]))) (fun t kt => ?_) ?_
  · show Steps p.tables e below (T2.setTop (mkF m 19 _ [])) _
    refine st3 _ ?_
    show Steps p.tables e below (T3.setTop (mkF m 22 _ [(.int cz)])) _
    refine XS.ifNo X3.here hx rfl (hb hby d4_22) rfl ((if0 _ _).trans (feq (hcs : ¬ (cz = (0 : Int32)))).1) ?_
    show Steps p.tables e below (T3.setTop (mkF m 25 _ [])) _
    refine XS.aloadN X3.here hx rfl (hb hby d4_25) rfl rfl ?_
    exact kt
  obtain ⟨T4, X4, e4, st4⟩ := getF X3 hx hZ hown (host := "") (Or.inl (hw _ (List.mem_of_getElem? (i := 36) rfl))) Via.refl e3 C_a1 (g := (mkF m 26 #[.val (.ref a1), .val (.ref a2), .val (.ref a2)] [(.ref a1)])) rfl rfl (hb hby d4_26)
  refine own_pre (B := (T4.setTop (mkF m 30 #[.val (.ref a1), .val (.ref a2), .val (.ref a2)] [(.ref a2), (.int (0 : Int32))]))) (fun t kt => ?_) ?_
  · show Steps p.tables e below (T3.setTop (mkF m 26 _ [(.ref a1)])) _
    refine st4 _ ?_
    show Steps p.tables e below (T4.setTop (mkF m 29 _ [(.int (0 : Int32))])) _
    refine XS.aloadN X4.here hx rfl (hb hby d4_29) rfl rfl ?_
    exact kt
  obtain ⟨T5, X5, e5, st5⟩ := getF X4 hx hZ hown (host := "") (Or.inl (hw _ (List.mem_of_getElem? (i := 36) rfl))) Via.refl e4 C_a2 (g := (mkF m 30 #[.val (.ref a1), .val (.ref a2), .val (.ref a2)] [(.ref a2), (.int (0 : Int32))])) rfl rfl (hb hby d4_30)
  refine own_pre (B := (T5.setTop (mkF m 37 #[.val (.ref a1), .val (.ref a2), .val (.ref a2)] [(.ref a1)]))) (fun t kt => ?_) ?_
  · show Steps p.tables e below (T4.setTop (mkF m 30 _ [(.ref a2), (.int (0 : Int32))])) _
    refine st5 _ ?_
    show Steps p.tables e below (T5.setTop (mkF m 33 _ [(.int (0 : Int32)), (.int (0 : Int32))])) _
    refine XS.icmpNo X5.here hx rfl (hb hby d4_33) rfl (teq (rfl : (0 : Int32) = (0 : Int32))).2 ?_
    show Steps p.tables e below (T5.setTop (mkF m 36 _ [])) _
    refine XS.aloadN X5.here hx rfl (hb hby d4_36) rfl rfl ?_
    exact kt
  obtain ⟨T6, X6, e6, st6⟩ := getF X5 hx hZ hown (host := "") (Or.inl (hw _ (List.mem_of_getElem? (i := 37) rfl))) Via.refl e5 F_a1 (g := (mkF m 37 #[.val (.ref a1), .val (.ref a2), .val (.ref a2)] [(.ref a1)])) rfl rfl (hb hby d4_37)
  refine own_pre (B := (T6.setTop (mkF m 41 #[.val (.ref a1), .val (.ref a2), .val (.ref a2)] [(.ref a2), (.ref b1)]))) (fun t kt => ?_) ?_
  · show Steps p.tables e below (T5.setTop (mkF m 37 _ [(.ref a1)])) _
    refine st6 _ ?_
    show Steps p.tables e below (T6.setTop (mkF m 40 _ [(.ref b1)])) _
    refine XS.aloadN X6.here hx rfl (hb hby d4_40) rfl rfl ?_
    exact kt
  obtain ⟨T7, X7, e7, st7⟩ := getF X6 hx hZ hown (host := "") (Or.inl (hw _ (List.mem_of_getElem? (i := 37) rfl))) Via.refl e6 F_a2 (g := (mkF m 41 #[.val (.ref a1), .val (.ref a2), .val (.ref a2)] [(.ref a2), (.ref b1)])) rfl rfl (hb hby d4_41)
  refine own_pre (B := (T7.setTop (mkF m 44 #[.val (.ref a1), .val (.ref a2), .val (.ref a2)] [(.ref b2), (.ref b1)]))) (fun t kt => ?_) ?_
  · show Steps p.tables e below (T6.setTop (mkF m 41 _ [(.ref a2), (.ref b1)])) _
    refine st7 _ ?_
    exact kt
  obtain ⟨_, _, ⟨T8, L8, k8, n8⟩, -, X8, ⟨Lc8, hQ8, l8, y8, z8⟩, st8⟩ := Jvm.LawKit.callS X7 hx (y := (⟨"java/lang/StringLatin1", "equals", "([B[B)Z"⟩ : MethodName)) hown (mvT hZ (hw _ (List.mem_of_getElem? (i := 38) rfl))) (mvT hZ (hw _ (List.mem_of_getElem? (i := 39) rfl))) (mvT hZ (hw _ (List.mem_of_getElem? (i := 40) rfl))) (mvT hZ (hw _ (List.mem_of_getElem? (i := 41) rfl))) (by decide) (backOf (W := 0) (rm5_4 l Z a0 hw [] b1 b2 k1 k2 h0 n0 Z0 V_b1 V_b2) hZ (hw _ (List.mem_of_getElem? (i := 41) rfl)) (hw _ (List.mem_of_getElem? (i := 40) rfl)) (by decide) (by decide)) (g := (mkF m 44 #[.val (.ref a1), .val (.ref a2), .val (.ref a2)] [(.ref b2), (.ref b1)])) rfl (by rw [hml]; rfl) (argsL := [(.ref b1), (.ref b2)]) (rest := []) (lenOf pd_4 rfl) rfl (by show 2 * 0 + _ ≤ _; exact Nat.le_of_eq rfl) (hb hby d4_44) (fun _ _ => ⟨rfl, e7, (by decide : 0 + 0 ≤ _), (by decide : 0 + 0 ≤ _)⟩)
  dsimp only [Pt.U, Pt.locs, Pt.cells, Pt.slots] at X8 l8 y8 z8 st8 hQ8
  subst l8 y8 z8
  obtain ⟨rfl, N8q, e8⟩ := hQ8
  have N8 := Fr.app N0 N8q
  refine own_pre (B := (T8.setTop (mkF m 55 #[.val (.ref a1), .val (.ref a2), .val (.ref a2)] [(.int (0 : Int32))]))) (fun t kt => ?_) ?_
  · refine st8 _ ?_
    show Steps p.tables e below (T8.setTop (mkF m 47 _ [(.int (0 : Int32))])) _
    refine XS.ifYes X8.here hx rfl (pc0 := 47) (pc' := 54) rfl (hb hby d4_47) rfl ((if0 _ _).trans (teq (rfl : (0 : Int32) = (0 : Int32))).1) (by decide) (by decide) ?_
    show Steps p.tables e below (T8.setTop (mkF m 54 _ [])) _
    refine XS.iconst X8.here hx rfl (hb hby d4_54) ?_
    exact kt
  exact own_fin X8 (some (.int (0 : Int32))) (fun h => by rw [Bd.returns] at h; cases h) (BodyLoose.notSynchronized Bd) e8 (fun fs hr => retN X8 hx (t := .boolean) Bd.returns (by simp) (hb hby d4_55) hr) ⟨rfl, N8, rfl⟩ (by decide) (by decide)
theorem ef_5_5 (m : MethodId) (x0 : Addr) (x1 : Addr) : entryFrame m #[(.ref x0), (.ref x1)] 3 = mkF m 0 #[.val (.ref x0), .val (.ref x1), .unset] [] := by first | (simp [entryFrame, mkF, argsToLocals, Value.category]; done) | rfl
def Q5_5 (Z : State) (b1 b2 : Addr) (k1 k2 : ClassId) (h0 : Heap) (n0 : Nat) (v : Option Value) (h : Heap) (L : List Loc) : Prop := v = some (.int 0) ∧ Fr n0 L ∧ h = h0
set_option maxRecDepth 65536 in
set_option maxHeartbeats 40000000 in
theorem rm5_5 (l : Launch) (Z : State) (a0 : Array Value) (hw : ∀ d ∈ tables_1, d.before a0 Z = true) (ws : List Jvm.Cond) (b1 b2 : Addr) (k1 k2 : ClassId) (h0 : Heap) (n0 : Nat) (Z0 : n0 ≤ h0.size) (V_b1 : Arv Z h0 b1 k1 .byte (8 : Int32) [(.int (107 : Int32)), (.int (87 : Int32)), (.int (45 : Int32)), (.int (109 : Int32)), (.int (111 : Int32)), (.int (110 : Int32)), (.int (116 : Int32)), (.int (104 : Int32))] (.int 0)) (V_b2 : Arv Z h0 b2 k2 .byte (3 : Int32) [(.int (107 : Int32)), (.int (87 : Int32)), (.int (104 : Int32))] (.int 0)) :
    MetFree l (⟨"java/lang/StringLatin1", "equals", "([B[B)Z"⟩ : MethodName) (head1 (Jvm.Cond.code (⟨"java/lang/StringLatin1", "equals", "([B[B)Z"⟩ : MethodName) jdk_43_method_13_code 3 (some .boolean) :: ws) ({ frames := 0, cells := 0, slots := 0, locals := 0 } : Room)) (fun a U => a = #[(.ref b1), (.ref b2)] ∧ Z.Warmed39 U.vm ∧ U.heap = h0) (fun _ _ _ _ _ => True) (fun _ U o U' => ∃ v L, o = .returned v ∧ Q5_5 Z b1 b2 k1 k2 h0 n0 v U'.heap L ∧ FrameEnd U o U' L ({ frames := 0, cells := 0, slots := 0, locals := 0 } : Room).cells ({ frames := 0, cells := 0, slots := 0, locals := 0 } : Room).slots) := by
  refine MetFree.of_bodySF (plainFor_of_name pn_5) hisR ?_
  intro p e s m args below meth c s₁ Bd hml0 hP hK
  obtain ⟨rfl, hZ, hh⟩ := hP
  have hx := Bd.exec
  have hby := Bd.bytes
  have hml : c.maxLocals = 3 := hml0
  have hown : s.vm.findClass "java/lang/StringLatin1" = some m.cls := findClass_of_methodNamed Bd.named
  have hnm := (name_of_methodNamed Bd.named Bd.method).1
  have X0 : Stand p l e ({ frames := 0, cells := 0, slots := 0, locals := 0 } : Room) s m #[(.ref b1), (.ref b2)] below meth c s₁ [] 0 0 := Stand.of_body Bd
  have e0 : s₁.heap = h0 := by rw [← hh, Bd.state]; rfl
  have N0 := Fr.nil n0
  show own_Ends p e below s ({ frames := 0, cells := 0, slots := 0, locals := 0 } : Room).cells ({ frames := 0, cells := 0, slots := 0, locals := 0 } : Room).slots (Q5_5 Z b1 b2 k1 k2 h0 n0) (s₁.setTop (entryFrame m #[(.ref b1), (.ref b2)] 3))
  rw [ef_5_5 m b1 b2]
  refine own_pre (B := (s₁.setTop (mkF m 1 #[.val (.ref b1), .val (.ref b2), .unset] [(.ref b1)]))) (fun t kt => ?_) ?_
  · show Steps p.tables e below (s₁.setTop (mkF m 0 _ [])) _
    refine XS.aloadN X0.here hx rfl (hb hby d5_0) rfl rfl ?_
    exact kt
  obtain ⟨cl1, Ar1, q1, S1, P1, H1, G1⟩ := id V_b1
  refine own_pre (B := (s₁.setTop (mkF m 3 #[.val (.ref b1), .val (.ref b2), .unset] [(.ref b2), (.int (8 : Int32))]))) (fun t kt => ?_) ?_
  · show Steps p.tables e below (s₁.setTop (mkF m 1 _ [(.ref b1)])) _
    refine X0.arraylength hx (by rw [e0]; exact Ar1.1) (State.isArrayOf_alike hZ.alike Ar1.2.1) (g := (mkF m 1 #[.val (.ref b1), .val (.ref b2), .unset] [(.ref b1)])) rfl rfl (hb hby d5_1) _ ?_
    rw [len_of S1 P1]
    show Steps p.tables e below (s₁.setTop (mkF m 2 _ [(.int (8 : Int32))])) _
    refine XS.aloadN X0.here hx rfl (hb hby d5_2) rfl rfl ?_
    exact kt
  obtain ⟨cl2, Ar2, q2, S2, P2, H2, G2⟩ := id V_b2
  refine own_pre (B := (s₁.setTop (mkF m 35 #[.val (.ref b1), .val (.ref b2), .unset] [(.int (0 : Int32))]))) (fun t kt => ?_) ?_
  · show Steps p.tables e below (s₁.setTop (mkF m 3 _ [(.ref b2), (.int (8 : Int32))])) _
    refine X0.arraylength hx (by rw [e0]; exact Ar2.1) (State.isArrayOf_alike hZ.alike Ar2.2.1) (g := (mkF m 3 #[.val (.ref b1), .val (.ref b2), .unset] [(.ref b2), (.int (8 : Int32))])) rfl rfl (hb hby d5_3) _ ?_
    rw [len_of S2 P2]
    show Steps p.tables e below (s₁.setTop (mkF m 4 _ [(.int (3 : Int32)), (.int (8 : Int32))])) _
    refine XS.icmpYes X0.here hx rfl (pc0 := 4) (pc' := 34) rfl (hb hby d5_4) rfl (feq ((by decide) : ¬ ((8 : Int32) = (3 : Int32)))).2 (by decide) (by decide) ?_
    show Steps p.tables e below (s₁.setTop (mkF m 34 _ [])) _
    refine XS.iconst X0.here hx rfl (hb hby d5_34) ?_
    exact kt
  exact own_fin X0 (some (.int (0 : Int32))) (fun h => by rw [Bd.returns] at h; cases h) (BodyLoose.notSynchronized Bd) e0 (fun fs hr => retN X0 hx (t := .boolean) Bd.returns (by simp) (hb hby d5_35) hr) ⟨rfl, N0, rfl⟩ (by decide) (by decide)
theorem ef_4_5 (m : MethodId) (x0 : Addr) (x1 : Addr) : entryFrame m #[(.ref x0), (.ref x1)] 3 = mkF m 0 #[.val (.ref x0), .val (.ref x1), .unset] [] := by first | (simp [entryFrame, mkF, argsToLocals, Value.category]; done) | rfl
def Q4_5 (Z : State) (a1 a2 b1 b2 : Addr) (k1 k2 : ClassId) (cz : Int32) (h0 : Heap) (n0 : Nat) (v : Option Value) (h : Heap) (L : List Loc) : Prop := v = some (.int 0) ∧ Fr n0 L ∧ h = h0
set_option maxRecDepth 65536 in
set_option maxHeartbeats 40000000 in
theorem rm4_5 (l : Launch) (Z : State) (a0 : Array Value) (hw : ∀ d ∈ tables_1, d.before a0 Z = true) (ws : List Jvm.Cond) (a1 a2 b1 b2 : Addr) (k1 k2 : ClassId) (cz : Int32) (h0 : Heap) (n0 : Nat) (Z0 : n0 ≤ h0.size) (E_a2 : Exa Z h0 a2 "java/lang/String") (C_a1 : Fld Z h0 a1 "java/lang/String" "coder" "B" (.int (0 : Int32))) (F_a1 : Fld Z h0 a1 "java/lang/String" "value" "[B" (.ref b1)) (C_a2 : Fld Z h0 a2 "java/lang/String" "coder" "B" (.int (0 : Int32))) (F_a2 : Fld Z h0 a2 "java/lang/String" "value" "[B" (.ref b2)) (V_b1 : Arv Z h0 b1 k1 .byte (8 : Int32) [(.int (107 : Int32)), (.int (87 : Int32)), (.int (45 : Int32)), (.int (109 : Int32)), (.int (111 : Int32)), (.int (110 : Int32)), (.int (116 : Int32)), (.int (104 : Int32))] (.int 0)) (V_b2 : Arv Z h0 b2 k2 .byte (3 : Int32) [(.int (107 : Int32)), (.int (87 : Int32)), (.int (104 : Int32))] (.int 0)) (S_CS : Sta Z Z.heap "java/lang/String" "COMPACT_STRINGS" "Z" (.int cz)) (hcs : ¬ (cz = (0 : Int32))) (X00 : Old Z n0 h0) (hne : ¬ (a1 = a2)) :
    MetFree l (⟨"java/lang/String", "equals", "(Ljava/lang/Object;)Z"⟩ : MethodName) (head1 (Jvm.Cond.code (⟨"java/lang/String", "equals", "(Ljava/lang/Object;)Z"⟩ : MethodName) jdk_42_method_66_code 3 (some .boolean) :: ws) ({ frames := 1, cells := 0, slots := 0, locals := 14 } : Room)) (fun a U => a = #[(.ref a1), (.ref a2)] ∧ Z.Warmed39 U.vm ∧ U.heap = h0) (fun _ _ _ _ _ => True) (fun _ U o U' => ∃ v L, o = .returned v ∧ Q4_5 Z a1 a2 b1 b2 k1 k2 cz h0 n0 v U'.heap L ∧ FrameEnd U o U' L ({ frames := 1, cells := 0, slots := 0, locals := 14 } : Room).cells ({ frames := 1, cells := 0, slots := 0, locals := 14 } : Room).slots) := by
  refine MetFree.of_bodySF (plainFor_of_name pn_4) hisR ?_
  intro p e s m args below meth c s₁ Bd hml0 hP hK
  obtain ⟨rfl, hZ, hh⟩ := hP
  have hx := Bd.exec
  have hby := Bd.bytes
  have hml : c.maxLocals = 3 := hml0
  have hown : s.vm.findClass "java/lang/String" = some m.cls := findClass_of_methodNamed Bd.named
  have hnm := (name_of_methodNamed Bd.named Bd.method).1
  have X0 : Stand p l e ({ frames := 1, cells := 0, slots := 0, locals := 14 } : Room) s m #[(.ref a1), (.ref a2)] below meth c s₁ [] 0 0 := Stand.of_body Bd
  have e0 : s₁.heap = h0 := by rw [← hh, Bd.state]; rfl
  have N0 := Fr.nil n0
  show own_Ends p e below s ({ frames := 1, cells := 0, slots := 0, locals := 14 } : Room).cells ({ frames := 1, cells := 0, slots := 0, locals := 14 } : Room).slots (Q4_5 Z a1 a2 b1 b2 k1 k2 cz h0 n0) (s₁.setTop (entryFrame m #[(.ref a1), (.ref a2)] 3))
  rw [ef_4_5 m a1 a2]
  refine own_pre (B := (s₁.setTop (mkF m 2 #[.val (.ref a1), .val (.ref a2), .unset] [(.ref a2), (.ref a1)]))) (fun t kt => ?_) ?_
  · show Steps p.tables e below (s₁.setTop (mkF m 0 _ [])) _
    refine XS.aloadN X0.here hx rfl (hb hby d4_0) rfl rfl ?_
    show Steps p.tables e below (s₁.setTop (mkF m 1 _ [(.ref a1)])) _
    refine XS.aloadN X0.here hx rfl (hb hby d4_1) rfl rfl ?_
    exact kt
  refine own_pre (B := (s₁.setTop (mkF m 8 #[.val (.ref a1), .val (.ref a2), .unset] [(.ref a2)]))) (fun t kt => ?_) ?_
  · show Steps p.tables e below (s₁.setTop (mkF m 2 _ [(.ref a2), (.ref a1)])) _
    refine Jvm.RoadKit.acmp (g := (mkF m 2 #[.val (.ref a1), .val (.ref a2), .unset] [(.ref a2), (.ref a1)])) X0 hx rfl rfl rfl (pc0 := 2) (pc' := 7) (same := false) rfl (hb hby d4_2) rfl (decide_eq_false fun q => hne (Value.ref.inj q)) (by decide) (by decide) ?_
    show Steps p.tables e below (s₁.setTop (mkF m 7 _ [])) _
    refine XS.aloadN X0.here hx rfl (hb hby d4_7) rfl rfl ?_
    exact kt
  obtain ⟨T1, X1, e1, st1⟩ := instY X0 hx hZ hown (hw _ (List.mem_of_getElem? (i := 33) rfl)) e0 (Ins.self E_a2) (g := (mkF m 8 #[.val (.ref a1), .val (.ref a2), .unset] [(.ref a2)])) rfl rfl (hb hby d4_8)
  refine own_pre (B := (T1.setTop (mkF m 15 #[.val (.ref a1), .val (.ref a2), .unset] [(.ref a2)]))) (fun t kt => ?_) ?_
  · show Steps p.tables e below (s₁.setTop (mkF m 8 _ [(.ref a2)])) _
    refine st1 _ ?_
    show Steps p.tables e below (T1.setTop (mkF m 11 _ [(.int (1 : Int32))])) _
    refine XS.ifNo X1.here hx rfl (hb hby d4_11) rfl ((if0 _ _).trans (feq ((by decide) : ¬ ((1 : Int32) = (0 : Int32)))).1) ?_
    show Steps p.tables e below (T1.setTop (mkF m 14 _ [])) _
    refine XS.aloadN X1.here hx rfl (hb hby d4_14) rfl rfl ?_
    exact kt
  obtain ⟨T2, X2, e2, st2⟩ := castY X1 hx hZ hown (hw _ (List.mem_of_getElem? (i := 33) rfl)) e1 (Ins.self E_a2) (g := (mkF m 15 #[.val (.ref a1), .val (.ref a2), .unset] [(.ref a2)])) rfl rfl (hb hby d4_15)
  refine own_pre (B := (T2.setTop (mkF m 19 #[.val (.ref a1), .val (.ref a2), .val (.ref a2)] []))) (fun t kt => ?_) ?_
  · show Steps p.tables e below (T1.setTop (mkF m 15 _ [(.ref a2)])) _
    refine st2 _ ?_
    show Steps p.tables e below (T2.setTop (mkF m 18 _ [(.ref a2)])) _
    refine XS.astoreN X2.here hx rfl (hb hby d4_18) rfl rfl (l' := #[.val (.ref a1), .val (.ref a2), .val (.ref a2)]) rfl ?_
    exact kt
  obtain ⟨T3, X3, e3, st3⟩ := getS2 X2 hx hZ hown (host := "") (Or.inl (hw _ (List.mem_of_getElem? (i := 35) rfl))) Via.refl e2 (S_CS.ext X00.2) (g := (mkF m 19 #[.val (.ref a1), .val (.ref a2), .val (.ref a2)] [])) rfl (hb hby d4_19)
  refine own_pre (B := (T3.setTop (mkF m 26 #[.val (.ref a1), .val (.ref a2), .val (.ref a2)] [(.ref a1)]))) (fun t kt => ?_) ?_
  · show Steps p.tables e below (T2.setTop (mkF m 19 _ [])) _
    refine st3 _ ?_
    show Steps p.tables e below (T3.setTop (mkF m 22 _ [(.int cz)])) _
    refine XS.ifNo X3.here hx rfl (hb hby d4_22) rfl ((if0 _ _).trans (feq (hcs : ¬ (cz = (0 : Int32)))).1) ?_
    show Steps p.tables e below (T3.setTop (mkF m 25 _ [])) _
    refine XS.aloadN X3.here hx rfl (hb hby d4_25) rfl rfl ?_
    exact kt
  obtain ⟨T4, X4, e4, st4⟩ := getF X3 hx hZ hown (host := "") (Or.inl (hw _ (List.mem_of_getElem? (i := 36) rfl))) Via.refl e3 C_a1 (g := (mkF m 26 #[.val (.ref a1), .val (.ref a2), .val (.ref a2)] [(.ref a1)])) rfl rfl (hb hby d4_26)
  refine own_pre (B := (T4.setTop (mkF m 30 #[.val (.ref a1), .val (.ref a2), .val (.ref a2)] [(.ref a2), (.int (0 : Int32))]))) (fun t kt => ?_) ?_
  · show Steps p.tables e below (T3.setTop (mkF m 26 _ [(.ref a1)])) _
    refine st4 _ ?_
    show Steps p.tables e below (T4.setTop (mkF m 29 _ [(.int (0 : Int32))])) _
    refine XS.aloadN X4.here hx rfl (hb hby d4_29) rfl rfl ?_
    exact kt
  obtain ⟨T5, X5, e5, st5⟩ := getF X4 hx hZ hown (host := "") (Or.inl (hw _ (List.mem_of_getElem? (i := 36) rfl))) Via.refl e4 C_a2 (g := (mkF m 30 #[.val (.ref a1), .val (.ref a2), .val (.ref a2)] [(.ref a2), (.int (0 : Int32))])) rfl rfl (hb hby d4_30)
  refine own_pre (B := (T5.setTop (mkF m 37 #[.val (.ref a1), .val (.ref a2), .val (.ref a2)] [(.ref a1)]))) (fun t kt => ?_) ?_
  · show Steps p.tables e below (T4.setTop (mkF m 30 _ [(.ref a2), (.int (0 : Int32))])) _
    refine st5 _ ?_
    show Steps p.tables e below (T5.setTop (mkF m 33 _ [(.int (0 : Int32)), (.int (0 : Int32))])) _
    refine XS.icmpNo X5.here hx rfl (hb hby d4_33) rfl (teq (rfl : (0 : Int32) = (0 : Int32))).2 ?_
    show Steps p.tables e below (T5.setTop (mkF m 36 _ [])) _
    refine XS.aloadN X5.here hx rfl (hb hby d4_36) rfl rfl ?_
    exact kt
  obtain ⟨T6, X6, e6, st6⟩ := getF X5 hx hZ hown (host := "") (Or.inl (hw _ (List.mem_of_getElem? (i := 37) rfl))) Via.refl e5 F_a1 (g := (mkF m 37 #[.val (.ref a1), .val (.ref a2), .val (.ref a2)] [(.ref a1)])) rfl rfl (hb hby d4_37)
  refine own_pre (B := (T6.setTop (mkF m 41 #[.val (.ref a1), .val (.ref a2), .val (.ref a2)] [(.ref a2), (.ref b1)]))) (fun t kt => ?_) ?_
  · show Steps p.tables e below (T5.setTop (mkF m 37 _ [(.ref a1)])) _
    refine st6 _ ?_
    show Steps p.tables e below (T6.setTop (mkF m 40 _ [(.ref b1)])) _
    refine XS.aloadN X6.here hx rfl (hb hby d4_40) rfl rfl ?_
    exact kt
  obtain ⟨T7, X7, e7, st7⟩ := getF X6 hx hZ hown (host := "") (Or.inl (hw _ (List.mem_of_getElem? (i := 37) rfl))) Via.refl e6 F_a2 (g := (mkF m 41 #[.val (.ref a1), .val (.ref a2), .val (.ref a2)] [(.ref a2), (.ref b1)])) rfl rfl (hb hby d4_41)
  refine own_pre (B := (T7.setTop (mkF m 44 #[.val (.ref a1), .val (.ref a2), .val (.ref a2)] [(.ref b2), (.ref b1)]))) (fun t kt => ?_) ?_
  · show Steps p.tables e below (T6.setTop (mkF m 41 _ [(.ref a2), (.ref b1)])) _
    refine st7 _ ?_
    exact kt
  obtain ⟨_, _, ⟨T8, L8, k8, n8⟩, -, X8, ⟨Lc8, hQ8, l8, y8, z8⟩, st8⟩ := Jvm.LawKit.callS X7 hx (y := (⟨"java/lang/StringLatin1", "equals", "([B[B)Z"⟩ : MethodName)) hown (mvT hZ (hw _ (List.mem_of_getElem? (i := 38) rfl))) (mvT hZ (hw _ (List.mem_of_getElem? (i := 39) rfl))) (mvT hZ (hw _ (List.mem_of_getElem? (i := 40) rfl))) (mvT hZ (hw _ (List.mem_of_getElem? (i := 41) rfl))) (by decide) (backOf (W := 0) (rm5_5 l Z a0 hw [] b1 b2 k1 k2 h0 n0 Z0 V_b1 V_b2) hZ (hw _ (List.mem_of_getElem? (i := 41) rfl)) (hw _ (List.mem_of_getElem? (i := 40) rfl)) (by decide) (by decide)) (g := (mkF m 44 #[.val (.ref a1), .val (.ref a2), .val (.ref a2)] [(.ref b2), (.ref b1)])) rfl (by rw [hml]; rfl) (argsL := [(.ref b1), (.ref b2)]) (rest := []) (lenOf pd_4 rfl) rfl (by show 2 * 0 + _ ≤ _; exact Nat.le_of_eq rfl) (hb hby d4_44) (fun _ _ => ⟨rfl, e7, (by decide : 0 + 0 ≤ _), (by decide : 0 + 0 ≤ _)⟩)
  dsimp only [Pt.U, Pt.locs, Pt.cells, Pt.slots] at X8 l8 y8 z8 st8 hQ8
  subst l8 y8 z8
  obtain ⟨rfl, N8q, e8⟩ := hQ8
  have N8 := Fr.app N0 N8q
  refine own_pre (B := (T8.setTop (mkF m 55 #[.val (.ref a1), .val (.ref a2), .val (.ref a2)] [(.int (0 : Int32))]))) (fun t kt => ?_) ?_
  · refine st8 _ ?_
    show Steps p.tables e below (T8.setTop (mkF m 47 _ [(.int (0 : Int32))])) _
    refine XS.ifYes X8.here hx rfl (pc0 := 47) (pc' := 54) rfl (hb hby d4_47) rfl ((if0 _ _).trans (teq (rfl : (0 : Int32) = (0 : Int32))).1) (by decide) (by decide) ?_
    show Steps p.tables e below (T8.setTop (mkF m 54 _ [])) _
    refine XS.iconst X8.here hx rfl (hb hby d4_54) ?_
    exact kt
  exact own_fin X8 (some (.int (0 : Int32))) (fun h => by rw [Bd.returns] at h; cases h) (BodyLoose.notSynchronized Bd) e8 (fun fs hr => retN X8 hx (t := .boolean) Bd.returns (by simp) (hb hby d4_55) hr) ⟨rfl, N8, rfl⟩ (by decide) (by decide)
theorem ef_5_6 (m : MethodId) (x0 : Addr) (x1 : Addr) : entryFrame m #[(.ref x0), (.ref x1)] 3 = mkF m 0 #[.val (.ref x0), .val (.ref x1), .unset] [] := by first | (simp [entryFrame, mkF, argsToLocals, Value.category]; done) | rfl
def Q5_6 (Z : State) (b1 b2 : Addr) (k1 k2 : ClassId) (h0 : Heap) (n0 : Nat) (v : Option Value) (h : Heap) (L : List Loc) : Prop := v = some (.int 0) ∧ Fr n0 L ∧ h = h0
set_option maxRecDepth 65536 in
set_option maxHeartbeats 40000000 in
theorem rm5_6 (l : Launch) (Z : State) (a0 : Array Value) (hw : ∀ d ∈ tables_1, d.before a0 Z = true) (ws : List Jvm.Cond) (b1 b2 : Addr) (k1 k2 : ClassId) (h0 : Heap) (n0 : Nat) (Z0 : n0 ≤ h0.size) (V_b1 : Arv Z h0 b1 k1 .byte (8 : Int32) [(.int (107 : Int32)), (.int (87 : Int32)), (.int (45 : Int32)), (.int (109 : Int32)), (.int (111 : Int32)), (.int (110 : Int32)), (.int (116 : Int32)), (.int (104 : Int32))] (.int 0)) (V_b2 : Arv Z h0 b2 k2 .byte (3 : Int32) [(.int (77 : Int32)), (.int (87 : Int32)), (.int (104 : Int32))] (.int 0)) :
    MetFree l (⟨"java/lang/StringLatin1", "equals", "([B[B)Z"⟩ : MethodName) (head1 (Jvm.Cond.code (⟨"java/lang/StringLatin1", "equals", "([B[B)Z"⟩ : MethodName) jdk_43_method_13_code 3 (some .boolean) :: ws) ({ frames := 0, cells := 0, slots := 0, locals := 0 } : Room)) (fun a U => a = #[(.ref b1), (.ref b2)] ∧ Z.Warmed39 U.vm ∧ U.heap = h0) (fun _ _ _ _ _ => True) (fun _ U o U' => ∃ v L, o = .returned v ∧ Q5_6 Z b1 b2 k1 k2 h0 n0 v U'.heap L ∧ FrameEnd U o U' L ({ frames := 0, cells := 0, slots := 0, locals := 0 } : Room).cells ({ frames := 0, cells := 0, slots := 0, locals := 0 } : Room).slots) := by
  refine MetFree.of_bodySF (plainFor_of_name pn_5) hisR ?_
  intro p e s m args below meth c s₁ Bd hml0 hP hK
  obtain ⟨rfl, hZ, hh⟩ := hP
  have hx := Bd.exec
  have hby := Bd.bytes
  have hml : c.maxLocals = 3 := hml0
  have hown : s.vm.findClass "java/lang/StringLatin1" = some m.cls := findClass_of_methodNamed Bd.named
  have hnm := (name_of_methodNamed Bd.named Bd.method).1
  have X0 : Stand p l e ({ frames := 0, cells := 0, slots := 0, locals := 0 } : Room) s m #[(.ref b1), (.ref b2)] below meth c s₁ [] 0 0 := Stand.of_body Bd
  have e0 : s₁.heap = h0 := by rw [← hh, Bd.state]; rfl
  have N0 := Fr.nil n0
  show own_Ends p e below s ({ frames := 0, cells := 0, slots := 0, locals := 0 } : Room).cells ({ frames := 0, cells := 0, slots := 0, locals := 0 } : Room).slots (Q5_6 Z b1 b2 k1 k2 h0 n0) (s₁.setTop (entryFrame m #[(.ref b1), (.ref b2)] 3))
  rw [ef_5_6 m b1 b2]
  refine own_pre (B := (s₁.setTop (mkF m 1 #[.val (.ref b1), .val (.ref b2), .unset] [(.ref b1)]))) (fun t kt => ?_) ?_
  · show Steps p.tables e below (s₁.setTop (mkF m 0 _ [])) _
    refine XS.aloadN X0.here hx rfl (hb hby d5_0) rfl rfl ?_
    exact kt
  obtain ⟨cl1, Ar1, q1, S1, P1, H1, G1⟩ := id V_b1
  refine own_pre (B := (s₁.setTop (mkF m 3 #[.val (.ref b1), .val (.ref b2), .unset] [(.ref b2), (.int (8 : Int32))]))) (fun t kt => ?_) ?_
  · show Steps p.tables e below (s₁.setTop (mkF m 1 _ [(.ref b1)])) _
    refine X0.arraylength hx (by rw [e0]; exact Ar1.1) (State.isArrayOf_alike hZ.alike Ar1.2.1) (g := (mkF m 1 #[.val (.ref b1), .val (.ref b2), .unset] [(.ref b1)])) rfl rfl (hb hby d5_1) _ ?_
    rw [len_of S1 P1]
    show Steps p.tables e below (s₁.setTop (mkF m 2 _ [(.int (8 : Int32))])) _
    refine XS.aloadN X0.here hx rfl (hb hby d5_2) rfl rfl ?_
    exact kt
  obtain ⟨cl2, Ar2, q2, S2, P2, H2, G2⟩ := id V_b2
  refine own_pre (B := (s₁.setTop (mkF m 35 #[.val (.ref b1), .val (.ref b2), .unset] [(.int (0 : Int32))]))) (fun t kt => ?_) ?_
  · show Steps p.tables e below (s₁.setTop (mkF m 3 _ [(.ref b2), (.int (8 : Int32))])) _
    refine X0.arraylength hx (by rw [e0]; exact Ar2.1) (State.isArrayOf_alike hZ.alike Ar2.2.1) (g := (mkF m 3 #[.val (.ref b1), .val (.ref b2), .unset] [(.ref b2), (.int (8 : Int32))])) rfl rfl (hb hby d5_3) _ ?_
    rw [len_of S2 P2]
    show Steps p.tables e below (s₁.setTop (mkF m 4 _ [(.int (3 : Int32)), (.int (8 : Int32))])) _
    refine XS.icmpYes X0.here hx rfl (pc0 := 4) (pc' := 34) rfl (hb hby d5_4) rfl (feq ((by decide) : ¬ ((8 : Int32) = (3 : Int32)))).2 (by decide) (by decide) ?_
    show Steps p.tables e below (s₁.setTop (mkF m 34 _ [])) _
    refine XS.iconst X0.here hx rfl (hb hby d5_34) ?_
    exact kt
  exact own_fin X0 (some (.int (0 : Int32))) (fun h => by rw [Bd.returns] at h; cases h) (BodyLoose.notSynchronized Bd) e0 (fun fs hr => retN X0 hx (t := .boolean) Bd.returns (by simp) (hb hby d5_35) hr) ⟨rfl, N0, rfl⟩ (by decide) (by decide)
theorem ef_4_6 (m : MethodId) (x0 : Addr) (x1 : Addr) : entryFrame m #[(.ref x0), (.ref x1)] 3 = mkF m 0 #[.val (.ref x0), .val (.ref x1), .unset] [] := by first | (simp [entryFrame, mkF, argsToLocals, Value.category]; done) | rfl
def Q4_6 (Z : State) (a1 a2 b1 b2 : Addr) (k1 k2 : ClassId) (cz : Int32) (h0 : Heap) (n0 : Nat) (v : Option Value) (h : Heap) (L : List Loc) : Prop := v = some (.int 0) ∧ Fr n0 L ∧ h = h0
set_option maxRecDepth 65536 in
set_option maxHeartbeats 40000000 in
theorem rm4_6 (l : Launch) (Z : State) (a0 : Array Value) (hw : ∀ d ∈ tables_1, d.before a0 Z = true) (ws : List Jvm.Cond) (a1 a2 b1 b2 : Addr) (k1 k2 : ClassId) (cz : Int32) (h0 : Heap) (n0 : Nat) (Z0 : n0 ≤ h0.size) (E_a2 : Exa Z h0 a2 "java/lang/String") (C_a1 : Fld Z h0 a1 "java/lang/String" "coder" "B" (.int (0 : Int32))) (F_a1 : Fld Z h0 a1 "java/lang/String" "value" "[B" (.ref b1)) (C_a2 : Fld Z h0 a2 "java/lang/String" "coder" "B" (.int (0 : Int32))) (F_a2 : Fld Z h0 a2 "java/lang/String" "value" "[B" (.ref b2)) (V_b1 : Arv Z h0 b1 k1 .byte (8 : Int32) [(.int (107 : Int32)), (.int (87 : Int32)), (.int (45 : Int32)), (.int (109 : Int32)), (.int (111 : Int32)), (.int (110 : Int32)), (.int (116 : Int32)), (.int (104 : Int32))] (.int 0)) (V_b2 : Arv Z h0 b2 k2 .byte (3 : Int32) [(.int (77 : Int32)), (.int (87 : Int32)), (.int (104 : Int32))] (.int 0)) (S_CS : Sta Z Z.heap "java/lang/String" "COMPACT_STRINGS" "Z" (.int cz)) (hcs : ¬ (cz = (0 : Int32))) (X00 : Old Z n0 h0) (hne : ¬ (a1 = a2)) :
    MetFree l (⟨"java/lang/String", "equals", "(Ljava/lang/Object;)Z"⟩ : MethodName) (head1 (Jvm.Cond.code (⟨"java/lang/String", "equals", "(Ljava/lang/Object;)Z"⟩ : MethodName) jdk_42_method_66_code 3 (some .boolean) :: ws) ({ frames := 1, cells := 0, slots := 0, locals := 14 } : Room)) (fun a U => a = #[(.ref a1), (.ref a2)] ∧ Z.Warmed39 U.vm ∧ U.heap = h0) (fun _ _ _ _ _ => True) (fun _ U o U' => ∃ v L, o = .returned v ∧ Q4_6 Z a1 a2 b1 b2 k1 k2 cz h0 n0 v U'.heap L ∧ FrameEnd U o U' L ({ frames := 1, cells := 0, slots := 0, locals := 14 } : Room).cells ({ frames := 1, cells := 0, slots := 0, locals := 14 } : Room).slots) := by
  refine MetFree.of_bodySF (plainFor_of_name pn_4) hisR ?_
  intro p e s m args below meth c s₁ Bd hml0 hP hK
  obtain ⟨rfl, hZ, hh⟩ := hP
  have hx := Bd.exec
  have hby := Bd.bytes
  have hml : c.maxLocals = 3 := hml0
  have hown : s.vm.findClass "java/lang/String" = some m.cls := findClass_of_methodNamed Bd.named
  have hnm := (name_of_methodNamed Bd.named Bd.method).1
  have X0 : Stand p l e ({ frames := 1, cells := 0, slots := 0, locals := 14 } : Room) s m #[(.ref a1), (.ref a2)] below meth c s₁ [] 0 0 := Stand.of_body Bd
  have e0 : s₁.heap = h0 := by rw [← hh, Bd.state]; rfl
  have N0 := Fr.nil n0
  show own_Ends p e below s ({ frames := 1, cells := 0, slots := 0, locals := 14 } : Room).cells ({ frames := 1, cells := 0, slots := 0, locals := 14 } : Room).slots (Q4_6 Z a1 a2 b1 b2 k1 k2 cz h0 n0) (s₁.setTop (entryFrame m #[(.ref a1), (.ref a2)] 3))
  rw [ef_4_6 m a1 a2]
  refine own_pre (B := (s₁.setTop (mkF m 2 #[.val (.ref a1), .val (.ref a2), .unset] [(.ref a2), (.ref a1)]))) (fun t kt => ?_) ?_
  · show Steps p.tables e below (s₁.setTop (mkF m 0 _ [])) _
    refine XS.aloadN X0.here hx rfl (hb hby d4_0) rfl rfl ?_
    show Steps p.tables e below (s₁.setTop (mkF m 1 _ [(.ref a1)])) _
    refine XS.aloadN X0.here hx rfl (hb hby d4_1) rfl rfl ?_
    exact kt
  refine own_pre (B := (s₁.setTop (mkF m 8 #[.val (.ref a1), .val (.ref a2), .unset] [(.ref a2)]))) (fun t kt => ?_) ?_
  · show Steps p.tables e below (s₁.setTop (mkF m 2 _ [(.ref a2), (.ref a1)])) _
    refine Jvm.RoadKit.acmp (g := (mkF m 2 #[.val (.ref a1), .val (.ref a2), .unset] [(.ref a2), (.ref a1)])) X0 hx rfl rfl rfl (pc0 := 2) (pc' := 7) (same := false) rfl (hb hby d4_2) rfl (decide_eq_false fun q => hne (Value.ref.inj q)) (by decide) (by decide) ?_
    show Steps p.tables e below (s₁.setTop (mkF m 7 _ [])) _
    refine XS.aloadN X0.here hx rfl (hb hby d4_7) rfl rfl ?_
    exact kt
  obtain ⟨T1, X1, e1, st1⟩ := instY X0 hx hZ hown (hw _ (List.mem_of_getElem? (i := 33) rfl)) e0 (Ins.self E_a2) (g := (mkF m 8 #[.val (.ref a1), .val (.ref a2), .unset] [(.ref a2)])) rfl rfl (hb hby d4_8)
  refine own_pre (B := (T1.setTop (mkF m 15 #[.val (.ref a1), .val (.ref a2), .unset] [(.ref a2)]))) (fun t kt => ?_) ?_
  · show Steps p.tables e below (s₁.setTop (mkF m 8 _ [(.ref a2)])) _
    refine st1 _ ?_
    show Steps p.tables e below (T1.setTop (mkF m 11 _ [(.int (1 : Int32))])) _
    refine XS.ifNo X1.here hx rfl (hb hby d4_11) rfl ((if0 _ _).trans (feq ((by decide) : ¬ ((1 : Int32) = (0 : Int32)))).1) ?_
    show Steps p.tables e below (T1.setTop (mkF m 14 _ [])) _
    refine XS.aloadN X1.here hx rfl (hb hby d4_14) rfl rfl ?_
    exact kt
  obtain ⟨T2, X2, e2, st2⟩ := castY X1 hx hZ hown (hw _ (List.mem_of_getElem? (i := 33) rfl)) e1 (Ins.self E_a2) (g := (mkF m 15 #[.val (.ref a1), .val (.ref a2), .unset] [(.ref a2)])) rfl rfl (hb hby d4_15)
  refine own_pre (B := (T2.setTop (mkF m 19 #[.val (.ref a1), .val (.ref a2), .val (.ref a2)] []))) (fun t kt => ?_) ?_
  · show Steps p.tables e below (T1.setTop (mkF m 15 _ [(.ref a2)])) _
    refine st2 _ ?_
    show Steps p.tables e below (T2.setTop (mkF m 18 _ [(.ref a2)])) _
    refine XS.astoreN X2.here hx rfl (hb hby d4_18) rfl rfl (l' := #[.val (.ref a1), .val (.ref a2), .val (.ref a2)]) rfl ?_
    exact kt
  obtain ⟨T3, X3, e3, st3⟩ := getS2 X2 hx hZ hown (host := "") (Or.inl (hw _ (List.mem_of_getElem? (i := 35) rfl))) Via.refl e2 (S_CS.ext X00.2) (g := (mkF m 19 #[.val (.ref a1), .val (.ref a2), .val (.ref a2)] [])) rfl (hb hby d4_19)
  refine own_pre (B := (T3.setTop (mkF m 26 #[.val (.ref a1), .val (.ref a2), .val (.ref a2)] [(.ref a1)]))) (fun t kt => ?_) ?_
  · show Steps p.tables e below (T2.setTop (mkF m 19 _ [])) _
    refine st3 _ ?_
    show Steps p.tables e below (T3.setTop (mkF m 22 _ [(.int cz)])) _
    refine XS.ifNo X3.here hx rfl (hb hby d4_22) rfl ((if0 _ _).trans (feq (hcs : ¬ (cz = (0 : Int32)))).1) ?_
    show Steps p.tables e below (T3.setTop (mkF m 25 _ [])) _
    refine XS.aloadN X3.here hx rfl (hb hby d4_25) rfl rfl ?_
    exact kt
  obtain ⟨T4, X4, e4, st4⟩ := getF X3 hx hZ hown (host := "") (Or.inl (hw _ (List.mem_of_getElem? (i := 36) rfl))) Via.refl e3 C_a1 (g := (mkF m 26 #[.val (.ref a1), .val (.ref a2), .val (.ref a2)] [(.ref a1)])) rfl rfl (hb hby d4_26)
  refine own_pre (B := (T4.setTop (mkF m 30 #[.val (.ref a1), .val (.ref a2), .val (.ref a2)] [(.ref a2), (.int (0 : Int32))]))) (fun t kt => ?_) ?_
  · show Steps p.tables e below (T3.setTop (mkF m 26 _ [(.ref a1)])) _
    refine st4 _ ?_
    show Steps p.tables e below (T4.setTop (mkF m 29 _ [(.int (0 : Int32))])) _
    refine XS.aloadN X4.here hx rfl (hb hby d4_29) rfl rfl ?_
    exact kt
  obtain ⟨T5, X5, e5, st5⟩ := getF X4 hx hZ hown (host := "") (Or.inl (hw _ (List.mem_of_getElem? (i := 36) rfl))) Via.refl e4 C_a2 (g := (mkF m 30 #[.val (.ref a1), .val (.ref a2), .val (.ref a2)] [(.ref a2), (.int (0 : Int32))])) rfl rfl (hb hby d4_30)
  refine own_pre (B := (T5.setTop (mkF m 37 #[.val (.ref a1), .val (.ref a2), .val (.ref a2)] [(.ref a1)]))) (fun t kt => ?_) ?_
  · show Steps p.tables e below (T4.setTop (mkF m 30 _ [(.ref a2), (.int (0 : Int32))])) _
    refine st5 _ ?_
    show Steps p.tables e below (T5.setTop (mkF m 33 _ [(.int (0 : Int32)), (.int (0 : Int32))])) _
    refine XS.icmpNo X5.here hx rfl (hb hby d4_33) rfl (teq (rfl : (0 : Int32) = (0 : Int32))).2 ?_
    show Steps p.tables e below (T5.setTop (mkF m 36 _ [])) _
    refine XS.aloadN X5.here hx rfl (hb hby d4_36) rfl rfl ?_
    exact kt
  obtain ⟨T6, X6, e6, st6⟩ := getF X5 hx hZ hown (host := "") (Or.inl (hw _ (List.mem_of_getElem? (i := 37) rfl))) Via.refl e5 F_a1 (g := (mkF m 37 #[.val (.ref a1), .val (.ref a2), .val (.ref a2)] [(.ref a1)])) rfl rfl (hb hby d4_37)
  refine own_pre (B := (T6.setTop (mkF m 41 #[.val (.ref a1), .val (.ref a2), .val (.ref a2)] [(.ref a2), (.ref b1)]))) (fun t kt => ?_) ?_
  · show Steps p.tables e below (T5.setTop (mkF m 37 _ [(.ref a1)])) _
    refine st6 _ ?_
    show Steps p.tables e below (T6.setTop (mkF m 40 _ [(.ref b1)])) _
    refine XS.aloadN X6.here hx rfl (hb hby d4_40) rfl rfl ?_
    exact kt
  obtain ⟨T7, X7, e7, st7⟩ := getF X6 hx hZ hown (host := "") (Or.inl (hw _ (List.mem_of_getElem? (i := 37) rfl))) Via.refl e6 F_a2 (g := (mkF m 41 #[.val (.ref a1), .val (.ref a2), .val (.ref a2)] [(.ref a2), (.ref b1)])) rfl rfl (hb hby d4_41)
  refine own_pre (B := (T7.setTop (mkF m 44 #[.val (.ref a1), .val (.ref a2), .val (.ref a2)] [(.ref b2), (.ref b1)]))) (fun t kt => ?_) ?_
  · show Steps p.tables e below (T6.setTop (mkF m 41 _ [(.ref a2), (.ref b1)])) _
    refine st7 _ ?_
    exact kt
  obtain ⟨_, _, ⟨T8, L8, k8, n8⟩, -, X8, ⟨Lc8, hQ8, l8, y8, z8⟩, st8⟩ := Jvm.LawKit.callS X7 hx (y := (⟨"java/lang/StringLatin1", "equals", "([B[B)Z"⟩ : MethodName)) hown (mvT hZ (hw _ (List.mem_of_getElem? (i := 38) rfl))) (mvT hZ (hw _ (List.mem_of_getElem? (i := 39) rfl))) (mvT hZ (hw _ (List.mem_of_getElem? (i := 40) rfl))) (mvT hZ (hw _ (List.mem_of_getElem? (i := 41) rfl))) (by decide) (backOf (W := 0) (rm5_6 l Z a0 hw [] b1 b2 k1 k2 h0 n0 Z0 V_b1 V_b2) hZ (hw _ (List.mem_of_getElem? (i := 41) rfl)) (hw _ (List.mem_of_getElem? (i := 40) rfl)) (by decide) (by decide)) (g := (mkF m 44 #[.val (.ref a1), .val (.ref a2), .val (.ref a2)] [(.ref b2), (.ref b1)])) rfl (by rw [hml]; rfl) (argsL := [(.ref b1), (.ref b2)]) (rest := []) (lenOf pd_4 rfl) rfl (by show 2 * 0 + _ ≤ _; exact Nat.le_of_eq rfl) (hb hby d4_44) (fun _ _ => ⟨rfl, e7, (by decide : 0 + 0 ≤ _), (by decide : 0 + 0 ≤ _)⟩)
  dsimp only [Pt.U, Pt.locs, Pt.cells, Pt.slots] at X8 l8 y8 z8 st8 hQ8
  subst l8 y8 z8
  obtain ⟨rfl, N8q, e8⟩ := hQ8
  have N8 := Fr.app N0 N8q
  refine own_pre (B := (T8.setTop (mkF m 55 #[.val (.ref a1), .val (.ref a2), .val (.ref a2)] [(.int (0 : Int32))]))) (fun t kt => ?_) ?_
  · refine st8 _ ?_
    show Steps p.tables e below (T8.setTop (mkF m 47 _ [(.int (0 : Int32))])) _
    refine XS.ifYes X8.here hx rfl (pc0 := 47) (pc' := 54) rfl (hb hby d4_47) rfl ((if0 _ _).trans (teq (rfl : (0 : Int32) = (0 : Int32))).1) (by decide) (by decide) ?_
    show Steps p.tables e below (T8.setTop (mkF m 54 _ [])) _
    refine XS.iconst X8.here hx rfl (hb hby d4_54) ?_
    exact kt
  exact own_fin X8 (some (.int (0 : Int32))) (fun h => by rw [Bd.returns] at h; cases h) (BodyLoose.notSynchronized Bd) e8 (fun fs hr => retN X8 hx (t := .boolean) Bd.returns (by simp) (hb hby d4_55) hr) ⟨rfl, N8, rfl⟩ (by decide) (by decide)
theorem ef_0 (m : MethodId) (x0 : Int32) : entryFrame m #[(.int x0)] maxLocals = mkF m 0 #[.val (.int x0), .unset, .unset, .unset, .unset, .unset, .unset] [] := by first | (simp [entryFrame, mkF, argsToLocals, Value.category, maxLocals]; done) | rfl
def Q0 (Z : State) (p1 cz : Int32) (u0 u1 u2 u3 s0 s1 s2 s3 t0 t1 t2 t3 : Addr) (k0 k1 k2 k3 : ClassId) (h0 : Heap) (n0 : Nat) (v : Option Value) (h : Heap) (L : List Loc) : Prop := v = some (.int 1) ∧ Fr n0 L
set_option maxRecDepth 65536 in
set_option maxHeartbeats 40000000 in
theorem rm0 (l : Launch) (Z : State) (a0 : Array Value) (hw : ∀ d ∈ tables_1, d.before a0 Z = true) (ws : List Jvm.Cond) (p1 cz : Int32) (u0 u1 u2 u3 s0 s1 s2 s3 t0 t1 t2 t3 : Addr) (k0 k1 k2 k3 : ClassId) (h0 : Heap) (n0 : Nat) (Z0 : n0 ≤ h0.size) (S_CS : Sta Z Z.heap "java/lang/String" "COMPACT_STRINGS" "Z" (.int cz)) (hcs : ¬ (cz = (0 : Int32))) (S_0 : Sta Z Z.heap "com/example/wattlebird/wattlebird/Unit" "PER_KWH" "Lcom/example/wattlebird/wattlebird/Unit;" (.ref u0)) (S_1 : Sta Z Z.heap "com/example/wattlebird/wattlebird/Unit" "PER_MWH" "Lcom/example/wattlebird/wattlebird/Unit;" (.ref u1)) (S_2 : Sta Z Z.heap "com/example/wattlebird/wattlebird/Unit" "PER_MONTH" "Lcom/example/wattlebird/wattlebird/Unit;" (.ref u2)) (S_3 : Sta Z Z.heap "com/example/wattlebird/wattlebird/Unit" "PER_KW_MONTH" "Lcom/example/wattlebird/wattlebird/Unit;" (.ref u3)) (X00 : Old Z n0 h0) (hn0 : n0 = Z.heap.size) (hcw : Jvm.Lit.compactW.before a0 Z = true) (hh36 : Jvm.Lit.constHeld Z "com/example/wattlebird/wattlebird/UnitPerEnergyPinLaw" 36) (hh44 : Jvm.Lit.constHeld Z "com/example/wattlebird/wattlebird/UnitPerEnergyPinLaw" 44) (E_u0 : Exa Z Z.heap u0 "com/example/wattlebird/wattlebird/Unit") (F_u0 : Fld Z Z.heap u0 "com/example/wattlebird/wattlebird/Unit" "measure" "Ljava/lang/String;" (.ref s0)) (E_s0 : Exa Z Z.heap s0 "java/lang/String") (C_s0 : Fld Z Z.heap s0 "java/lang/String" "coder" "B" (.int (0 : Int32))) (F_s0 : Fld Z Z.heap s0 "java/lang/String" "value" "[B" (.ref t0)) (V_t0 : Arv Z Z.heap t0 k0 .byte (3 : Int32) [(.int (107 : Int32)), (.int (87 : Int32)), (.int (104 : Int32))] (.int 0)) (E_u1 : Exa Z Z.heap u1 "com/example/wattlebird/wattlebird/Unit") (F_u1 : Fld Z Z.heap u1 "com/example/wattlebird/wattlebird/Unit" "measure" "Ljava/lang/String;" (.ref s1)) (E_s1 : Exa Z Z.heap s1 "java/lang/String") (C_s1 : Fld Z Z.heap s1 "java/lang/String" "coder" "B" (.int (0 : Int32))) (F_s1 : Fld Z Z.heap s1 "java/lang/String" "value" "[B" (.ref t1)) (V_t1 : Arv Z Z.heap t1 k1 .byte (3 : Int32) [(.int (77 : Int32)), (.int (87 : Int32)), (.int (104 : Int32))] (.int 0)) (E_u2 : Exa Z Z.heap u2 "com/example/wattlebird/wattlebird/Unit") (F_u2 : Fld Z Z.heap u2 "com/example/wattlebird/wattlebird/Unit" "measure" "Ljava/lang/String;" (.ref s2)) (E_s2 : Exa Z Z.heap s2 "java/lang/String") (C_s2 : Fld Z Z.heap s2 "java/lang/String" "coder" "B" (.int (0 : Int32))) (F_s2 : Fld Z Z.heap s2 "java/lang/String" "value" "[B" (.ref t2)) (V_t2 : Arv Z Z.heap t2 k2 .byte (5 : Int32) [(.int (109 : Int32)), (.int (111 : Int32)), (.int (110 : Int32)), (.int (116 : Int32)), (.int (104 : Int32))] (.int 0)) (E_u3 : Exa Z Z.heap u3 "com/example/wattlebird/wattlebird/Unit") (F_u3 : Fld Z Z.heap u3 "com/example/wattlebird/wattlebird/Unit" "measure" "Ljava/lang/String;" (.ref s3)) (E_s3 : Exa Z Z.heap s3 "java/lang/String") (C_s3 : Fld Z Z.heap s3 "java/lang/String" "coder" "B" (.int (0 : Int32))) (F_s3 : Fld Z Z.heap s3 "java/lang/String" "value" "[B" (.ref t3)) (V_t3 : Arv Z Z.heap t3 k3 .byte (8 : Int32) [(.int (107 : Int32)), (.int (87 : Int32)), (.int (45 : Int32)), (.int (109 : Int32)), (.int (111 : Int32)), (.int (110 : Int32)), (.int (116 : Int32)), (.int (104 : Int32))] (.int 0)) (n01 : ¬ (u0 = u1)) (n10 : ¬ (u1 = u0)) (n20 : ¬ (u2 = u0)) (n21 : ¬ (u2 = u1)) (n30 : ¬ (u3 = u0)) (n31 : ¬ (u3 = u1)) :
    MetFree l x (head1 (Jvm.Cond.code x code maxLocals ret :: ws) room_1) (fun a U => a = #[(.int p1)] ∧ U = Z ∧ U.heap = h0) (fun _ _ _ _ _ => True) (fun _ U o U' => ∃ v L, o = .returned v ∧ Q0 Z p1 cz u0 u1 u2 u3 s0 s1 s2 s3 t0 t1 t2 t3 k0 k1 k2 k3 h0 n0 v U'.heap L ∧ ReturnedEndW U o U' L room_1.cells room_1.slots) := by
  refine MetFree.of_bodySF (plainFor_of_name pn_0) hisR ?_
  intro p e s m args below meth c s₁ Bd hml0 hP hK
  obtain ⟨rfl, hU, hh⟩ := hP
  have hZ : Z.Warmed39 s.vm := by rw [hU]; exact State.Warmed39.refl Z
  have hI : IB Z s.vm [] := by rw [hU]; exact IB.start
  have hkp : ∀ (b : Addr) (cl : Cell), Z.heap[b]? = some cl → s.heap[b]? = some cl := by rw [hU]; exact fun _ _ q => q
  have hS : s.Since s.vm 0 := (State.WarmedH.refl s).since 0
  have hkS : 0 ≤ h0.size := Nat.zero_le _
  have hN0 : n0 = s.heap.size := by rw [hU]; exact hn0
  have hx := Bd.exec
  have hby := Bd.bytes
  have hml : c.maxLocals = 7 := hml0
  have hown : s.vm.findClass "com/example/wattlebird/wattlebird/UnitPerEnergyPinLaw" = some m.cls := findClass_of_methodNamed Bd.named
  have hnm := (name_of_methodNamed Bd.named Bd.method).1
  have X0 : Stand p l e room_1 s m #[(.int p1)] below meth c s₁ [] 0 0 := Stand.of_body Bd
  have e0 : s₁.heap = h0 := by rw [← hh, Bd.state]; rfl
  have N0 := Fr.nil n0
  show own_EndsW p e below s room_1.cells room_1.slots (Q0 Z p1 cz u0 u1 u2 u3 s0 s1 s2 s3 t0 t1 t2 t3 k0 k1 k2 k3 h0 n0) (s₁.setTop (entryFrame m #[(.int p1)] maxLocals))
  rw [ef_0 m p1]
  have wS : ∀ a ∈ Bundle.stringAtoms, a.before a0 Z = true := fun d hd => hw d ((by decide +kernel : ∀ d ∈ Bundle.stringAtoms, d ∈ tables_1) d hd)
  refine own_preW (B := (s₁.setTop (mkF m 4 #[.val (.int p1), .val (.int (p1 &&& (3 : Int32))), .unset, .unset, .unset, .unset, .unset] []))) (fun t kt => ?_) ?_
  · show Steps p.tables e below (s₁.setTop (mkF m 0 _ [])) _
    refine XS.iloadN X0.here hx rfl (hb hby at_0) rfl ?_
    show Steps p.tables e below (s₁.setTop (mkF m 1 _ [(.int p1)])) _
    refine XS.iconst X0.here hx rfl (hb hby at_1) ?_
    show Steps p.tables e below (s₁.setTop (mkF m 2 _ [(.int (3 : Int32)), (.int p1)])) _
    refine XS.iand X0.here hx rfl (hb hby at_2) rfl ?_
    show Steps p.tables e below (s₁.setTop (mkF m 3 _ [(.int (p1 &&& (3 : Int32)))])) _
    refine XS.istoreN X0.here hx rfl (hb hby at_3) rfl (l' := #[.val (.int p1), .val (.int (p1 &&& (3 : Int32))), .unset, .unset, .unset, .unset, .unset]) rfl ?_
    exact kt
  have KJ : ∀ kk : Int32, (kk = 0 ∨ kk = 1 ∨ kk = 2 ∨ kk = 3) → own_EndsW p e below s room_1.cells room_1.slots (Q0 Z p1 cz u0 u1 u2 u3 s0 s1 s2 s3 t0 t1 t2 t3 k0 k1 k2 k3 h0 n0) (s₁.setTop (mkF m 4 #[.val (.int p1), .val (.int kk), .unset, .unset, .unset, .unset, .unset] [])) := by
    intro kk hkk
    rcases hkk with rfl | rfl | rfl | rfl
    · refine own_preW (B := (s₁.setTop (mkF m 5 #[.val (.int p1), .val (.int (0 : Int32)), .unset, .unset, .unset, .unset, .unset] [(.int (0 : Int32))]))) (fun t kt => ?_) ?_
      · show Steps p.tables e below (s₁.setTop (mkF m 4 _ [])) _
        refine XS.iloadN X0.here hx rfl (hb hby at_4) rfl ?_
        exact kt
      obtain ⟨_, _, ⟨T1, L1, k1, n1⟩, -, X1, ⟨Lc1, hQ1, l1, y1, z1⟩, st1⟩ := Jvm.LawKit.callS X0 hx (y := (⟨"com/example/wattlebird/wattlebird/UnitPerEnergyPinLaw", "pick", "(I)Lcom/example/wattlebird/wattlebird/Unit;"⟩ : MethodName)) hown (mvT hZ (hw _ (List.mem_of_getElem? (i := 0) rfl))) (mvT hZ (hw _ (List.mem_of_getElem? (i := 1) rfl))) (mvT hZ (hw _ (List.mem_of_getElem? (i := 2) rfl))) (mvT hZ (hw _ (List.mem_of_getElem? (i := 3) rfl))) (by decide) (backOf (W := 0) (rm1_0 l Z a0 hw [] u0 u1 u2 u3 h0 n0 Z0 S_0 S_1 S_2 S_3 X00) hZ (hw _ (List.mem_of_getElem? (i := 3) rfl)) (hw _ (List.mem_of_getElem? (i := 2) rfl)) (by decide) (by decide)) (g := (mkF m 5 #[.val (.int p1), .val (.int (0 : Int32)), .unset, .unset, .unset, .unset, .unset] [(.int (0 : Int32))])) rfl (by rw [hml]; rfl) (argsL := [(.int (0 : Int32))]) (rest := []) (lenOf pd_0 rfl) rfl (by show 2 * 0 + _ ≤ _; exact Nat.le_of_eq rfl) (hb hby at_5) (fun _ _ => ⟨rfl, e0, (by decide : 0 + 0 ≤ _), (by decide : 0 + 0 ≤ _)⟩)
      dsimp only [Pt.U, Pt.locs, Pt.cells, Pt.slots] at X1 l1 y1 z1 st1 hQ1
      subst l1 y1 z1
      obtain ⟨rfl, N1q, e1⟩ := hQ1
      have N1 := Fr.app N0 N1q
      refine own_preW (B := (T1.setTop (mkF m 21 #[.val (.int p1), .val (.int (0 : Int32)), .val (.ref u0), .val (.int (1 : Int32)), .unset, .unset, .unset] [(.ref u0)]))) (fun t kt => ?_) ?_
      · refine st1 _ ?_
        show Steps p.tables e below (T1.setTop (mkF m 8 _ [(.ref u0)])) _
        refine XS.astoreN X1.here hx rfl (hb hby at_8) rfl rfl (l' := #[.val (.int p1), .val (.int (0 : Int32)), .val (.ref u0), .unset, .unset, .unset, .unset]) rfl ?_
        show Steps p.tables e below (T1.setTop (mkF m 9 _ [])) _
        refine XS.iloadN X1.here hx rfl (hb hby at_9) rfl ?_
        show Steps p.tables e below (T1.setTop (mkF m 10 _ [(.int (0 : Int32))])) _
        refine XS.iconst X1.here hx rfl (hb hby at_10) ?_
        show Steps p.tables e below (T1.setTop (mkF m 11 _ [(.int (1 : Int32)), (.int (0 : Int32))])) _
        refine XS.icmpNo X1.here hx rfl (hb hby at_11) rfl (flt ((by decide) : ¬ ((1 : Int32) < (0 : Int32)))).2.2.1 ?_
        show Steps p.tables e below (T1.setTop (mkF m 14 _ [])) _
        refine XS.iconst X1.here hx rfl (hb hby at_14) ?_
        show Steps p.tables e below (T1.setTop (mkF m 15 _ [(.int (1 : Int32))])) _
        refine XS.goto X1.here hx rfl (pc0 := 15) (pc' := 19) rfl (hb hby at_15) (by decide) (by decide) ?_
        show Steps p.tables e below (T1.setTop (mkF m 19 _ [(.int (1 : Int32))])) _
        refine XS.istoreN X1.here hx rfl (hb hby at_19) rfl (l' := #[.val (.int p1), .val (.int (0 : Int32)), .val (.ref u0), .val (.int (1 : Int32)), .unset, .unset, .unset]) rfl ?_
        show Steps p.tables e below (T1.setTop (mkF m 20 _ [])) _
        refine XS.aloadN X1.here hx rfl (hb hby at_20) rfl rfl ?_
        exact kt
      obtain ⟨cq2, kq2, q2a, q2b, q2c⟩ := isOf hZ e1 (E_u0.ext X00.2)
      obtain ⟨_, _, ⟨T2, L2, k2, n2⟩, -, X2, ⟨Lc2, hQ2, l2, y2, z2⟩, st2⟩ := X1.virtualBack hx (y := (⟨"com/example/wattlebird/wattlebird/Unit", "perEnergy", "()Z"⟩ : MethodName)) (z := (⟨"com/example/wattlebird/wattlebird/Unit", "perEnergy", "()Z"⟩ : MethodName)) hown (mvT hZ (hw _ (List.mem_of_getElem? (i := 7) rfl))) (mvT hZ (hw _ (List.mem_of_getElem? (i := 8) rfl))) (notFace_of_selects (args := #[]) (mvT hZ (hw _ (List.mem_of_getElem? (i := 10) rfl)))) (mvT hZ (hw _ (List.mem_of_getElem? (i := 10) rfl))) (mvT hZ (hw _ (List.mem_of_getElem? (i := 9) rfl))) (by decide) (backOf (W := 0) (rm2_0 l Z a0 hw [] u0 u1 h0 n0 Z0 S_0 S_1 X00 n01) hZ (hw _ (List.mem_of_getElem? (i := 11) rfl)) (hw _ (List.mem_of_getElem? (i := 5) rfl)) (by decide) (by decide)) q2a q2c (g := (mkF m 21 #[.val (.int p1), .val (.int (0 : Int32)), .val (.ref u0), .val (.int (1 : Int32)), .unset, .unset, .unset] [(.ref u0)])) rfl (by rw [hml]; rfl) (Steps.refl _) (argsL := []) (rest := []) (lenOf pd_1 rfl) rfl (by show 2 * 0 + _ ≤ _; exact Nat.le_of_eq rfl) (hb hby at_21) (fun _ _ => ⟨rfl, e1, (by decide : 0 + 0 ≤ _), (by decide : 0 + 0 ≤ _)⟩)
      dsimp only [Pt.U, Pt.locs, Pt.cells, Pt.slots] at X2 l2 y2 z2 st2 hQ2
      subst l2 y2 z2
      obtain ⟨rfl, N2q, e2⟩ := hQ2
      have N2 := Fr.app N1 N2q
      refine own_preW (B := (T2.setTop (mkF m 27 #[.val (.int p1), .val (.int (0 : Int32)), .val (.ref u0), .val (.int (1 : Int32)), .val (.int (1 : Int32)), .unset, .unset] [(.ref u0)]))) (fun t kt => ?_) ?_
      · refine st2.trans ?_
        show Steps p.tables e below (T2.setTop (mkF m 24 _ [(.int (1 : Int32))])) _
        refine XS.istore X2.here hx rfl (hb hby at_24) rfl (l' := #[.val (.int p1), .val (.int (0 : Int32)), .val (.ref u0), .val (.int (1 : Int32)), .val (.int (1 : Int32)), .unset, .unset]) rfl ?_
        show Steps p.tables e below (T2.setTop (mkF m 26 _ [])) _
        refine XS.aloadN X2.here hx rfl (hb hby at_26) rfl rfl ?_
        exact kt
      obtain ⟨cq3, kq3, q3a, q3b, q3c⟩ := isOf hZ e2 (E_u0.ext X00.2)
      obtain ⟨_, _, ⟨T3, L3, k3, n3⟩, -, X3, ⟨Lc3, hQ3, l3, y3, z3⟩, st3⟩ := X2.virtualBack hx (y := (⟨"com/example/wattlebird/wattlebird/Unit", "measure", "()Ljava/lang/String;"⟩ : MethodName)) (z := (⟨"com/example/wattlebird/wattlebird/Unit", "measure", "()Ljava/lang/String;"⟩ : MethodName)) hown (mvT hZ (hw _ (List.mem_of_getElem? (i := 13) rfl))) (mvT hZ (hw _ (List.mem_of_getElem? (i := 14) rfl))) (notFace_of_selects (args := #[]) (mvT hZ (hw _ (List.mem_of_getElem? (i := 16) rfl)))) (mvT hZ (hw _ (List.mem_of_getElem? (i := 16) rfl))) (mvT hZ (hw _ (List.mem_of_getElem? (i := 15) rfl))) (by decide) (backOf (W := 0) (rm3 l Z a0 hw [] u0 s0 h0 n0 Z0 (F_u0.ext X00.2)) hZ (hw _ (List.mem_of_getElem? (i := 17) rfl)) (hw _ (List.mem_of_getElem? (i := 5) rfl)) (by decide) (by decide)) q3a q3c (g := (mkF m 27 #[.val (.int p1), .val (.int (0 : Int32)), .val (.ref u0), .val (.int (1 : Int32)), .val (.int (1 : Int32)), .unset, .unset] [(.ref u0)])) rfl (by rw [hml]; rfl) (Steps.refl _) (argsL := []) (rest := []) (lenOf pd_2 rfl) rfl (by show 2 * 0 + _ ≤ _; exact Nat.le_of_eq rfl) (hb hby at_27) (fun _ _ => ⟨rfl, e2, (by decide : 0 + 0 ≤ _), (by decide : 0 + 0 ≤ _)⟩)
      dsimp only [Pt.U, Pt.locs, Pt.cells, Pt.slots] at X3 l3 y3 z3 st3 hQ3
      subst l3 y3 z3
      obtain ⟨rfl, N3q, e3⟩ := hQ3
      have N3 := Fr.app N2 N3q
      refine own_preW (B := (T3.setTop (mkF m 34 #[.val (.int p1), .val (.int (0 : Int32)), .val (.ref u0), .val (.int (1 : Int32)), .val (.int (1 : Int32)), .val (.ref s0), .unset] [(.ref s0)]))) (fun t kt => ?_) ?_
      · refine st3.trans ?_
        show Steps p.tables e below (T3.setTop (mkF m 30 _ [(.ref s0)])) _
        refine XS.astore X3.here hx rfl (hb hby at_30) rfl rfl (l' := #[.val (.int p1), .val (.int (0 : Int32)), .val (.ref u0), .val (.int (1 : Int32)), .val (.int (1 : Int32)), .val (.ref s0), .unset]) rfl ?_
        show Steps p.tables e below (T3.setTop (mkF m 32 _ [])) _
        refine XS.aload X3.here hx rfl (hb hby at_32) rfl rfl ?_
        exact kt
      obtain ⟨lt4, T4, h4, kk4, lb4, lk4, X4, e4, E4, hS, hkS, hZ, hown, EL4, CL4, FL4, VL4, -, -, hI, -, -, st4⟩ := ldcSVd (s := s) (vm0 := s.vm) X3 hx hZ hown (hw _ (List.mem_of_getElem? (i := 20) rfl)) wS e3 hS hkS (hN0 ▸ N3) hkp hI (by decide : "kWh" ∉ ([] : List String)) hh36 hcw (vs := [(.int (107 : Int32)), (.int (87 : Int32)), (.int (104 : Int32))]) (z := (3 : Int32)) own_ht_kWh (by decide) rfl (g := (mkF m 34 #[.val (.int p1), .val (.int (0 : Int32)), .val (.ref u0), .val (.int (1 : Int32)), .val (.int (1 : Int32)), .val (.ref s0), .unset] [(.ref s0)])) rfl (hb hby at_34) (n := 12) (by decide) (by decide) (by decide) (by decide)
      have O4 := Old.ext X00 E4
      refine own_preW (B := (T4.setTop (mkF m 36 #[.val (.int p1), .val (.int (0 : Int32)), .val (.ref u0), .val (.int (1 : Int32)), .val (.int (1 : Int32)), .val (.ref s0), .unset] [(.ref lt4), (.ref s0)]))) (fun t kt => ?_) ?_
      · show Steps p.tables e below (T3.setTop (mkF m 34 _ [(.ref s0)])) _
        refine st4 _ ?_
        exact kt
      obtain ⟨cq5, kq5, q5a, q5b, q5c⟩ := isOf hZ e4 (E_s0.ext O4.2)
      obtain ⟨_, _, ⟨T5, L5, k5, n5⟩, -, X5, ⟨Lc5, hQ5, l5, y5, z5⟩, st5⟩ := X4.virtualBack hx (y := (⟨"java/lang/String", "equals", "(Ljava/lang/Object;)Z"⟩ : MethodName)) (z := (⟨"java/lang/String", "equals", "(Ljava/lang/Object;)Z"⟩ : MethodName)) hown (mvT hZ (hw _ (List.mem_of_getElem? (i := 28) rfl))) (mvT hZ (hw _ (List.mem_of_getElem? (i := 29) rfl))) (notFace_of_selects (args := #[]) (mvT hZ (hw _ (List.mem_of_getElem? (i := 31) rfl)))) (mvT hZ (hw _ (List.mem_of_getElem? (i := 31) rfl))) (mvT hZ (hw _ (List.mem_of_getElem? (i := 30) rfl))) (by decide) (backOf (W := 0) (rm4_0 l Z a0 hw [] s0 lt4 t0 lb4 _ _ cz h4 n0 (Nat.le_trans Z0 E4.1) EL4 (C_s0.ext O4.2) (F_s0.ext O4.2) CL4 FL4 (V_t0.ext O4.2) VL4 S_CS hcs O4) hZ (hw _ (List.mem_of_getElem? (i := 32) rfl)) (hw _ (List.mem_of_getElem? (i := 21) rfl)) (by decide) (by decide)) q5a q5c (g := (mkF m 36 #[.val (.int p1), .val (.int (0 : Int32)), .val (.ref u0), .val (.int (1 : Int32)), .val (.int (1 : Int32)), .val (.ref s0), .unset] [(.ref lt4), (.ref s0)])) rfl (by rw [hml]; rfl) (Steps.refl _) (argsL := [(.ref lt4)]) (rest := []) (lenOf pd_3 rfl) rfl (by show 2 * 0 + _ ≤ _; exact Nat.le_of_eq rfl) (hb hby at_36) (fun _ _ => ⟨rfl, e4, (by decide : 2 + 0 ≤ _), (by decide : 16 + 0 ≤ _)⟩)
      dsimp only [Pt.U, Pt.locs, Pt.cells, Pt.slots] at X5 l5 y5 z5 st5 hQ5
      subst l5 y5 z5
      obtain ⟨rfl, N5q, e5⟩ := hQ5
      have N5 := Fr.app N3 N5q
      refine own_preW (B := (T5.setTop (mkF m 77 #[.val (.int p1), .val (.int (0 : Int32)), .val (.ref u0), .val (.int (1 : Int32)), .val (.int (1 : Int32)), .val (.ref s0), .val (.int (1 : Int32))] [(.int (1 : Int32))]))) (fun t kt => ?_) ?_
      · refine st5.trans ?_
        show Steps p.tables e below (T5.setTop (mkF m 39 _ [(.int (1 : Int32))])) _
        refine XS.ifYes X5.here hx rfl (pc0 := 39) (pc' := 52) rfl (hb hby at_39) rfl ((if0 _ _).trans (feq ((by decide) : ¬ ((1 : Int32) = (0 : Int32)))).2) (by decide) (by decide) ?_
        show Steps p.tables e below (T5.setTop (mkF m 52 _ [])) _
        refine XS.iconst X5.here hx rfl (hb hby at_52) ?_
        show Steps p.tables e below (T5.setTop (mkF m 53 _ [(.int (1 : Int32))])) _
        refine XS.goto X5.here hx rfl (pc0 := 53) (pc' := 57) rfl (hb hby at_53) (by decide) (by decide) ?_
        show Steps p.tables e below (T5.setTop (mkF m 57 _ [(.int (1 : Int32))])) _
        refine XS.istore X5.here hx rfl (hb hby at_57) rfl (l' := #[.val (.int p1), .val (.int (0 : Int32)), .val (.ref u0), .val (.int (1 : Int32)), .val (.int (1 : Int32)), .val (.ref s0), .val (.int (1 : Int32))]) rfl ?_
        show Steps p.tables e below (T5.setTop (mkF m 59 _ [])) _
        refine XS.iload X5.here hx rfl (hb hby at_59) rfl ?_
        show Steps p.tables e below (T5.setTop (mkF m 61 _ [(.int (1 : Int32))])) _
        refine XS.iloadN X5.here hx rfl (hb hby at_61) rfl ?_
        show Steps p.tables e below (T5.setTop (mkF m 62 _ [(.int (1 : Int32)), (.int (1 : Int32))])) _
        refine XS.icmpNo X5.here hx rfl (hb hby at_62) rfl (teq (rfl : (1 : Int32) = (1 : Int32))).2 ?_
        show Steps p.tables e below (T5.setTop (mkF m 65 _ [])) _
        refine XS.iload X5.here hx rfl (hb hby at_65) rfl ?_
        show Steps p.tables e below (T5.setTop (mkF m 67 _ [(.int (1 : Int32))])) _
        refine XS.iload X5.here hx rfl (hb hby at_67) rfl ?_
        show Steps p.tables e below (T5.setTop (mkF m 69 _ [(.int (1 : Int32)), (.int (1 : Int32))])) _
        refine XS.icmpNo X5.here hx rfl (hb hby at_69) rfl (teq (rfl : (1 : Int32) = (1 : Int32))).2 ?_
        show Steps p.tables e below (T5.setTop (mkF m 72 _ [])) _
        refine XS.iconst X5.here hx rfl (hb hby at_72) ?_
        show Steps p.tables e below (T5.setTop (mkF m 73 _ [(.int (1 : Int32))])) _
        refine XS.goto X5.here hx rfl (pc0 := 73) (pc' := 77) rfl (hb hby at_73) (by decide) (by decide) ?_
        exact kt
      exact own_finW X5 hS (some (.int (1 : Int32))) (fun h => by rw [Bd.returns] at h; cases h) (BodyLoose.notSynchronized Bd) e5 hkS (fun fs hr => retN X5 hx (t := .boolean) Bd.returns (by simp) (hb hby at_77) hr) ⟨rfl, N5⟩ (by decide) (by decide)
    · refine own_preW (B := (s₁.setTop (mkF m 5 #[.val (.int p1), .val (.int (1 : Int32)), .unset, .unset, .unset, .unset, .unset] [(.int (1 : Int32))]))) (fun t kt => ?_) ?_
      · show Steps p.tables e below (s₁.setTop (mkF m 4 _ [])) _
        refine XS.iloadN X0.here hx rfl (hb hby at_4) rfl ?_
        exact kt
      obtain ⟨_, _, ⟨T6, L6, k6, n6⟩, -, X6, ⟨Lc6, hQ6, l6, y6, z6⟩, st6⟩ := Jvm.LawKit.callS X0 hx (y := (⟨"com/example/wattlebird/wattlebird/UnitPerEnergyPinLaw", "pick", "(I)Lcom/example/wattlebird/wattlebird/Unit;"⟩ : MethodName)) hown (mvT hZ (hw _ (List.mem_of_getElem? (i := 0) rfl))) (mvT hZ (hw _ (List.mem_of_getElem? (i := 1) rfl))) (mvT hZ (hw _ (List.mem_of_getElem? (i := 2) rfl))) (mvT hZ (hw _ (List.mem_of_getElem? (i := 3) rfl))) (by decide) (backOf (W := 0) (rm1_1 l Z a0 hw [] u0 u1 u2 u3 h0 n0 Z0 S_0 S_1 S_2 S_3 X00) hZ (hw _ (List.mem_of_getElem? (i := 3) rfl)) (hw _ (List.mem_of_getElem? (i := 2) rfl)) (by decide) (by decide)) (g := (mkF m 5 #[.val (.int p1), .val (.int (1 : Int32)), .unset, .unset, .unset, .unset, .unset] [(.int (1 : Int32))])) rfl (by rw [hml]; rfl) (argsL := [(.int (1 : Int32))]) (rest := []) (lenOf pd_0 rfl) rfl (by show 2 * 0 + _ ≤ _; exact Nat.le_of_eq rfl) (hb hby at_5) (fun _ _ => ⟨rfl, e0, (by decide : 0 + 0 ≤ _), (by decide : 0 + 0 ≤ _)⟩)
      dsimp only [Pt.U, Pt.locs, Pt.cells, Pt.slots] at X6 l6 y6 z6 st6 hQ6
      subst l6 y6 z6
      obtain ⟨rfl, N6q, e6⟩ := hQ6
      have N6 := Fr.app N0 N6q
      refine own_preW (B := (T6.setTop (mkF m 21 #[.val (.int p1), .val (.int (1 : Int32)), .val (.ref u1), .val (.int (1 : Int32)), .unset, .unset, .unset] [(.ref u1)]))) (fun t kt => ?_) ?_
      · refine st6 _ ?_
        show Steps p.tables e below (T6.setTop (mkF m 8 _ [(.ref u1)])) _
        refine XS.astoreN X6.here hx rfl (hb hby at_8) rfl rfl (l' := #[.val (.int p1), .val (.int (1 : Int32)), .val (.ref u1), .unset, .unset, .unset, .unset]) rfl ?_
        show Steps p.tables e below (T6.setTop (mkF m 9 _ [])) _
        refine XS.iloadN X6.here hx rfl (hb hby at_9) rfl ?_
        show Steps p.tables e below (T6.setTop (mkF m 10 _ [(.int (1 : Int32))])) _
        refine XS.iconst X6.here hx rfl (hb hby at_10) ?_
        show Steps p.tables e below (T6.setTop (mkF m 11 _ [(.int (1 : Int32)), (.int (1 : Int32))])) _
        refine XS.icmpNo X6.here hx rfl (hb hby at_11) rfl (flt ((by decide) : ¬ ((1 : Int32) < (1 : Int32)))).2.2.1 ?_
        show Steps p.tables e below (T6.setTop (mkF m 14 _ [])) _
        refine XS.iconst X6.here hx rfl (hb hby at_14) ?_
        show Steps p.tables e below (T6.setTop (mkF m 15 _ [(.int (1 : Int32))])) _
        refine XS.goto X6.here hx rfl (pc0 := 15) (pc' := 19) rfl (hb hby at_15) (by decide) (by decide) ?_
        show Steps p.tables e below (T6.setTop (mkF m 19 _ [(.int (1 : Int32))])) _
        refine XS.istoreN X6.here hx rfl (hb hby at_19) rfl (l' := #[.val (.int p1), .val (.int (1 : Int32)), .val (.ref u1), .val (.int (1 : Int32)), .unset, .unset, .unset]) rfl ?_
        show Steps p.tables e below (T6.setTop (mkF m 20 _ [])) _
        refine XS.aloadN X6.here hx rfl (hb hby at_20) rfl rfl ?_
        exact kt
      obtain ⟨cq7, kq7, q7a, q7b, q7c⟩ := isOf hZ e6 (E_u1.ext X00.2)
      obtain ⟨_, _, ⟨T7, L7, k7, n7⟩, -, X7, ⟨Lc7, hQ7, l7, y7, z7⟩, st7⟩ := X6.virtualBack hx (y := (⟨"com/example/wattlebird/wattlebird/Unit", "perEnergy", "()Z"⟩ : MethodName)) (z := (⟨"com/example/wattlebird/wattlebird/Unit", "perEnergy", "()Z"⟩ : MethodName)) hown (mvT hZ (hw _ (List.mem_of_getElem? (i := 7) rfl))) (mvT hZ (hw _ (List.mem_of_getElem? (i := 8) rfl))) (notFace_of_selects (args := #[]) (mvT hZ (hw _ (List.mem_of_getElem? (i := 10) rfl)))) (mvT hZ (hw _ (List.mem_of_getElem? (i := 10) rfl))) (mvT hZ (hw _ (List.mem_of_getElem? (i := 9) rfl))) (by decide) (backOf (W := 0) (rm2_1 l Z a0 hw [] u0 u1 h0 n0 Z0 S_0 S_1 X00 n10) hZ (hw _ (List.mem_of_getElem? (i := 11) rfl)) (hw _ (List.mem_of_getElem? (i := 5) rfl)) (by decide) (by decide)) q7a q7c (g := (mkF m 21 #[.val (.int p1), .val (.int (1 : Int32)), .val (.ref u1), .val (.int (1 : Int32)), .unset, .unset, .unset] [(.ref u1)])) rfl (by rw [hml]; rfl) (Steps.refl _) (argsL := []) (rest := []) (lenOf pd_1 rfl) rfl (by show 2 * 0 + _ ≤ _; exact Nat.le_of_eq rfl) (hb hby at_21) (fun _ _ => ⟨rfl, e6, (by decide : 0 + 0 ≤ _), (by decide : 0 + 0 ≤ _)⟩)
      dsimp only [Pt.U, Pt.locs, Pt.cells, Pt.slots] at X7 l7 y7 z7 st7 hQ7
      subst l7 y7 z7
      obtain ⟨rfl, N7q, e7⟩ := hQ7
      have N7 := Fr.app N6 N7q
      refine own_preW (B := (T7.setTop (mkF m 27 #[.val (.int p1), .val (.int (1 : Int32)), .val (.ref u1), .val (.int (1 : Int32)), .val (.int (1 : Int32)), .unset, .unset] [(.ref u1)]))) (fun t kt => ?_) ?_
      · refine st7.trans ?_
        show Steps p.tables e below (T7.setTop (mkF m 24 _ [(.int (1 : Int32))])) _
        refine XS.istore X7.here hx rfl (hb hby at_24) rfl (l' := #[.val (.int p1), .val (.int (1 : Int32)), .val (.ref u1), .val (.int (1 : Int32)), .val (.int (1 : Int32)), .unset, .unset]) rfl ?_
        show Steps p.tables e below (T7.setTop (mkF m 26 _ [])) _
        refine XS.aloadN X7.here hx rfl (hb hby at_26) rfl rfl ?_
        exact kt
      obtain ⟨cq8, kq8, q8a, q8b, q8c⟩ := isOf hZ e7 (E_u1.ext X00.2)
      obtain ⟨_, _, ⟨T8, L8, k8, n8⟩, -, X8, ⟨Lc8, hQ8, l8, y8, z8⟩, st8⟩ := X7.virtualBack hx (y := (⟨"com/example/wattlebird/wattlebird/Unit", "measure", "()Ljava/lang/String;"⟩ : MethodName)) (z := (⟨"com/example/wattlebird/wattlebird/Unit", "measure", "()Ljava/lang/String;"⟩ : MethodName)) hown (mvT hZ (hw _ (List.mem_of_getElem? (i := 13) rfl))) (mvT hZ (hw _ (List.mem_of_getElem? (i := 14) rfl))) (notFace_of_selects (args := #[]) (mvT hZ (hw _ (List.mem_of_getElem? (i := 16) rfl)))) (mvT hZ (hw _ (List.mem_of_getElem? (i := 16) rfl))) (mvT hZ (hw _ (List.mem_of_getElem? (i := 15) rfl))) (by decide) (backOf (W := 0) (rm3 l Z a0 hw [] u1 s1 h0 n0 Z0 (F_u1.ext X00.2)) hZ (hw _ (List.mem_of_getElem? (i := 17) rfl)) (hw _ (List.mem_of_getElem? (i := 5) rfl)) (by decide) (by decide)) q8a q8c (g := (mkF m 27 #[.val (.int p1), .val (.int (1 : Int32)), .val (.ref u1), .val (.int (1 : Int32)), .val (.int (1 : Int32)), .unset, .unset] [(.ref u1)])) rfl (by rw [hml]; rfl) (Steps.refl _) (argsL := []) (rest := []) (lenOf pd_2 rfl) rfl (by show 2 * 0 + _ ≤ _; exact Nat.le_of_eq rfl) (hb hby at_27) (fun _ _ => ⟨rfl, e7, (by decide : 0 + 0 ≤ _), (by decide : 0 + 0 ≤ _)⟩)
      dsimp only [Pt.U, Pt.locs, Pt.cells, Pt.slots] at X8 l8 y8 z8 st8 hQ8
      subst l8 y8 z8
      obtain ⟨rfl, N8q, e8⟩ := hQ8
      have N8 := Fr.app N7 N8q
      refine own_preW (B := (T8.setTop (mkF m 34 #[.val (.int p1), .val (.int (1 : Int32)), .val (.ref u1), .val (.int (1 : Int32)), .val (.int (1 : Int32)), .val (.ref s1), .unset] [(.ref s1)]))) (fun t kt => ?_) ?_
      · refine st8.trans ?_
        show Steps p.tables e below (T8.setTop (mkF m 30 _ [(.ref s1)])) _
        refine XS.astore X8.here hx rfl (hb hby at_30) rfl rfl (l' := #[.val (.int p1), .val (.int (1 : Int32)), .val (.ref u1), .val (.int (1 : Int32)), .val (.int (1 : Int32)), .val (.ref s1), .unset]) rfl ?_
        show Steps p.tables e below (T8.setTop (mkF m 32 _ [])) _
        refine XS.aload X8.here hx rfl (hb hby at_32) rfl rfl ?_
        exact kt
      obtain ⟨lt9, T9, h9, kk9, lb9, lk9, X9, e9, E9, hS, hkS, hZ, hown, EL9, CL9, FL9, VL9, -, -, hI, -, -, st9⟩ := ldcSVd (s := s) (vm0 := s.vm) X8 hx hZ hown (hw _ (List.mem_of_getElem? (i := 20) rfl)) wS e8 hS hkS (hN0 ▸ N8) hkp hI (by decide : "kWh" ∉ ([] : List String)) hh36 hcw (vs := [(.int (107 : Int32)), (.int (87 : Int32)), (.int (104 : Int32))]) (z := (3 : Int32)) own_ht_kWh (by decide) rfl (g := (mkF m 34 #[.val (.int p1), .val (.int (1 : Int32)), .val (.ref u1), .val (.int (1 : Int32)), .val (.int (1 : Int32)), .val (.ref s1), .unset] [(.ref s1)])) rfl (hb hby at_34) (n := 12) (by decide) (by decide) (by decide) (by decide)
      have O9 := Old.ext X00 E9
      refine own_preW (B := (T9.setTop (mkF m 36 #[.val (.int p1), .val (.int (1 : Int32)), .val (.ref u1), .val (.int (1 : Int32)), .val (.int (1 : Int32)), .val (.ref s1), .unset] [(.ref lt9), (.ref s1)]))) (fun t kt => ?_) ?_
      · show Steps p.tables e below (T8.setTop (mkF m 34 _ [(.ref s1)])) _
        refine st9 _ ?_
        exact kt
      have hne10 : ¬ (s1 = lt9) := Fld.ne (F_s1.ext O9.2) FL9 (fun q => own_arvne (V_t1.ext O9.2) VL9 (Or.inr ⟨0, by decide, by decide⟩) (Value.ref.inj q))
      obtain ⟨cq10, kq10, q10a, q10b, q10c⟩ := isOf hZ e9 (E_s1.ext O9.2)
      obtain ⟨_, _, ⟨T10, L10, k10, n10⟩, -, X10, ⟨Lc10, hQ10, l10, y10, z10⟩, st10⟩ := X9.virtualBack hx (y := (⟨"java/lang/String", "equals", "(Ljava/lang/Object;)Z"⟩ : MethodName)) (z := (⟨"java/lang/String", "equals", "(Ljava/lang/Object;)Z"⟩ : MethodName)) hown (mvT hZ (hw _ (List.mem_of_getElem? (i := 28) rfl))) (mvT hZ (hw _ (List.mem_of_getElem? (i := 29) rfl))) (notFace_of_selects (args := #[]) (mvT hZ (hw _ (List.mem_of_getElem? (i := 31) rfl)))) (mvT hZ (hw _ (List.mem_of_getElem? (i := 31) rfl))) (mvT hZ (hw _ (List.mem_of_getElem? (i := 30) rfl))) (by decide) (backOf (W := 0) (rm4_1 l Z a0 hw [] s1 lt9 t1 lb9 _ _ cz h9 n0 (Nat.le_trans Z0 E9.1) EL9 (C_s1.ext O9.2) (F_s1.ext O9.2) CL9 FL9 (V_t1.ext O9.2) VL9 S_CS hcs O9 hne10) hZ (hw _ (List.mem_of_getElem? (i := 32) rfl)) (hw _ (List.mem_of_getElem? (i := 21) rfl)) (by decide) (by decide)) q10a q10c (g := (mkF m 36 #[.val (.int p1), .val (.int (1 : Int32)), .val (.ref u1), .val (.int (1 : Int32)), .val (.int (1 : Int32)), .val (.ref s1), .unset] [(.ref lt9), (.ref s1)])) rfl (by rw [hml]; rfl) (Steps.refl _) (argsL := [(.ref lt9)]) (rest := []) (lenOf pd_3 rfl) rfl (by show 2 * 0 + _ ≤ _; exact Nat.le_of_eq rfl) (hb hby at_36) (fun _ _ => ⟨rfl, e9, (by decide : 2 + 0 ≤ _), (by decide : 16 + 0 ≤ _)⟩)
      dsimp only [Pt.U, Pt.locs, Pt.cells, Pt.slots] at X10 l10 y10 z10 st10 hQ10
      subst l10 y10 z10
      obtain ⟨rfl, N10q, e10⟩ := hQ10
      have N10 := Fr.app N8 N10q
      refine own_preW (B := (T10.setTop (mkF m 44 #[.val (.int p1), .val (.int (1 : Int32)), .val (.ref u1), .val (.int (1 : Int32)), .val (.int (1 : Int32)), .val (.ref s1), .unset] [(.ref s1)]))) (fun t kt => ?_) ?_
      · refine st10.trans ?_
        show Steps p.tables e below (T10.setTop (mkF m 39 _ [(.int (0 : Int32))])) _
        refine XS.ifNo X10.here hx rfl (hb hby at_39) rfl ((if0 _ _).trans (teq (rfl : (0 : Int32) = (0 : Int32))).2) ?_
        show Steps p.tables e below (T10.setTop (mkF m 42 _ [])) _
        refine XS.aload X10.here hx rfl (hb hby at_42) rfl rfl ?_
        exact kt
      obtain ⟨lt11, T11, h11, kk11, lb11, lk11, X11, e11, E11, hS, hkS, hZ, hown, EL11, CL11, FL11, VL11, -, -, hI, -, -, st11⟩ := ldcSVd (s := s) (vm0 := T9.vm) X10 hx hZ hown (hw _ (List.mem_of_getElem? (i := 46) rfl)) wS e10 hS hkS (hN0 ▸ N10) hkp hI (by decide : "MWh" ∉ (["kWh"] : List String)) hh44 hcw (vs := [(.int (77 : Int32)), (.int (87 : Int32)), (.int (104 : Int32))]) (z := (3 : Int32)) own_ht_MWh (by decide) rfl (g := (mkF m 44 #[.val (.int p1), .val (.int (1 : Int32)), .val (.ref u1), .val (.int (1 : Int32)), .val (.int (1 : Int32)), .val (.ref s1), .unset] [(.ref s1)])) rfl (hb hby at_44) (n := 12) (by decide) (by decide) (by decide) (by decide)
      have O11 := Old.ext O9 E11
      refine own_preW (B := (T11.setTop (mkF m 46 #[.val (.int p1), .val (.int (1 : Int32)), .val (.ref u1), .val (.int (1 : Int32)), .val (.int (1 : Int32)), .val (.ref s1), .unset] [(.ref lt11), (.ref s1)]))) (fun t kt => ?_) ?_
      · show Steps p.tables e below (T10.setTop (mkF m 44 _ [(.ref s1)])) _
        refine st11 _ ?_
        exact kt
      obtain ⟨cq12, kq12, q12a, q12b, q12c⟩ := isOf hZ e11 (E_s1.ext O11.2)
      obtain ⟨_, _, ⟨T12, L12, k12, n12⟩, -, X12, ⟨Lc12, hQ12, l12, y12, z12⟩, st12⟩ := X11.virtualBack hx (y := (⟨"java/lang/String", "equals", "(Ljava/lang/Object;)Z"⟩ : MethodName)) (z := (⟨"java/lang/String", "equals", "(Ljava/lang/Object;)Z"⟩ : MethodName)) hown (mvT hZ (hw _ (List.mem_of_getElem? (i := 28) rfl))) (mvT hZ (hw _ (List.mem_of_getElem? (i := 29) rfl))) (notFace_of_selects (args := #[]) (mvT hZ (hw _ (List.mem_of_getElem? (i := 31) rfl)))) (mvT hZ (hw _ (List.mem_of_getElem? (i := 31) rfl))) (mvT hZ (hw _ (List.mem_of_getElem? (i := 30) rfl))) (by decide) (backOf (W := 0) (rm4_2 l Z a0 hw [] s1 lt11 t1 lb11 _ _ cz h11 n0 (Nat.le_trans (Nat.le_trans Z0 E9.1) E11.1) EL11 (C_s1.ext O11.2) (F_s1.ext O11.2) CL11 FL11 (V_t1.ext O11.2) VL11 S_CS hcs O11) hZ (hw _ (List.mem_of_getElem? (i := 32) rfl)) (hw _ (List.mem_of_getElem? (i := 21) rfl)) (by decide) (by decide)) q12a q12c (g := (mkF m 46 #[.val (.int p1), .val (.int (1 : Int32)), .val (.ref u1), .val (.int (1 : Int32)), .val (.int (1 : Int32)), .val (.ref s1), .unset] [(.ref lt11), (.ref s1)])) rfl (by rw [hml]; rfl) (Steps.refl _) (argsL := [(.ref lt11)]) (rest := []) (lenOf pd_3 rfl) rfl (by show 2 * 0 + _ ≤ _; exact Nat.le_of_eq rfl) (hb hby at_46) (fun _ _ => ⟨rfl, e11, (by decide : 4 + 0 ≤ _), (by decide : 32 + 0 ≤ _)⟩)
      dsimp only [Pt.U, Pt.locs, Pt.cells, Pt.slots] at X12 l12 y12 z12 st12 hQ12
      subst l12 y12 z12
      obtain ⟨rfl, N12q, e12⟩ := hQ12
      have N12 := Fr.app N10 N12q
      refine own_preW (B := (T12.setTop (mkF m 77 #[.val (.int p1), .val (.int (1 : Int32)), .val (.ref u1), .val (.int (1 : Int32)), .val (.int (1 : Int32)), .val (.ref s1), .val (.int (1 : Int32))] [(.int (1 : Int32))]))) (fun t kt => ?_) ?_
      · refine st12.trans ?_
        show Steps p.tables e below (T12.setTop (mkF m 49 _ [(.int (1 : Int32))])) _
        refine XS.ifNo X12.here hx rfl (hb hby at_49) rfl ((if0 _ _).trans (feq ((by decide) : ¬ ((1 : Int32) = (0 : Int32)))).1) ?_
        show Steps p.tables e below (T12.setTop (mkF m 52 _ [])) _
        refine XS.iconst X12.here hx rfl (hb hby at_52) ?_
        show Steps p.tables e below (T12.setTop (mkF m 53 _ [(.int (1 : Int32))])) _
        refine XS.goto X12.here hx rfl (pc0 := 53) (pc' := 57) rfl (hb hby at_53) (by decide) (by decide) ?_
        show Steps p.tables e below (T12.setTop (mkF m 57 _ [(.int (1 : Int32))])) _
        refine XS.istore X12.here hx rfl (hb hby at_57) rfl (l' := #[.val (.int p1), .val (.int (1 : Int32)), .val (.ref u1), .val (.int (1 : Int32)), .val (.int (1 : Int32)), .val (.ref s1), .val (.int (1 : Int32))]) rfl ?_
        show Steps p.tables e below (T12.setTop (mkF m 59 _ [])) _
        refine XS.iload X12.here hx rfl (hb hby at_59) rfl ?_
        show Steps p.tables e below (T12.setTop (mkF m 61 _ [(.int (1 : Int32))])) _
        refine XS.iloadN X12.here hx rfl (hb hby at_61) rfl ?_
        show Steps p.tables e below (T12.setTop (mkF m 62 _ [(.int (1 : Int32)), (.int (1 : Int32))])) _
        refine XS.icmpNo X12.here hx rfl (hb hby at_62) rfl (teq (rfl : (1 : Int32) = (1 : Int32))).2 ?_
        show Steps p.tables e below (T12.setTop (mkF m 65 _ [])) _
        refine XS.iload X12.here hx rfl (hb hby at_65) rfl ?_
        show Steps p.tables e below (T12.setTop (mkF m 67 _ [(.int (1 : Int32))])) _
        refine XS.iload X12.here hx rfl (hb hby at_67) rfl ?_
        show Steps p.tables e below (T12.setTop (mkF m 69 _ [(.int (1 : Int32)), (.int (1 : Int32))])) _
        refine XS.icmpNo X12.here hx rfl (hb hby at_69) rfl (teq (rfl : (1 : Int32) = (1 : Int32))).2 ?_
        show Steps p.tables e below (T12.setTop (mkF m 72 _ [])) _
        refine XS.iconst X12.here hx rfl (hb hby at_72) ?_
        show Steps p.tables e below (T12.setTop (mkF m 73 _ [(.int (1 : Int32))])) _
        refine XS.goto X12.here hx rfl (pc0 := 73) (pc' := 77) rfl (hb hby at_73) (by decide) (by decide) ?_
        exact kt
      exact own_finW X12 hS (some (.int (1 : Int32))) (fun h => by rw [Bd.returns] at h; cases h) (BodyLoose.notSynchronized Bd) e12 hkS (fun fs hr => retN X12 hx (t := .boolean) Bd.returns (by simp) (hb hby at_77) hr) ⟨rfl, N12⟩ (by decide) (by decide)
    · refine own_preW (B := (s₁.setTop (mkF m 5 #[.val (.int p1), .val (.int (2 : Int32)), .unset, .unset, .unset, .unset, .unset] [(.int (2 : Int32))]))) (fun t kt => ?_) ?_
      · show Steps p.tables e below (s₁.setTop (mkF m 4 _ [])) _
        refine XS.iloadN X0.here hx rfl (hb hby at_4) rfl ?_
        exact kt
      obtain ⟨_, _, ⟨T13, L13, k13, n13⟩, -, X13, ⟨Lc13, hQ13, l13, y13, z13⟩, st13⟩ := Jvm.LawKit.callS X0 hx (y := (⟨"com/example/wattlebird/wattlebird/UnitPerEnergyPinLaw", "pick", "(I)Lcom/example/wattlebird/wattlebird/Unit;"⟩ : MethodName)) hown (mvT hZ (hw _ (List.mem_of_getElem? (i := 0) rfl))) (mvT hZ (hw _ (List.mem_of_getElem? (i := 1) rfl))) (mvT hZ (hw _ (List.mem_of_getElem? (i := 2) rfl))) (mvT hZ (hw _ (List.mem_of_getElem? (i := 3) rfl))) (by decide) (backOf (W := 0) (rm1_2 l Z a0 hw [] u0 u1 u2 u3 h0 n0 Z0 S_0 S_1 S_2 S_3 X00) hZ (hw _ (List.mem_of_getElem? (i := 3) rfl)) (hw _ (List.mem_of_getElem? (i := 2) rfl)) (by decide) (by decide)) (g := (mkF m 5 #[.val (.int p1), .val (.int (2 : Int32)), .unset, .unset, .unset, .unset, .unset] [(.int (2 : Int32))])) rfl (by rw [hml]; rfl) (argsL := [(.int (2 : Int32))]) (rest := []) (lenOf pd_0 rfl) rfl (by show 2 * 0 + _ ≤ _; exact Nat.le_of_eq rfl) (hb hby at_5) (fun _ _ => ⟨rfl, e0, (by decide : 0 + 0 ≤ _), (by decide : 0 + 0 ≤ _)⟩)
      dsimp only [Pt.U, Pt.locs, Pt.cells, Pt.slots] at X13 l13 y13 z13 st13 hQ13
      subst l13 y13 z13
      obtain ⟨rfl, N13q, e13⟩ := hQ13
      have N13 := Fr.app N0 N13q
      refine own_preW (B := (T13.setTop (mkF m 21 #[.val (.int p1), .val (.int (2 : Int32)), .val (.ref u2), .val (.int (0 : Int32)), .unset, .unset, .unset] [(.ref u2)]))) (fun t kt => ?_) ?_
      · refine st13 _ ?_
        show Steps p.tables e below (T13.setTop (mkF m 8 _ [(.ref u2)])) _
        refine XS.astoreN X13.here hx rfl (hb hby at_8) rfl rfl (l' := #[.val (.int p1), .val (.int (2 : Int32)), .val (.ref u2), .unset, .unset, .unset, .unset]) rfl ?_
        show Steps p.tables e below (T13.setTop (mkF m 9 _ [])) _
        refine XS.iloadN X13.here hx rfl (hb hby at_9) rfl ?_
        show Steps p.tables e below (T13.setTop (mkF m 10 _ [(.int (2 : Int32))])) _
        refine XS.iconst X13.here hx rfl (hb hby at_10) ?_
        show Steps p.tables e below (T13.setTop (mkF m 11 _ [(.int (1 : Int32)), (.int (2 : Int32))])) _
        refine XS.icmpYes X13.here hx rfl (pc0 := 11) (pc' := 18) rfl (hb hby at_11) rfl (tlt ((by decide) : (1 : Int32) < (2 : Int32))).2.2.1 (by decide) (by decide) ?_
        show Steps p.tables e below (T13.setTop (mkF m 18 _ [])) _
        refine XS.iconst X13.here hx rfl (hb hby at_18) ?_
        show Steps p.tables e below (T13.setTop (mkF m 19 _ [(.int (0 : Int32))])) _
        refine XS.istoreN X13.here hx rfl (hb hby at_19) rfl (l' := #[.val (.int p1), .val (.int (2 : Int32)), .val (.ref u2), .val (.int (0 : Int32)), .unset, .unset, .unset]) rfl ?_
        show Steps p.tables e below (T13.setTop (mkF m 20 _ [])) _
        refine XS.aloadN X13.here hx rfl (hb hby at_20) rfl rfl ?_
        exact kt
      obtain ⟨cq14, kq14, q14a, q14b, q14c⟩ := isOf hZ e13 (E_u2.ext X00.2)
      obtain ⟨_, _, ⟨T14, L14, k14, n14⟩, -, X14, ⟨Lc14, hQ14, l14, y14, z14⟩, st14⟩ := X13.virtualBack hx (y := (⟨"com/example/wattlebird/wattlebird/Unit", "perEnergy", "()Z"⟩ : MethodName)) (z := (⟨"com/example/wattlebird/wattlebird/Unit", "perEnergy", "()Z"⟩ : MethodName)) hown (mvT hZ (hw _ (List.mem_of_getElem? (i := 7) rfl))) (mvT hZ (hw _ (List.mem_of_getElem? (i := 8) rfl))) (notFace_of_selects (args := #[]) (mvT hZ (hw _ (List.mem_of_getElem? (i := 10) rfl)))) (mvT hZ (hw _ (List.mem_of_getElem? (i := 10) rfl))) (mvT hZ (hw _ (List.mem_of_getElem? (i := 9) rfl))) (by decide) (backOf (W := 0) (rm2_2 l Z a0 hw [] u0 u1 u2 h0 n0 Z0 S_0 S_1 X00 n20 n21) hZ (hw _ (List.mem_of_getElem? (i := 11) rfl)) (hw _ (List.mem_of_getElem? (i := 5) rfl)) (by decide) (by decide)) q14a q14c (g := (mkF m 21 #[.val (.int p1), .val (.int (2 : Int32)), .val (.ref u2), .val (.int (0 : Int32)), .unset, .unset, .unset] [(.ref u2)])) rfl (by rw [hml]; rfl) (Steps.refl _) (argsL := []) (rest := []) (lenOf pd_1 rfl) rfl (by show 2 * 0 + _ ≤ _; exact Nat.le_of_eq rfl) (hb hby at_21) (fun _ _ => ⟨rfl, e13, (by decide : 0 + 0 ≤ _), (by decide : 0 + 0 ≤ _)⟩)
      dsimp only [Pt.U, Pt.locs, Pt.cells, Pt.slots] at X14 l14 y14 z14 st14 hQ14
      subst l14 y14 z14
      obtain ⟨rfl, N14q, e14⟩ := hQ14
      have N14 := Fr.app N13 N14q
      refine own_preW (B := (T14.setTop (mkF m 27 #[.val (.int p1), .val (.int (2 : Int32)), .val (.ref u2), .val (.int (0 : Int32)), .val (.int (0 : Int32)), .unset, .unset] [(.ref u2)]))) (fun t kt => ?_) ?_
      · refine st14.trans ?_
        show Steps p.tables e below (T14.setTop (mkF m 24 _ [(.int (0 : Int32))])) _
        refine XS.istore X14.here hx rfl (hb hby at_24) rfl (l' := #[.val (.int p1), .val (.int (2 : Int32)), .val (.ref u2), .val (.int (0 : Int32)), .val (.int (0 : Int32)), .unset, .unset]) rfl ?_
        show Steps p.tables e below (T14.setTop (mkF m 26 _ [])) _
        refine XS.aloadN X14.here hx rfl (hb hby at_26) rfl rfl ?_
        exact kt
      obtain ⟨cq15, kq15, q15a, q15b, q15c⟩ := isOf hZ e14 (E_u2.ext X00.2)
      obtain ⟨_, _, ⟨T15, L15, k15, n15⟩, -, X15, ⟨Lc15, hQ15, l15, y15, z15⟩, st15⟩ := X14.virtualBack hx (y := (⟨"com/example/wattlebird/wattlebird/Unit", "measure", "()Ljava/lang/String;"⟩ : MethodName)) (z := (⟨"com/example/wattlebird/wattlebird/Unit", "measure", "()Ljava/lang/String;"⟩ : MethodName)) hown (mvT hZ (hw _ (List.mem_of_getElem? (i := 13) rfl))) (mvT hZ (hw _ (List.mem_of_getElem? (i := 14) rfl))) (notFace_of_selects (args := #[]) (mvT hZ (hw _ (List.mem_of_getElem? (i := 16) rfl)))) (mvT hZ (hw _ (List.mem_of_getElem? (i := 16) rfl))) (mvT hZ (hw _ (List.mem_of_getElem? (i := 15) rfl))) (by decide) (backOf (W := 0) (rm3 l Z a0 hw [] u2 s2 h0 n0 Z0 (F_u2.ext X00.2)) hZ (hw _ (List.mem_of_getElem? (i := 17) rfl)) (hw _ (List.mem_of_getElem? (i := 5) rfl)) (by decide) (by decide)) q15a q15c (g := (mkF m 27 #[.val (.int p1), .val (.int (2 : Int32)), .val (.ref u2), .val (.int (0 : Int32)), .val (.int (0 : Int32)), .unset, .unset] [(.ref u2)])) rfl (by rw [hml]; rfl) (Steps.refl _) (argsL := []) (rest := []) (lenOf pd_2 rfl) rfl (by show 2 * 0 + _ ≤ _; exact Nat.le_of_eq rfl) (hb hby at_27) (fun _ _ => ⟨rfl, e14, (by decide : 0 + 0 ≤ _), (by decide : 0 + 0 ≤ _)⟩)
      dsimp only [Pt.U, Pt.locs, Pt.cells, Pt.slots] at X15 l15 y15 z15 st15 hQ15
      subst l15 y15 z15
      obtain ⟨rfl, N15q, e15⟩ := hQ15
      have N15 := Fr.app N14 N15q
      refine own_preW (B := (T15.setTop (mkF m 34 #[.val (.int p1), .val (.int (2 : Int32)), .val (.ref u2), .val (.int (0 : Int32)), .val (.int (0 : Int32)), .val (.ref s2), .unset] [(.ref s2)]))) (fun t kt => ?_) ?_
      · refine st15.trans ?_
        show Steps p.tables e below (T15.setTop (mkF m 30 _ [(.ref s2)])) _
        refine XS.astore X15.here hx rfl (hb hby at_30) rfl rfl (l' := #[.val (.int p1), .val (.int (2 : Int32)), .val (.ref u2), .val (.int (0 : Int32)), .val (.int (0 : Int32)), .val (.ref s2), .unset]) rfl ?_
        show Steps p.tables e below (T15.setTop (mkF m 32 _ [])) _
        refine XS.aload X15.here hx rfl (hb hby at_32) rfl rfl ?_
        exact kt
      obtain ⟨lt16, T16, h16, kk16, lb16, lk16, X16, e16, E16, hS, hkS, hZ, hown, EL16, CL16, FL16, VL16, -, -, hI, -, -, st16⟩ := ldcSVd (s := s) (vm0 := s.vm) X15 hx hZ hown (hw _ (List.mem_of_getElem? (i := 20) rfl)) wS e15 hS hkS (hN0 ▸ N15) hkp hI (by decide : "kWh" ∉ ([] : List String)) hh36 hcw (vs := [(.int (107 : Int32)), (.int (87 : Int32)), (.int (104 : Int32))]) (z := (3 : Int32)) own_ht_kWh (by decide) rfl (g := (mkF m 34 #[.val (.int p1), .val (.int (2 : Int32)), .val (.ref u2), .val (.int (0 : Int32)), .val (.int (0 : Int32)), .val (.ref s2), .unset] [(.ref s2)])) rfl (hb hby at_34) (n := 12) (by decide) (by decide) (by decide) (by decide)
      have O16 := Old.ext X00 E16
      refine own_preW (B := (T16.setTop (mkF m 36 #[.val (.int p1), .val (.int (2 : Int32)), .val (.ref u2), .val (.int (0 : Int32)), .val (.int (0 : Int32)), .val (.ref s2), .unset] [(.ref lt16), (.ref s2)]))) (fun t kt => ?_) ?_
      · show Steps p.tables e below (T15.setTop (mkF m 34 _ [(.ref s2)])) _
        refine st16 _ ?_
        exact kt
      have hne17 : ¬ (s2 = lt16) := Fld.ne (F_s2.ext O16.2) FL16 (fun q => own_arvne (V_t2.ext O16.2) VL16 (Or.inl (by decide)) (Value.ref.inj q))
      obtain ⟨cq17, kq17, q17a, q17b, q17c⟩ := isOf hZ e16 (E_s2.ext O16.2)
      obtain ⟨_, _, ⟨T17, L17, k17, n17⟩, -, X17, ⟨Lc17, hQ17, l17, y17, z17⟩, st17⟩ := X16.virtualBack hx (y := (⟨"java/lang/String", "equals", "(Ljava/lang/Object;)Z"⟩ : MethodName)) (z := (⟨"java/lang/String", "equals", "(Ljava/lang/Object;)Z"⟩ : MethodName)) hown (mvT hZ (hw _ (List.mem_of_getElem? (i := 28) rfl))) (mvT hZ (hw _ (List.mem_of_getElem? (i := 29) rfl))) (notFace_of_selects (args := #[]) (mvT hZ (hw _ (List.mem_of_getElem? (i := 31) rfl)))) (mvT hZ (hw _ (List.mem_of_getElem? (i := 31) rfl))) (mvT hZ (hw _ (List.mem_of_getElem? (i := 30) rfl))) (by decide) (backOf (W := 0) (rm4_3 l Z a0 hw [] s2 lt16 t2 lb16 _ _ cz h16 n0 (Nat.le_trans Z0 E16.1) EL16 (C_s2.ext O16.2) (F_s2.ext O16.2) CL16 FL16 (V_t2.ext O16.2) VL16 S_CS hcs O16 hne17) hZ (hw _ (List.mem_of_getElem? (i := 32) rfl)) (hw _ (List.mem_of_getElem? (i := 21) rfl)) (by decide) (by decide)) q17a q17c (g := (mkF m 36 #[.val (.int p1), .val (.int (2 : Int32)), .val (.ref u2), .val (.int (0 : Int32)), .val (.int (0 : Int32)), .val (.ref s2), .unset] [(.ref lt16), (.ref s2)])) rfl (by rw [hml]; rfl) (Steps.refl _) (argsL := [(.ref lt16)]) (rest := []) (lenOf pd_3 rfl) rfl (by show 2 * 0 + _ ≤ _; exact Nat.le_of_eq rfl) (hb hby at_36) (fun _ _ => ⟨rfl, e16, (by decide : 2 + 0 ≤ _), (by decide : 16 + 0 ≤ _)⟩)
      dsimp only [Pt.U, Pt.locs, Pt.cells, Pt.slots] at X17 l17 y17 z17 st17 hQ17
      subst l17 y17 z17
      obtain ⟨rfl, N17q, e17⟩ := hQ17
      have N17 := Fr.app N15 N17q
      refine own_preW (B := (T17.setTop (mkF m 44 #[.val (.int p1), .val (.int (2 : Int32)), .val (.ref u2), .val (.int (0 : Int32)), .val (.int (0 : Int32)), .val (.ref s2), .unset] [(.ref s2)]))) (fun t kt => ?_) ?_
      · refine st17.trans ?_
        show Steps p.tables e below (T17.setTop (mkF m 39 _ [(.int (0 : Int32))])) _
        refine XS.ifNo X17.here hx rfl (hb hby at_39) rfl ((if0 _ _).trans (teq (rfl : (0 : Int32) = (0 : Int32))).2) ?_
        show Steps p.tables e below (T17.setTop (mkF m 42 _ [])) _
        refine XS.aload X17.here hx rfl (hb hby at_42) rfl rfl ?_
        exact kt
      obtain ⟨lt18, T18, h18, kk18, lb18, lk18, X18, e18, E18, hS, hkS, hZ, hown, EL18, CL18, FL18, VL18, -, -, hI, -, -, st18⟩ := ldcSVd (s := s) (vm0 := T16.vm) X17 hx hZ hown (hw _ (List.mem_of_getElem? (i := 46) rfl)) wS e17 hS hkS (hN0 ▸ N17) hkp hI (by decide : "MWh" ∉ (["kWh"] : List String)) hh44 hcw (vs := [(.int (77 : Int32)), (.int (87 : Int32)), (.int (104 : Int32))]) (z := (3 : Int32)) own_ht_MWh (by decide) rfl (g := (mkF m 44 #[.val (.int p1), .val (.int (2 : Int32)), .val (.ref u2), .val (.int (0 : Int32)), .val (.int (0 : Int32)), .val (.ref s2), .unset] [(.ref s2)])) rfl (hb hby at_44) (n := 12) (by decide) (by decide) (by decide) (by decide)
      have O18 := Old.ext O16 E18
      refine own_preW (B := (T18.setTop (mkF m 46 #[.val (.int p1), .val (.int (2 : Int32)), .val (.ref u2), .val (.int (0 : Int32)), .val (.int (0 : Int32)), .val (.ref s2), .unset] [(.ref lt18), (.ref s2)]))) (fun t kt => ?_) ?_
      · show Steps p.tables e below (T17.setTop (mkF m 44 _ [(.ref s2)])) _
        refine st18 _ ?_
        exact kt
      have hne19 : ¬ (s2 = lt18) := Fld.ne (F_s2.ext O18.2) FL18 (fun q => own_arvne (V_t2.ext O18.2) VL18 (Or.inl (by decide)) (Value.ref.inj q))
      obtain ⟨cq19, kq19, q19a, q19b, q19c⟩ := isOf hZ e18 (E_s2.ext O18.2)
      obtain ⟨_, _, ⟨T19, L19, k19, n19⟩, -, X19, ⟨Lc19, hQ19, l19, y19, z19⟩, st19⟩ := X18.virtualBack hx (y := (⟨"java/lang/String", "equals", "(Ljava/lang/Object;)Z"⟩ : MethodName)) (z := (⟨"java/lang/String", "equals", "(Ljava/lang/Object;)Z"⟩ : MethodName)) hown (mvT hZ (hw _ (List.mem_of_getElem? (i := 28) rfl))) (mvT hZ (hw _ (List.mem_of_getElem? (i := 29) rfl))) (notFace_of_selects (args := #[]) (mvT hZ (hw _ (List.mem_of_getElem? (i := 31) rfl)))) (mvT hZ (hw _ (List.mem_of_getElem? (i := 31) rfl))) (mvT hZ (hw _ (List.mem_of_getElem? (i := 30) rfl))) (by decide) (backOf (W := 0) (rm4_4 l Z a0 hw [] s2 lt18 t2 lb18 _ _ cz h18 n0 (Nat.le_trans (Nat.le_trans Z0 E16.1) E18.1) EL18 (C_s2.ext O18.2) (F_s2.ext O18.2) CL18 FL18 (V_t2.ext O18.2) VL18 S_CS hcs O18 hne19) hZ (hw _ (List.mem_of_getElem? (i := 32) rfl)) (hw _ (List.mem_of_getElem? (i := 21) rfl)) (by decide) (by decide)) q19a q19c (g := (mkF m 46 #[.val (.int p1), .val (.int (2 : Int32)), .val (.ref u2), .val (.int (0 : Int32)), .val (.int (0 : Int32)), .val (.ref s2), .unset] [(.ref lt18), (.ref s2)])) rfl (by rw [hml]; rfl) (Steps.refl _) (argsL := [(.ref lt18)]) (rest := []) (lenOf pd_3 rfl) rfl (by show 2 * 0 + _ ≤ _; exact Nat.le_of_eq rfl) (hb hby at_46) (fun _ _ => ⟨rfl, e18, (by decide : 4 + 0 ≤ _), (by decide : 32 + 0 ≤ _)⟩)
      dsimp only [Pt.U, Pt.locs, Pt.cells, Pt.slots] at X19 l19 y19 z19 st19 hQ19
      subst l19 y19 z19
      obtain ⟨rfl, N19q, e19⟩ := hQ19
      have N19 := Fr.app N17 N19q
      refine own_preW (B := (T19.setTop (mkF m 77 #[.val (.int p1), .val (.int (2 : Int32)), .val (.ref u2), .val (.int (0 : Int32)), .val (.int (0 : Int32)), .val (.ref s2), .val (.int (0 : Int32))] [(.int (1 : Int32))]))) (fun t kt => ?_) ?_
      · refine st19.trans ?_
        show Steps p.tables e below (T19.setTop (mkF m 49 _ [(.int (0 : Int32))])) _
        refine XS.ifYes X19.here hx rfl (pc0 := 49) (pc' := 56) rfl (hb hby at_49) rfl ((if0 _ _).trans (teq (rfl : (0 : Int32) = (0 : Int32))).1) (by decide) (by decide) ?_
        show Steps p.tables e below (T19.setTop (mkF m 56 _ [])) _
        refine XS.iconst X19.here hx rfl (hb hby at_56) ?_
        show Steps p.tables e below (T19.setTop (mkF m 57 _ [(.int (0 : Int32))])) _
        refine XS.istore X19.here hx rfl (hb hby at_57) rfl (l' := #[.val (.int p1), .val (.int (2 : Int32)), .val (.ref u2), .val (.int (0 : Int32)), .val (.int (0 : Int32)), .val (.ref s2), .val (.int (0 : Int32))]) rfl ?_
        show Steps p.tables e below (T19.setTop (mkF m 59 _ [])) _
        refine XS.iload X19.here hx rfl (hb hby at_59) rfl ?_
        show Steps p.tables e below (T19.setTop (mkF m 61 _ [(.int (0 : Int32))])) _
        refine XS.iloadN X19.here hx rfl (hb hby at_61) rfl ?_
        show Steps p.tables e below (T19.setTop (mkF m 62 _ [(.int (0 : Int32)), (.int (0 : Int32))])) _
        refine XS.icmpNo X19.here hx rfl (hb hby at_62) rfl (teq (rfl : (0 : Int32) = (0 : Int32))).2 ?_
        show Steps p.tables e below (T19.setTop (mkF m 65 _ [])) _
        refine XS.iload X19.here hx rfl (hb hby at_65) rfl ?_
        show Steps p.tables e below (T19.setTop (mkF m 67 _ [(.int (0 : Int32))])) _
        refine XS.iload X19.here hx rfl (hb hby at_67) rfl ?_
        show Steps p.tables e below (T19.setTop (mkF m 69 _ [(.int (0 : Int32)), (.int (0 : Int32))])) _
        refine XS.icmpNo X19.here hx rfl (hb hby at_69) rfl (teq (rfl : (0 : Int32) = (0 : Int32))).2 ?_
        show Steps p.tables e below (T19.setTop (mkF m 72 _ [])) _
        refine XS.iconst X19.here hx rfl (hb hby at_72) ?_
        show Steps p.tables e below (T19.setTop (mkF m 73 _ [(.int (1 : Int32))])) _
        refine XS.goto X19.here hx rfl (pc0 := 73) (pc' := 77) rfl (hb hby at_73) (by decide) (by decide) ?_
        exact kt
      exact own_finW X19 hS (some (.int (1 : Int32))) (fun h => by rw [Bd.returns] at h; cases h) (BodyLoose.notSynchronized Bd) e19 hkS (fun fs hr => retN X19 hx (t := .boolean) Bd.returns (by simp) (hb hby at_77) hr) ⟨rfl, N19⟩ (by decide) (by decide)
    · refine own_preW (B := (s₁.setTop (mkF m 5 #[.val (.int p1), .val (.int (3 : Int32)), .unset, .unset, .unset, .unset, .unset] [(.int (3 : Int32))]))) (fun t kt => ?_) ?_
      · show Steps p.tables e below (s₁.setTop (mkF m 4 _ [])) _
        refine XS.iloadN X0.here hx rfl (hb hby at_4) rfl ?_
        exact kt
      obtain ⟨_, _, ⟨T20, L20, k20, n20⟩, -, X20, ⟨Lc20, hQ20, l20, y20, z20⟩, st20⟩ := Jvm.LawKit.callS X0 hx (y := (⟨"com/example/wattlebird/wattlebird/UnitPerEnergyPinLaw", "pick", "(I)Lcom/example/wattlebird/wattlebird/Unit;"⟩ : MethodName)) hown (mvT hZ (hw _ (List.mem_of_getElem? (i := 0) rfl))) (mvT hZ (hw _ (List.mem_of_getElem? (i := 1) rfl))) (mvT hZ (hw _ (List.mem_of_getElem? (i := 2) rfl))) (mvT hZ (hw _ (List.mem_of_getElem? (i := 3) rfl))) (by decide) (backOf (W := 0) (rm1_3 l Z a0 hw [] u0 u1 u2 u3 h0 n0 Z0 S_0 S_1 S_2 S_3 X00) hZ (hw _ (List.mem_of_getElem? (i := 3) rfl)) (hw _ (List.mem_of_getElem? (i := 2) rfl)) (by decide) (by decide)) (g := (mkF m 5 #[.val (.int p1), .val (.int (3 : Int32)), .unset, .unset, .unset, .unset, .unset] [(.int (3 : Int32))])) rfl (by rw [hml]; rfl) (argsL := [(.int (3 : Int32))]) (rest := []) (lenOf pd_0 rfl) rfl (by show 2 * 0 + _ ≤ _; exact Nat.le_of_eq rfl) (hb hby at_5) (fun _ _ => ⟨rfl, e0, (by decide : 0 + 0 ≤ _), (by decide : 0 + 0 ≤ _)⟩)
      dsimp only [Pt.U, Pt.locs, Pt.cells, Pt.slots] at X20 l20 y20 z20 st20 hQ20
      subst l20 y20 z20
      obtain ⟨rfl, N20q, e20⟩ := hQ20
      have N20 := Fr.app N0 N20q
      refine own_preW (B := (T20.setTop (mkF m 21 #[.val (.int p1), .val (.int (3 : Int32)), .val (.ref u3), .val (.int (0 : Int32)), .unset, .unset, .unset] [(.ref u3)]))) (fun t kt => ?_) ?_
      · refine st20 _ ?_
        show Steps p.tables e below (T20.setTop (mkF m 8 _ [(.ref u3)])) _
        refine XS.astoreN X20.here hx rfl (hb hby at_8) rfl rfl (l' := #[.val (.int p1), .val (.int (3 : Int32)), .val (.ref u3), .unset, .unset, .unset, .unset]) rfl ?_
        show Steps p.tables e below (T20.setTop (mkF m 9 _ [])) _
        refine XS.iloadN X20.here hx rfl (hb hby at_9) rfl ?_
        show Steps p.tables e below (T20.setTop (mkF m 10 _ [(.int (3 : Int32))])) _
        refine XS.iconst X20.here hx rfl (hb hby at_10) ?_
        show Steps p.tables e below (T20.setTop (mkF m 11 _ [(.int (1 : Int32)), (.int (3 : Int32))])) _
        refine XS.icmpYes X20.here hx rfl (pc0 := 11) (pc' := 18) rfl (hb hby at_11) rfl (tlt ((by decide) : (1 : Int32) < (3 : Int32))).2.2.1 (by decide) (by decide) ?_
        show Steps p.tables e below (T20.setTop (mkF m 18 _ [])) _
        refine XS.iconst X20.here hx rfl (hb hby at_18) ?_
        show Steps p.tables e below (T20.setTop (mkF m 19 _ [(.int (0 : Int32))])) _
        refine XS.istoreN X20.here hx rfl (hb hby at_19) rfl (l' := #[.val (.int p1), .val (.int (3 : Int32)), .val (.ref u3), .val (.int (0 : Int32)), .unset, .unset, .unset]) rfl ?_
        show Steps p.tables e below (T20.setTop (mkF m 20 _ [])) _
        refine XS.aloadN X20.here hx rfl (hb hby at_20) rfl rfl ?_
        exact kt
      obtain ⟨cq21, kq21, q21a, q21b, q21c⟩ := isOf hZ e20 (E_u3.ext X00.2)
      obtain ⟨_, _, ⟨T21, L21, k21, n21⟩, -, X21, ⟨Lc21, hQ21, l21, y21, z21⟩, st21⟩ := X20.virtualBack hx (y := (⟨"com/example/wattlebird/wattlebird/Unit", "perEnergy", "()Z"⟩ : MethodName)) (z := (⟨"com/example/wattlebird/wattlebird/Unit", "perEnergy", "()Z"⟩ : MethodName)) hown (mvT hZ (hw _ (List.mem_of_getElem? (i := 7) rfl))) (mvT hZ (hw _ (List.mem_of_getElem? (i := 8) rfl))) (notFace_of_selects (args := #[]) (mvT hZ (hw _ (List.mem_of_getElem? (i := 10) rfl)))) (mvT hZ (hw _ (List.mem_of_getElem? (i := 10) rfl))) (mvT hZ (hw _ (List.mem_of_getElem? (i := 9) rfl))) (by decide) (backOf (W := 0) (rm2_3 l Z a0 hw [] u0 u1 u3 h0 n0 Z0 S_0 S_1 X00 n30 n31) hZ (hw _ (List.mem_of_getElem? (i := 11) rfl)) (hw _ (List.mem_of_getElem? (i := 5) rfl)) (by decide) (by decide)) q21a q21c (g := (mkF m 21 #[.val (.int p1), .val (.int (3 : Int32)), .val (.ref u3), .val (.int (0 : Int32)), .unset, .unset, .unset] [(.ref u3)])) rfl (by rw [hml]; rfl) (Steps.refl _) (argsL := []) (rest := []) (lenOf pd_1 rfl) rfl (by show 2 * 0 + _ ≤ _; exact Nat.le_of_eq rfl) (hb hby at_21) (fun _ _ => ⟨rfl, e20, (by decide : 0 + 0 ≤ _), (by decide : 0 + 0 ≤ _)⟩)
      dsimp only [Pt.U, Pt.locs, Pt.cells, Pt.slots] at X21 l21 y21 z21 st21 hQ21
      subst l21 y21 z21
      obtain ⟨rfl, N21q, e21⟩ := hQ21
      have N21 := Fr.app N20 N21q
      refine own_preW (B := (T21.setTop (mkF m 27 #[.val (.int p1), .val (.int (3 : Int32)), .val (.ref u3), .val (.int (0 : Int32)), .val (.int (0 : Int32)), .unset, .unset] [(.ref u3)]))) (fun t kt => ?_) ?_
      · refine st21.trans ?_
        show Steps p.tables e below (T21.setTop (mkF m 24 _ [(.int (0 : Int32))])) _
        refine XS.istore X21.here hx rfl (hb hby at_24) rfl (l' := #[.val (.int p1), .val (.int (3 : Int32)), .val (.ref u3), .val (.int (0 : Int32)), .val (.int (0 : Int32)), .unset, .unset]) rfl ?_
        show Steps p.tables e below (T21.setTop (mkF m 26 _ [])) _
        refine XS.aloadN X21.here hx rfl (hb hby at_26) rfl rfl ?_
        exact kt
      obtain ⟨cq22, kq22, q22a, q22b, q22c⟩ := isOf hZ e21 (E_u3.ext X00.2)
      obtain ⟨_, _, ⟨T22, L22, k22, n22⟩, -, X22, ⟨Lc22, hQ22, l22, y22, z22⟩, st22⟩ := X21.virtualBack hx (y := (⟨"com/example/wattlebird/wattlebird/Unit", "measure", "()Ljava/lang/String;"⟩ : MethodName)) (z := (⟨"com/example/wattlebird/wattlebird/Unit", "measure", "()Ljava/lang/String;"⟩ : MethodName)) hown (mvT hZ (hw _ (List.mem_of_getElem? (i := 13) rfl))) (mvT hZ (hw _ (List.mem_of_getElem? (i := 14) rfl))) (notFace_of_selects (args := #[]) (mvT hZ (hw _ (List.mem_of_getElem? (i := 16) rfl)))) (mvT hZ (hw _ (List.mem_of_getElem? (i := 16) rfl))) (mvT hZ (hw _ (List.mem_of_getElem? (i := 15) rfl))) (by decide) (backOf (W := 0) (rm3 l Z a0 hw [] u3 s3 h0 n0 Z0 (F_u3.ext X00.2)) hZ (hw _ (List.mem_of_getElem? (i := 17) rfl)) (hw _ (List.mem_of_getElem? (i := 5) rfl)) (by decide) (by decide)) q22a q22c (g := (mkF m 27 #[.val (.int p1), .val (.int (3 : Int32)), .val (.ref u3), .val (.int (0 : Int32)), .val (.int (0 : Int32)), .unset, .unset] [(.ref u3)])) rfl (by rw [hml]; rfl) (Steps.refl _) (argsL := []) (rest := []) (lenOf pd_2 rfl) rfl (by show 2 * 0 + _ ≤ _; exact Nat.le_of_eq rfl) (hb hby at_27) (fun _ _ => ⟨rfl, e21, (by decide : 0 + 0 ≤ _), (by decide : 0 + 0 ≤ _)⟩)
      dsimp only [Pt.U, Pt.locs, Pt.cells, Pt.slots] at X22 l22 y22 z22 st22 hQ22
      subst l22 y22 z22
      obtain ⟨rfl, N22q, e22⟩ := hQ22
      have N22 := Fr.app N21 N22q
      refine own_preW (B := (T22.setTop (mkF m 34 #[.val (.int p1), .val (.int (3 : Int32)), .val (.ref u3), .val (.int (0 : Int32)), .val (.int (0 : Int32)), .val (.ref s3), .unset] [(.ref s3)]))) (fun t kt => ?_) ?_
      · refine st22.trans ?_
        show Steps p.tables e below (T22.setTop (mkF m 30 _ [(.ref s3)])) _
        refine XS.astore X22.here hx rfl (hb hby at_30) rfl rfl (l' := #[.val (.int p1), .val (.int (3 : Int32)), .val (.ref u3), .val (.int (0 : Int32)), .val (.int (0 : Int32)), .val (.ref s3), .unset]) rfl ?_
        show Steps p.tables e below (T22.setTop (mkF m 32 _ [])) _
        refine XS.aload X22.here hx rfl (hb hby at_32) rfl rfl ?_
        exact kt
      obtain ⟨lt23, T23, h23, kk23, lb23, lk23, X23, e23, E23, hS, hkS, hZ, hown, EL23, CL23, FL23, VL23, -, -, hI, -, -, st23⟩ := ldcSVd (s := s) (vm0 := s.vm) X22 hx hZ hown (hw _ (List.mem_of_getElem? (i := 20) rfl)) wS e22 hS hkS (hN0 ▸ N22) hkp hI (by decide : "kWh" ∉ ([] : List String)) hh36 hcw (vs := [(.int (107 : Int32)), (.int (87 : Int32)), (.int (104 : Int32))]) (z := (3 : Int32)) own_ht_kWh (by decide) rfl (g := (mkF m 34 #[.val (.int p1), .val (.int (3 : Int32)), .val (.ref u3), .val (.int (0 : Int32)), .val (.int (0 : Int32)), .val (.ref s3), .unset] [(.ref s3)])) rfl (hb hby at_34) (n := 12) (by decide) (by decide) (by decide) (by decide)
      have O23 := Old.ext X00 E23
      refine own_preW (B := (T23.setTop (mkF m 36 #[.val (.int p1), .val (.int (3 : Int32)), .val (.ref u3), .val (.int (0 : Int32)), .val (.int (0 : Int32)), .val (.ref s3), .unset] [(.ref lt23), (.ref s3)]))) (fun t kt => ?_) ?_
      · show Steps p.tables e below (T22.setTop (mkF m 34 _ [(.ref s3)])) _
        refine st23 _ ?_
        exact kt
      have hne24 : ¬ (s3 = lt23) := Fld.ne (F_s3.ext O23.2) FL23 (fun q => own_arvne (V_t3.ext O23.2) VL23 (Or.inl (by decide)) (Value.ref.inj q))
      obtain ⟨cq24, kq24, q24a, q24b, q24c⟩ := isOf hZ e23 (E_s3.ext O23.2)
      obtain ⟨_, _, ⟨T24, L24, k24, n24⟩, -, X24, ⟨Lc24, hQ24, l24, y24, z24⟩, st24⟩ := X23.virtualBack hx (y := (⟨"java/lang/String", "equals", "(Ljava/lang/Object;)Z"⟩ : MethodName)) (z := (⟨"java/lang/String", "equals", "(Ljava/lang/Object;)Z"⟩ : MethodName)) hown (mvT hZ (hw _ (List.mem_of_getElem? (i := 28) rfl))) (mvT hZ (hw _ (List.mem_of_getElem? (i := 29) rfl))) (notFace_of_selects (args := #[]) (mvT hZ (hw _ (List.mem_of_getElem? (i := 31) rfl)))) (mvT hZ (hw _ (List.mem_of_getElem? (i := 31) rfl))) (mvT hZ (hw _ (List.mem_of_getElem? (i := 30) rfl))) (by decide) (backOf (W := 0) (rm4_5 l Z a0 hw [] s3 lt23 t3 lb23 _ _ cz h23 n0 (Nat.le_trans Z0 E23.1) EL23 (C_s3.ext O23.2) (F_s3.ext O23.2) CL23 FL23 (V_t3.ext O23.2) VL23 S_CS hcs O23 hne24) hZ (hw _ (List.mem_of_getElem? (i := 32) rfl)) (hw _ (List.mem_of_getElem? (i := 21) rfl)) (by decide) (by decide)) q24a q24c (g := (mkF m 36 #[.val (.int p1), .val (.int (3 : Int32)), .val (.ref u3), .val (.int (0 : Int32)), .val (.int (0 : Int32)), .val (.ref s3), .unset] [(.ref lt23), (.ref s3)])) rfl (by rw [hml]; rfl) (Steps.refl _) (argsL := [(.ref lt23)]) (rest := []) (lenOf pd_3 rfl) rfl (by show 2 * 0 + _ ≤ _; exact Nat.le_of_eq rfl) (hb hby at_36) (fun _ _ => ⟨rfl, e23, (by decide : 2 + 0 ≤ _), (by decide : 16 + 0 ≤ _)⟩)
      dsimp only [Pt.U, Pt.locs, Pt.cells, Pt.slots] at X24 l24 y24 z24 st24 hQ24
      subst l24 y24 z24
      obtain ⟨rfl, N24q, e24⟩ := hQ24
      have N24 := Fr.app N22 N24q
      refine own_preW (B := (T24.setTop (mkF m 44 #[.val (.int p1), .val (.int (3 : Int32)), .val (.ref u3), .val (.int (0 : Int32)), .val (.int (0 : Int32)), .val (.ref s3), .unset] [(.ref s3)]))) (fun t kt => ?_) ?_
      · refine st24.trans ?_
        show Steps p.tables e below (T24.setTop (mkF m 39 _ [(.int (0 : Int32))])) _
        refine XS.ifNo X24.here hx rfl (hb hby at_39) rfl ((if0 _ _).trans (teq (rfl : (0 : Int32) = (0 : Int32))).2) ?_
        show Steps p.tables e below (T24.setTop (mkF m 42 _ [])) _
        refine XS.aload X24.here hx rfl (hb hby at_42) rfl rfl ?_
        exact kt
      obtain ⟨lt25, T25, h25, kk25, lb25, lk25, X25, e25, E25, hS, hkS, hZ, hown, EL25, CL25, FL25, VL25, -, -, hI, -, -, st25⟩ := ldcSVd (s := s) (vm0 := T23.vm) X24 hx hZ hown (hw _ (List.mem_of_getElem? (i := 46) rfl)) wS e24 hS hkS (hN0 ▸ N24) hkp hI (by decide : "MWh" ∉ (["kWh"] : List String)) hh44 hcw (vs := [(.int (77 : Int32)), (.int (87 : Int32)), (.int (104 : Int32))]) (z := (3 : Int32)) own_ht_MWh (by decide) rfl (g := (mkF m 44 #[.val (.int p1), .val (.int (3 : Int32)), .val (.ref u3), .val (.int (0 : Int32)), .val (.int (0 : Int32)), .val (.ref s3), .unset] [(.ref s3)])) rfl (hb hby at_44) (n := 12) (by decide) (by decide) (by decide) (by decide)
      have O25 := Old.ext O23 E25
      refine own_preW (B := (T25.setTop (mkF m 46 #[.val (.int p1), .val (.int (3 : Int32)), .val (.ref u3), .val (.int (0 : Int32)), .val (.int (0 : Int32)), .val (.ref s3), .unset] [(.ref lt25), (.ref s3)]))) (fun t kt => ?_) ?_
      · show Steps p.tables e below (T24.setTop (mkF m 44 _ [(.ref s3)])) _
        refine st25 _ ?_
        exact kt
      have hne26 : ¬ (s3 = lt25) := Fld.ne (F_s3.ext O25.2) FL25 (fun q => own_arvne (V_t3.ext O25.2) VL25 (Or.inl (by decide)) (Value.ref.inj q))
      obtain ⟨cq26, kq26, q26a, q26b, q26c⟩ := isOf hZ e25 (E_s3.ext O25.2)
      obtain ⟨_, _, ⟨T26, L26, k26, n26⟩, -, X26, ⟨Lc26, hQ26, l26, y26, z26⟩, st26⟩ := X25.virtualBack hx (y := (⟨"java/lang/String", "equals", "(Ljava/lang/Object;)Z"⟩ : MethodName)) (z := (⟨"java/lang/String", "equals", "(Ljava/lang/Object;)Z"⟩ : MethodName)) hown (mvT hZ (hw _ (List.mem_of_getElem? (i := 28) rfl))) (mvT hZ (hw _ (List.mem_of_getElem? (i := 29) rfl))) (notFace_of_selects (args := #[]) (mvT hZ (hw _ (List.mem_of_getElem? (i := 31) rfl)))) (mvT hZ (hw _ (List.mem_of_getElem? (i := 31) rfl))) (mvT hZ (hw _ (List.mem_of_getElem? (i := 30) rfl))) (by decide) (backOf (W := 0) (rm4_6 l Z a0 hw [] s3 lt25 t3 lb25 _ _ cz h25 n0 (Nat.le_trans (Nat.le_trans Z0 E23.1) E25.1) EL25 (C_s3.ext O25.2) (F_s3.ext O25.2) CL25 FL25 (V_t3.ext O25.2) VL25 S_CS hcs O25 hne26) hZ (hw _ (List.mem_of_getElem? (i := 32) rfl)) (hw _ (List.mem_of_getElem? (i := 21) rfl)) (by decide) (by decide)) q26a q26c (g := (mkF m 46 #[.val (.int p1), .val (.int (3 : Int32)), .val (.ref u3), .val (.int (0 : Int32)), .val (.int (0 : Int32)), .val (.ref s3), .unset] [(.ref lt25), (.ref s3)])) rfl (by rw [hml]; rfl) (Steps.refl _) (argsL := [(.ref lt25)]) (rest := []) (lenOf pd_3 rfl) rfl (by show 2 * 0 + _ ≤ _; exact Nat.le_of_eq rfl) (hb hby at_46) (fun _ _ => ⟨rfl, e25, (by decide : 4 + 0 ≤ _), (by decide : 32 + 0 ≤ _)⟩)
      dsimp only [Pt.U, Pt.locs, Pt.cells, Pt.slots] at X26 l26 y26 z26 st26 hQ26
      subst l26 y26 z26
      obtain ⟨rfl, N26q, e26⟩ := hQ26
      have N26 := Fr.app N24 N26q
      refine own_preW (B := (T26.setTop (mkF m 77 #[.val (.int p1), .val (.int (3 : Int32)), .val (.ref u3), .val (.int (0 : Int32)), .val (.int (0 : Int32)), .val (.ref s3), .val (.int (0 : Int32))] [(.int (1 : Int32))]))) (fun t kt => ?_) ?_
      · refine st26.trans ?_
        show Steps p.tables e below (T26.setTop (mkF m 49 _ [(.int (0 : Int32))])) _
        refine XS.ifYes X26.here hx rfl (pc0 := 49) (pc' := 56) rfl (hb hby at_49) rfl ((if0 _ _).trans (teq (rfl : (0 : Int32) = (0 : Int32))).1) (by decide) (by decide) ?_
        show Steps p.tables e below (T26.setTop (mkF m 56 _ [])) _
        refine XS.iconst X26.here hx rfl (hb hby at_56) ?_
        show Steps p.tables e below (T26.setTop (mkF m 57 _ [(.int (0 : Int32))])) _
        refine XS.istore X26.here hx rfl (hb hby at_57) rfl (l' := #[.val (.int p1), .val (.int (3 : Int32)), .val (.ref u3), .val (.int (0 : Int32)), .val (.int (0 : Int32)), .val (.ref s3), .val (.int (0 : Int32))]) rfl ?_
        show Steps p.tables e below (T26.setTop (mkF m 59 _ [])) _
        refine XS.iload X26.here hx rfl (hb hby at_59) rfl ?_
        show Steps p.tables e below (T26.setTop (mkF m 61 _ [(.int (0 : Int32))])) _
        refine XS.iloadN X26.here hx rfl (hb hby at_61) rfl ?_
        show Steps p.tables e below (T26.setTop (mkF m 62 _ [(.int (0 : Int32)), (.int (0 : Int32))])) _
        refine XS.icmpNo X26.here hx rfl (hb hby at_62) rfl (teq (rfl : (0 : Int32) = (0 : Int32))).2 ?_
        show Steps p.tables e below (T26.setTop (mkF m 65 _ [])) _
        refine XS.iload X26.here hx rfl (hb hby at_65) rfl ?_
        show Steps p.tables e below (T26.setTop (mkF m 67 _ [(.int (0 : Int32))])) _
        refine XS.iload X26.here hx rfl (hb hby at_67) rfl ?_
        show Steps p.tables e below (T26.setTop (mkF m 69 _ [(.int (0 : Int32)), (.int (0 : Int32))])) _
        refine XS.icmpNo X26.here hx rfl (hb hby at_69) rfl (teq (rfl : (0 : Int32) = (0 : Int32))).2 ?_
        show Steps p.tables e below (T26.setTop (mkF m 72 _ [])) _
        refine XS.iconst X26.here hx rfl (hb hby at_72) ?_
        show Steps p.tables e below (T26.setTop (mkF m 73 _ [(.int (1 : Int32))])) _
        refine XS.goto X26.here hx rfl (pc0 := 73) (pc' := 77) rfl (hb hby at_73) (by decide) (by decide) ?_
        exact kt
      exact own_finW X26 hS (some (.int (1 : Int32))) (fun h => by rw [Bd.returns] at h; cases h) (BodyLoose.notSynchronized Bd) e26 hkS (fun fs hr => retN X26 hx (t := .boolean) Bd.returns (by simp) (hb hby at_77) hr) ⟨rfl, N26⟩ (by decide) (by decide)
  exact KJ _ (own_k p1)
set_option maxRecDepth 65536 in
set_option maxHeartbeats 40000000 in
theorem comes_1 {Post : Tables → Env → Array Value → State → Outcome → State → Prop} (hpost : ∀ tb e args s v u, (limb_1_1.after args s (.returned v) u = true ∧ limb_1_2.after args s (.returned v) u = true ∧ True) → ReturnedEndW s (.returned v) u (Jvm.fieldLocs frame_1_writes args s ++ Jvm.arrayLocs frame_1_arrays args s ++ Jvm.staticLocs frame_1_statics s) 8 2112 → Post tb e args s (.returned v) u) :
    ArmFor flags0 classFile x code maxLocals ret World_1 tables_1 room_1 Calls_1 rest_1 Pre_1 Post := by
  intro l hfl _ _ p e ha hc hk s m args below hf hA hF happ hP
  obtain ⟨hcalls, hrest, hpre⟩ := hP
  obtain ⟨-, -, -, hnamed, -, -, -, hat⟩ := (Spec.applies_iff hf).mp happ
  obtain ⟨hg, hn⟩ := and_e (Cond.before_iff.mp (show (Jvm.Cond.and given_1 narrow_1).before args s = true from hpre))
  obtain ⟨gc, gr0⟩ := and_e hg
  obtain ⟨w0, rfl⟩ : ∃ w0 : Value, args = #[w0] := by
    have hs : args.size = 1 := by simpa [Cond.value, given_1] using gc
    obtain ⟨L⟩ := args
    match L, hs with
    | [w0], _ => exact ⟨w0, rfl⟩
  have hw := fun d (hd : d ∈ tables_1) => atoms_spec (ws := Jvm.Cond.code x code maxLocals ret :: tables_1) hat d (List.mem_cons_of_mem _ hd)
  have hfit : Fit s := fun {y c} hc i hi => by
    obtain ⟨ha, rfl⟩ := Array.getElem?_eq_some_iff.mp hc
    have q := List.all_eq_true.mp ((Array.all_eq_true_iff_forall_mem.mp hF) _ (Array.getElem_mem ha)) i (List.mem_range.mpr hi)
    simpa [Array.getElem?_eq_getElem hi] using q
  obtain ⟨hsets, hown0⟩ := atoms_of _ (rest_1_c_eq ▸ (show rest_1_c.before _ s = true from hrest))
  have hr0 := Cond.before_iff.mp hown0
  obtain ⟨i0, ei0⟩ := is_v gr0
  obtain rfl : w0 = (.int i0) := Option.some.inj ei0
  obtain ⟨cn0, cr0⟩ := and_e hn
  obtain ⟨cn1, cr1⟩ := and_e cr0
  obtain ⟨cn2, cr2⟩ := and_e cr1
  obtain ⟨cn3, cr3⟩ := and_e cr2
  obtain ⟨cn4, cr4⟩ := and_e cr3
  obtain ⟨cn5, cr5⟩ := and_e cr4
  obtain ⟨cn6, cr6⟩ := and_e cr5
  obtain ⟨cn7, cr7⟩ := and_e cr6
  obtain ⟨cn8, cr8⟩ := and_e cr7
  obtain ⟨cn9, cr9⟩ := and_e cr8
  obtain ⟨cn10, cr10⟩ := and_e cr9
  obtain ⟨cn11, cr11⟩ := and_e cr10
  obtain ⟨cn12, cr12⟩ := and_e cr11
  obtain ⟨cn13, cr13⟩ := and_e cr12
  obtain ⟨cn14, cr14⟩ := and_e cr13
  obtain ⟨cn15, cr15⟩ := and_e cr14
  obtain ⟨cn16, cr16⟩ := and_e cr15
  obtain ⟨cn17, cr17⟩ := and_e cr16
  obtain ⟨cn18, cr18⟩ := and_e cr17
  obtain ⟨cn19, cr19⟩ := and_e cr18
  obtain ⟨cn20, cr20⟩ := and_e cr19
  obtain ⟨cn21, cr21⟩ := and_e cr20
  obtain ⟨cn22, cr22⟩ := and_e cr21
  obtain ⟨cn23, cr23⟩ := and_e cr22
  obtain ⟨cn24, cr24⟩ := and_e cr23
  obtain ⟨cn25, cr25⟩ := and_e cr24
  obtain ⟨cn26, cr26⟩ := and_e cr25
  obtain ⟨cn27, cr27⟩ := and_e cr26
  obtain ⟨cn28, cr28⟩ := and_e cr27
  obtain ⟨cn29, cr29⟩ := and_e cr28
  obtain ⟨cn30, cr30⟩ := and_e cr29
  obtain ⟨cn31, cr31⟩ := and_e cr30
  obtain ⟨cn32, cr32⟩ := and_e cr31
  obtain ⟨cn33, cr33⟩ := and_e cr32
  obtain ⟨cn34, cr34⟩ := and_e cr33
  obtain ⟨cn35, cr35⟩ := and_e cr34
  obtain ⟨cn36, cr36⟩ := and_e cr35
  obtain ⟨cn37, cr37⟩ := and_e cr36
  obtain ⟨cn38, cr38⟩ := and_e cr37
  obtain ⟨cn39, cr39⟩ := and_e cr38
  obtain ⟨cn40, cr40⟩ := and_e cr39
  obtain ⟨cn41, cr41⟩ := and_e cr40
  obtain ⟨u0, ev0⟩ := exa_v cn0
  have E_u0 := Exa.start ev0 cn0
  have S_0 : Sta s s.heap "com/example/wattlebird/wattlebird/Unit" "PER_KWH" "Lcom/example/wattlebird/wattlebird/Unit;" (.ref u0) := Sta.start ev0 (Or.inr ⟨(hw _ (List.mem_of_getElem? (i := 5) rfl)), (hw _ (List.mem_of_getElem? (i := 6) rfl))⟩)
  obtain ⟨s0, em0⟩ := exa_v cn1
  have E_s0 := Exa.start em0 cn1
  have F_u0 := Fld.start ((fld_at ev0).symm.trans em0)
  have C_s0 := Fld.start ((fld_at em0).symm.trans (own_eqi cn2))
  obtain ⟨t0, et0⟩ := arr_v cn3
  have F_s0 := Fld.start ((fld_at em0).symm.trans et0)
  obtain ⟨ca0, Ar0⟩ := Arr.start et0 cn3
  have ln0 := own_len et0 cn4 Ar0
  have V_t0 : Arv s s.heap t0 ca0.cls .byte (3 : Int32) [(.int (107 : Int32)), (.int (87 : Int32)), (.int (104 : Int32))] (.int 0) := Arv.start hfit Ar0 ln0.1 ln0.2 (by decide) rfl ⟨own_elem et0 cn5 Ar0 rfl, own_elem et0 cn6 Ar0 rfl, own_elem et0 cn7 Ar0 rfl, trivial⟩
  have or0 := Fld.start ((fld_at ev0).symm.trans (own_eqi cn10))
  obtain ⟨u1, ev1⟩ := exa_v cn11
  have E_u1 := Exa.start ev1 cn11
  have S_1 : Sta s s.heap "com/example/wattlebird/wattlebird/Unit" "PER_MWH" "Lcom/example/wattlebird/wattlebird/Unit;" (.ref u1) := Sta.start ev1 (Or.inr ⟨(hw _ (List.mem_of_getElem? (i := 5) rfl)), (hw _ (List.mem_of_getElem? (i := 45) rfl))⟩)
  obtain ⟨s1, em1⟩ := exa_v cn23
  have E_s1 := Exa.start em1 cn23
  have F_u1 := Fld.start ((fld_at ev1).symm.trans em1)
  have C_s1 := Fld.start ((fld_at em1).symm.trans (own_eqi cn24))
  obtain ⟨t1, et1⟩ := arr_v cn25
  have F_s1 := Fld.start ((fld_at em1).symm.trans et1)
  obtain ⟨ca1, Ar1⟩ := Arr.start et1 cn25
  have ln1 := own_len et1 cn26 Ar1
  have V_t1 : Arv s s.heap t1 ca1.cls .byte (3 : Int32) [(.int (77 : Int32)), (.int (87 : Int32)), (.int (104 : Int32))] (.int 0) := Arv.start hfit Ar1 ln1.1 ln1.2 (by decide) rfl ⟨own_elem et1 cn27 Ar1 rfl, own_elem et1 cn28 Ar1 rfl, own_elem et1 cn29 Ar1 rfl, trivial⟩
  have or1 := Fld.start ((fld_at ev1).symm.trans (own_eqi cn12))
  obtain ⟨u2, ev2⟩ := exa_v cn17
  have E_u2 := Exa.start ev2 cn17
  have S_2 : Sta s s.heap "com/example/wattlebird/wattlebird/Unit" "PER_MONTH" "Lcom/example/wattlebird/wattlebird/Unit;" (.ref u2) := Sta.start ev2 (Or.inr ⟨(hw _ (List.mem_of_getElem? (i := 5) rfl)), (hw _ (List.mem_of_getElem? (i := 48) rfl))⟩)
  obtain ⟨s2, em2⟩ := exa_v cn19
  have E_s2 := Exa.start em2 cn19
  have F_u2 := Fld.start ((fld_at ev2).symm.trans em2)
  have C_s2 := Fld.start ((fld_at em2).symm.trans (own_eqi cn20))
  obtain ⟨t2, et2⟩ := arr_v cn21
  have F_s2 := Fld.start ((fld_at em2).symm.trans et2)
  obtain ⟨ca2, Ar2⟩ := Arr.start et2 cn21
  have ln2 := own_len et2 cn22 Ar2
  have V_t2 : Arv s s.heap t2 ca2.cls .byte (5 : Int32) [(.int (109 : Int32)), (.int (111 : Int32)), (.int (110 : Int32)), (.int (116 : Int32)), (.int (104 : Int32))] (.int 0) := Arv.start hfit Ar2 ln2.1 ln2.2 (by decide) rfl ⟨own_elem et2 cn38 Ar2 rfl, own_elem et2 cn39 Ar2 rfl, own_elem et2 cn40 Ar2 rfl, own_elem et2 cn41 Ar2 rfl, own_elem et2 cr41 Ar2 rfl, trivial⟩
  have or2 := Fld.start ((fld_at ev2).symm.trans (own_eqi cn18))
  obtain ⟨u3, ev3⟩ := exa_v cn8
  have E_u3 := Exa.start ev3 cn8
  have S_3 : Sta s s.heap "com/example/wattlebird/wattlebird/Unit" "PER_KW_MONTH" "Lcom/example/wattlebird/wattlebird/Unit;" (.ref u3) := Sta.start ev3 (Or.inr ⟨(hw _ (List.mem_of_getElem? (i := 5) rfl)), (hw _ (List.mem_of_getElem? (i := 43) rfl))⟩)
  obtain ⟨s3, em3⟩ := exa_v cn13
  have E_s3 := Exa.start em3 cn13
  have F_u3 := Fld.start ((fld_at ev3).symm.trans em3)
  have C_s3 := Fld.start ((fld_at em3).symm.trans (own_eqi cn14))
  obtain ⟨t3, et3⟩ := arr_v cn15
  have F_s3 := Fld.start ((fld_at em3).symm.trans et3)
  obtain ⟨ca3, Ar3⟩ := Arr.start et3 cn15
  have ln3 := own_len et3 cn16 Ar3
  have V_t3 : Arv s s.heap t3 ca3.cls .byte (8 : Int32) [(.int (107 : Int32)), (.int (87 : Int32)), (.int (45 : Int32)), (.int (109 : Int32)), (.int (111 : Int32)), (.int (110 : Int32)), (.int (116 : Int32)), (.int (104 : Int32))] (.int 0) := Arv.start hfit Ar3 ln3.1 ln3.2 (by decide) rfl ⟨own_elem et3 cn30 Ar3 rfl, own_elem et3 cn31 Ar3 rfl, own_elem et3 cn32 Ar3 rfl, own_elem et3 cn33 Ar3 rfl, own_elem et3 cn34 Ar3 rfl, own_elem et3 cn35 Ar3 rfl, own_elem et3 cn36 Ar3 rfl, own_elem et3 cn37 Ar3 rfl, trivial⟩
  have or3 := Fld.start ((fld_at ev3).symm.trans (own_eqi cn9))
  have n3 := not_v (Cond.before_iff.mp (hsets _ (List.mem_of_getElem? (i := 2) rfl)))
  obtain ⟨cz, ecz⟩ := is_v (Cond.before_iff.mp (hsets _ (List.mem_of_getElem? (i := 1) rfl)))
  have S_CS : Sta s s.heap "java/lang/String" "COMPACT_STRINGS" "Z" (.int cz) := Sta.start ecz (Or.inl (hsets _ (List.mem_of_getElem? (i := 0) rfl)))
  have hcs : ¬ (cz = (0 : Int32)) := gotF (Cond.eq_ints ecz (Term.int_eval (0))) n3
  obtain ⟨n, o, h1, h2, h3, _, L, rfl, ⟨rfl, N⟩, hq⟩ := rm0 l s _ hw tables_1 i0 cz u0 u1 u2 u3 s0 s1 s2 s3 t0 t1 t2 t3 _ _ _ _ s.heap s.heap.size (Nat.le_refl _) S_CS hcs S_0 S_1 S_2 S_3 (Old.start s) rfl (hsets _ (List.mem_of_getElem? (i := 2) rfl)) (hcalls.1 _ (List.mem_cons_self ..)) (hcalls.1 _ (List.mem_cons_of_mem _ (List.mem_cons_self ..))) E_u0 F_u0 E_s0 C_s0 F_s0 V_t0 E_u1 F_u1 E_s1 C_s1 F_s1 V_t1 E_u2 F_u2 E_s2 C_s2 F_s2 V_t2 E_u3 F_u3 E_s3 C_s3 F_s3 V_t3 (Fld.ne or0 or1 (by decide)) (Fld.ne or1 or0 (by decide)) (Fld.ne or2 or0 (by decide)) (Fld.ne or2 or1 (by decide)) (Fld.ne or3 or0 (by decide)) (Fld.ne or3 or1 (by decide)) p e ha hc hk s m _ below hf ((Spec.applies_iff_loose hf).mp happ).1 ⟨rfl, rfl, rfl⟩ trivial
  refine ⟨n, _, h1, h2, h3, hpost _ _ _ _ _ _ ⟨Cond.after_iff.mpr rfl, Cond.after_iff.mpr (eq_i res_at (Term.int_eval (1)) rfl), trivial⟩ ⟨hq.1, hq.2.1, hq.2.2.1, (hq.2.2.2.sift fun y hy => Or.inr (N y hy)).mono (by decide) (by decide)⟩⟩
theorem main_1_1 : Claimed_1_1 := comes_1 fun _ _ _ _ _ _ h hF => ⟨h.1, hF⟩
theorem main_1_2 : Claimed_1_2 := comes_1 fun _ _ _ _ _ _ h hF => ⟨h.2.1, hF⟩
end Jvm.Pilot.@@N@@
namespace Jvm.Pilot.@@N@@
open Jvm Jvm.ClassFile Sem Op Lib Jvm.Free Jvm.Stand Jvm.Pilot.@@N@@.Jvm.D
/-! MADE BY PROGRAM (witnessworld.py) out of the Statement's table words and the real class files: 18 classes; the members and pool entries that the words name. The judged class is class 1, her method 2. -/
namespace start1
open Jvm.ClassFile
def u (s : String) : CpInfo := .utf8 (stringToUtf16 s)
/-- a pool by its gaps: so many unusable entries, then the entry; so many at the end -/
def gap : Nat → List CpInfo → List CpInfo
  | 0, r => r
  | n + 1, r => .unusable :: gap n r
def poolList (es : List (Nat × CpInfo)) (last : Nat) : List CpInfo := es.foldr (fun e r => gap e.1 (e.2 :: r)) (gap last [])
def pool (es : List (Nat × CpInfo)) (last : Nat) : Array CpInfo := ⟨poolList es last⟩
def fileOf (pool : Array CpInfo) (this : Nat) (attrs : Array Attribute := #[]) (ms : Array MethodInfo := #[]) (fl : Nat := 33) (sup : Nat := 0) (ifs : Array Nat := #[]) (fds : Array FieldInfo := #[]) : ClassFile where
  minorVersion := 0
  majorVersion := 65
  constantPool := pool
  accessFlags := fl
  thisClass := this
  superClass := sup
  interfaces := ifs
  fields := fds
  methods := ms
  attributes := attrs
def plain (name : String) (sup : Option ClassId) : Class where
  name := name
  kind := .ordinary
  loader := none
  accessFlags := 33
  super := sup
  interfaces := #[]
  cf := none
  fields := #[]
  methods := #[]
  instanceTypes := #[]
  staticTypes := #[]
  resolved := #[]
  callSites := []
  init := .initialized
  statics := none
  mirror := none

def pool0 : Array CpInfo := pool [(5, u "<init>"), (0, u "()V"), (1, .class_ 10), (1, u "java/lang/Object")] 113

def k0m0 : Method := { name := "<init>", desc := "()V", sig := { parameters := [], returnType := none }, accessFlags := 1, code := none }
/-- java/lang/Object -/
def k0 : Class := { plain "java/lang/Object" none with
  accessFlags := 33
  interfaces := #[]
  cf := some (fileOf pool0 8 #[] #[{ accessFlags := 1, nameIndex := 5, descriptorIndex := 6, attributes := #[] }] 33 0 #[] #[])
  fields := #[]
  methods := #[k0m0]
  instanceTypes := #[]
  staticTypes := #[]
  resolved := Array.replicate 124 none
  statics := none }

def pool1 : Array CpInfo := pool [(2, .class_ 4), (1, u "java/lang/Object"), (0, u "<init>"), (0, u "()V"), (0, .fieldref 8 9), (0, .class_ 10), (0, .nameAndType 11 12), (0, u "com/example/wattlebird/wattlebird/Unit"), (0, u "PER_KWH"), (0, u "Lcom/example/wattlebird/wattlebird/Unit;"), (0, .fieldref 8 14), (0, .nameAndType 15 12), (0, u "PER_MWH"), (0, .fieldref 8 17), (0, .nameAndType 18 12), (0, u "PER_MONTH"), (0, .fieldref 8 20), (0, .nameAndType 21 12), (0, u "PER_KW_MONTH"), (0, .methodref 23 24), (0, .class_ 25), (0, .nameAndType 26 27), (0, u "com/example/wattlebird/wattlebird/UnitPerEnergyPinLaw"), (0, u "pick"), (0, u "(I)Lcom/example/wattlebird/wattlebird/Unit;"), (0, .methodref 8 29), (0, .nameAndType 30 31), (0, u "perEnergy"), (0, u "()Z"), (0, .methodref 8 33), (0, .nameAndType 34 35), (0, u "measure"), (0, u "()Ljava/lang/String;"), (0, .string 37), (0, u "kWh"), (0, .methodref 39 40), (0, .class_ 41), (0, .nameAndType 42 43), (0, u "java/lang/String"), (0, u "equals"), (0, u "(Ljava/lang/Object;)Z"), (0, .string 45), (0, u "MWh"), (3, u "law"), (0, u "(I)Z")] 2

def k1m0 : Method := { name := "<init>", desc := "()V", sig := { parameters := [], returnType := none }, accessFlags := 2, code := none }
def k1c1 : Code := { maxStack := 2, maxLocals := 1, code := method_2_code, exceptionTable := #[], attributes := #[] }
def k1m1 : Method := { name := "pick", desc := "(I)Lcom/example/wattlebird/wattlebird/Unit;", sig := { parameters := [.int], returnType := some (.object "com/example/wattlebird/wattlebird/Unit") }, accessFlags := 10, code := some k1c1 }
def k1c2 : Code := { maxStack := 2, maxLocals := 7, code := code, exceptionTable := #[], attributes := #[] }
def k1m2 : Method := { name := "law", desc := "(I)Z", sig := { parameters := [.int], returnType := some .boolean }, accessFlags := 9, code := some k1c2 }
/-- com/example/wattlebird/wattlebird/UnitPerEnergyPinLaw -/
def k1 : Class := { plain "com/example/wattlebird/wattlebird/UnitPerEnergyPinLaw" (some 0) with
  accessFlags := 49
  interfaces := #[]
  cf := some (fileOf pool1 23 #[] #[{ accessFlags := 2, nameIndex := 5, descriptorIndex := 6, attributes := #[] }, { accessFlags := 10, nameIndex := 26, descriptorIndex := 27, attributes := #[] }, { accessFlags := 9, nameIndex := 49, descriptorIndex := 50, attributes := #[] }] 49 2 #[] #[])
  fields := #[]
  methods := #[k1m0, k1m1, k1m2]
  instanceTypes := #[]
  staticTypes := #[]
  resolved := Array.replicate 53 none
  statics := none }

def pool2 : Array CpInfo := pool [(1, .class_ 2), (0, u "java/lang/constant/Constable"), (0, .class_ 4), (0, u "java/lang/Object")] 6

/-- java/lang/constant/Constable -/
def k2 : Class := { plain "java/lang/constant/Constable" (some 0) with
  accessFlags := 1537
  interfaces := #[]
  cf := some (fileOf pool2 1 #[] #[] 1537 3 #[] #[])
  fields := #[]
  methods := #[]
  instanceTypes := #[]
  staticTypes := #[]
  resolved := Array.replicate 11 none
  statics := none }

def pool3 : Array CpInfo := pool [(1, .class_ 2), (0, u "java/lang/Comparable"), (0, .class_ 4), (0, u "java/lang/Object")] 7

/-- java/lang/Comparable -/
def k3 : Class := { plain "java/lang/Comparable" (some 0) with
  accessFlags := 1537
  interfaces := #[]
  cf := some (fileOf pool3 1 #[] #[] 1537 3 #[] #[])
  fields := #[]
  methods := #[]
  instanceTypes := #[]
  staticTypes := #[]
  resolved := Array.replicate 12 none
  statics := none }

def pool4 : Array CpInfo := pool [(1, .class_ 2), (0, u "java/io/Serializable"), (0, .class_ 4), (0, u "java/lang/Object")] 2

/-- java/io/Serializable -/
def k4 : Class := { plain "java/io/Serializable" (some 0) with
  accessFlags := 1537
  interfaces := #[]
  cf := some (fileOf pool4 1 #[] #[] 1537 3 #[] #[])
  fields := #[]
  methods := #[]
  instanceTypes := #[]
  staticTypes := #[]
  resolved := Array.replicate 7 none
  statics := none }

def pool5 : Array CpInfo := pool [(2, .class_ 4), (1, u "java/lang/Enum"), (0, u "name"), (0, u "Ljava/lang/String;"), (2, u "ordinal"), (0, u "I"), (1, .class_ 14), (1, u "java/lang/Object"), (4, u "hash"), (86, .class_ 108), (1, u "java/lang/Enum$EnumDesc"), (2, .class_ 112), (0, u "java/lang/constant/Constable"), (0, .class_ 114), (0, u "java/lang/Comparable"), (0, .class_ 116), (0, u "java/io/Serializable")] 87

/-- java/lang/Enum -/
def k5 : Class := { plain "java/lang/Enum" (some 0) with
  accessFlags := 1057
  interfaces := #[2, 3, 4]
  cf := some (fileOf pool5 2 #[.nestMembers #[106]] #[] 1057 12 #[111, 113, 115] #[{ accessFlags := 18, nameIndex := 5, descriptorIndex := 6, attributes := #[] }, { accessFlags := 18, nameIndex := 9, descriptorIndex := 10, attributes := #[] }, { accessFlags := 2, nameIndex := 19, descriptorIndex := 10, attributes := #[] }])
  fields := #[{ name := "name", type := (.object "java/lang/String"), accessFlags := 18, slot := 0, constantValue := 0 }, { name := "ordinal", type := .int, accessFlags := 18, slot := 1, constantValue := 0 }, { name := "hash", type := .int, accessFlags := 2, slot := 2, constantValue := 0 }]
  methods := #[]
  instanceTypes := #[(.object "java/lang/String"), .int, .int]
  staticTypes := #[]
  resolved := Array.replicate 204 none
  statics := none }

def pool6 : Array CpInfo := pool [(1, .class_ 2), (0, u "com/example/wattlebird/wattlebird/Unit"), (0, .fieldref 1 4), (0, .nameAndType 5 6), (0, u "PER_KWH"), (0, u "Lcom/example/wattlebird/wattlebird/Unit;"), (0, .fieldref 1 8), (0, .nameAndType 9 6), (0, u "PER_MWH"), (2, u "PER_MONTH"), (2, u "PER_KW_MONTH"), (2, u "$VALUES"), (0, u "[Lcom/example/wattlebird/wattlebird/Unit;"), (6, .class_ 28), (1, u "java/lang/Enum"), (8, u "label"), (0, u "Ljava/lang/String;"), (0, .fieldref 1 40), (0, .nameAndType 41 38), (0, u "measure"), (71, u "()Ljava/lang/String;"), (2, u "perEnergy"), (0, u "()Z")] 22

def k6c0 : Code := { maxStack := 1, maxLocals := 1, code := prog_90_method_5_code, exceptionTable := #[], attributes := #[] }
def k6m0 : Method := { name := "measure", desc := "()Ljava/lang/String;", sig := { parameters := [], returnType := some (.object "java/lang/String") }, accessFlags := 1, code := some k6c0 }
def k6c1 : Code := { maxStack := 2, maxLocals := 1, code := prog_90_method_7_code, exceptionTable := #[], attributes := #[] }
def k6m1 : Method := { name := "perEnergy", desc := "()Z", sig := { parameters := [], returnType := some .boolean }, accessFlags := 1, code := some k6c1 }
/-- com/example/wattlebird/wattlebird/Unit -/
def k6 : Class := { plain "com/example/wattlebird/wattlebird/Unit" (some 5) with
  accessFlags := 16433
  interfaces := #[]
  cf := some (fileOf pool6 1 #[] #[{ accessFlags := 1, nameIndex := 41, descriptorIndex := 113, attributes := #[] }, { accessFlags := 1, nameIndex := 116, descriptorIndex := 117, attributes := #[] }] 16433 26 #[] #[{ accessFlags := 16409, nameIndex := 5, descriptorIndex := 6, attributes := #[] }, { accessFlags := 16409, nameIndex := 9, descriptorIndex := 6, attributes := #[] }, { accessFlags := 16409, nameIndex := 12, descriptorIndex := 6, attributes := #[] }, { accessFlags := 16409, nameIndex := 15, descriptorIndex := 6, attributes := #[] }, { accessFlags := 18, nameIndex := 37, descriptorIndex := 38, attributes := #[] }, { accessFlags := 18, nameIndex := 41, descriptorIndex := 38, attributes := #[] }, { accessFlags := 4122, nameIndex := 18, descriptorIndex := 19, attributes := #[] }])
  fields := #[{ name := "PER_KWH", type := (.object "com/example/wattlebird/wattlebird/Unit"), accessFlags := 16409, slot := 0, constantValue := 0 }, { name := "PER_MWH", type := (.object "com/example/wattlebird/wattlebird/Unit"), accessFlags := 16409, slot := 1, constantValue := 0 }, { name := "PER_MONTH", type := (.object "com/example/wattlebird/wattlebird/Unit"), accessFlags := 16409, slot := 2, constantValue := 0 }, { name := "PER_KW_MONTH", type := (.object "com/example/wattlebird/wattlebird/Unit"), accessFlags := 16409, slot := 3, constantValue := 0 }, { name := "label", type := (.object "java/lang/String"), accessFlags := 18, slot := 3, constantValue := 0 }, { name := "measure", type := (.object "java/lang/String"), accessFlags := 18, slot := 4, constantValue := 0 }, { name := "$VALUES", type := (.array (.object "com/example/wattlebird/wattlebird/Unit")), accessFlags := 4122, slot := 4, constantValue := 0 }]
  methods := #[k6m0, k6m1]
  instanceTypes := #[(.object "java/lang/String"), .int, .int, (.object "java/lang/String"), (.object "java/lang/String")]
  staticTypes := #[(.object "com/example/wattlebird/wattlebird/Unit"), (.object "com/example/wattlebird/wattlebird/Unit"), (.object "com/example/wattlebird/wattlebird/Unit"), (.object "com/example/wattlebird/wattlebird/Unit"), (.array (.object "com/example/wattlebird/wattlebird/Unit"))]
  resolved := Array.replicate 140 none
  statics := some 0 }

def pool7 : Array CpInfo := pool [(2, .class_ 4), (1, u "java/lang/CharSequence"), (42, .class_ 48), (0, u "java/lang/CharSequence$1CodePointIterator"), (10, .class_ 60), (0, u "java/lang/CharSequence$1CharIterator"), (5, .class_ 67), (0, u "java/lang/Object")] 63

/-- java/lang/CharSequence -/
def k7 : Class := { plain "java/lang/CharSequence" (some 0) with
  accessFlags := 1537
  interfaces := #[]
  cf := some (fileOf pool7 2 #[.nestMembers #[47, 59]] #[] 1537 66 #[] #[])
  fields := #[]
  methods := #[]
  instanceTypes := #[]
  staticTypes := #[]
  resolved := Array.replicate 131 none
  statics := none }

def pool8 : Array CpInfo := pool [(1, .class_ 2), (0, u "java/lang/constant/ConstantDesc"), (0, .class_ 4), (0, u "java/lang/Object")] 32

/-- java/lang/constant/ConstantDesc -/
def k8 : Class := { plain "java/lang/constant/ConstantDesc" (some 0) with
  accessFlags := 1537
  interfaces := #[]
  cf := some (fileOf pool8 1 #[] #[] 1537 3 #[] #[])
  fields := #[]
  methods := #[]
  instanceTypes := #[]
  staticTypes := #[]
  resolved := Array.replicate 37 none
  statics := none }

def pool9 : Array CpInfo := pool [(2, .class_ 4), (1, u "java/lang/Object"), (0, u "<init>"), (0, u "()V"), (2, .fieldref 10 11), (0, .class_ 12), (0, .nameAndType 13 14), (0, u "java/lang/String"), (0, u "value"), (0, u "[B"), (0, .fieldref 10 16), (0, .nameAndType 17 18), (0, u "coder"), (0, u "B"), (2, u "hash"), (0, u "I"), (2, u "hashIsZero"), (0, u "Z"), (11, .fieldref 10 39), (0, .nameAndType 40 26), (0, u "COMPACT_STRINGS"), (66, .class_ 109), (1, u "java/lang/StringLatin1"), (431, .methodref 107 542), (0, .nameAndType 543 544), (0, u "equals"), (0, u "([B[B)Z"), (28, u "(Ljava/lang/Object;)Z"), (1, .class_ 576), (0, u "java/lang/CharSequence"), (22, u "CASE_INSENSITIVE_ORDER"), (0, u "Ljava/util/Comparator;"), (500, u "serialPersistentFields"), (0, u "[Ljava/io/ObjectStreamField;"), (0, .class_ 1104), (0, u "java/lang/String$CaseInsensitiveComparator"), (1, .class_ 1107), (0, u "java/io/Serializable"), (0, .class_ 1109), (0, u "java/lang/Comparable"), (0, .class_ 1111), (0, u "java/lang/constant/Constable"), (0, .class_ 1113), (0, u "java/lang/constant/ConstantDesc"), (2, u "serialVersionUID"), (0, u "J"), (3, u "REPL"), (0, u "C"), (2, u "LATIN1"), (1, u "UTF16")] 323

def k9m0 : Method := { name := "<init>", desc := "()V", sig := { parameters := [], returnType := none }, accessFlags := 1, code := none }
def k9c1 : Code := { maxStack := 2, maxLocals := 3, code := jdk_42_method_66_code, exceptionTable := #[], attributes := #[] }
def k9m1 : Method := { name := "equals", desc := "(Ljava/lang/Object;)Z", sig := { parameters := [(.object "java/lang/Object")], returnType := some .boolean }, accessFlags := 1, code := some k9c1 }
/-- java/lang/String -/
def k9 : Class := { plain "java/lang/String" (some 0) with
  accessFlags := 49
  interfaces := #[4, 3, 7, 2, 8]
  cf := some (fileOf pool9 10 #[.nestMembers #[1103]] #[{ accessFlags := 1, nameIndex := 5, descriptorIndex := 6, attributes := #[] }, { accessFlags := 1, nameIndex := 543, descriptorIndex := 573, attributes := #[] }] 49 2 #[1106, 1108, 575, 1110, 1112] #[{ accessFlags := 18, nameIndex := 13, descriptorIndex := 14, attributes := #[] }, { accessFlags := 18, nameIndex := 17, descriptorIndex := 18, attributes := #[] }, { accessFlags := 2, nameIndex := 21, descriptorIndex := 22, attributes := #[] }, { accessFlags := 2, nameIndex := 25, descriptorIndex := 26, attributes := #[] }, { accessFlags := 26, nameIndex := 1116, descriptorIndex := 1117, attributes := #[] }, { accessFlags := 24, nameIndex := 40, descriptorIndex := 26, attributes := #[] }, { accessFlags := 26, nameIndex := 1101, descriptorIndex := 1102, attributes := #[] }, { accessFlags := 26, nameIndex := 1121, descriptorIndex := 1122, attributes := #[] }, { accessFlags := 25, nameIndex := 599, descriptorIndex := 600, attributes := #[] }, { accessFlags := 24, nameIndex := 1125, descriptorIndex := 18, attributes := #[] }, { accessFlags := 24, nameIndex := 1127, descriptorIndex := 18, attributes := #[] }])
  fields := #[{ name := "value", type := (.array .byte), accessFlags := 18, slot := 0, constantValue := 0 }, { name := "coder", type := .byte, accessFlags := 18, slot := 1, constantValue := 0 }, { name := "hash", type := .int, accessFlags := 2, slot := 2, constantValue := 0 }, { name := "hashIsZero", type := .boolean, accessFlags := 2, slot := 3, constantValue := 0 }, { name := "serialVersionUID", type := .long, accessFlags := 26, slot := 0, constantValue := 0 }, { name := "COMPACT_STRINGS", type := .boolean, accessFlags := 24, slot := 1, constantValue := 0 }, { name := "serialPersistentFields", type := (.array (.object "java/io/ObjectStreamField")), accessFlags := 26, slot := 2, constantValue := 0 }, { name := "REPL", type := .char, accessFlags := 26, slot := 3, constantValue := 0 }, { name := "CASE_INSENSITIVE_ORDER", type := (.object "java/util/Comparator"), accessFlags := 25, slot := 4, constantValue := 0 }, { name := "LATIN1", type := .byte, accessFlags := 24, slot := 5, constantValue := 0 }, { name := "UTF16", type := .byte, accessFlags := 24, slot := 6, constantValue := 0 }]
  methods := #[k9m0, k9m1]
  instanceTypes := #[(.array .byte), .byte, .int, .boolean]
  staticTypes := #[.long, .boolean, (.array (.object "java/io/ObjectStreamField")), .char, (.object "java/util/Comparator"), .byte, .byte]
  resolved := Array.replicate 1451 none
  statics := some 1 }

def pool10 : Array CpInfo := pool [(4, .class_ 6), (1, u "java/lang/Object"), (0, u "<init>"), (0, u "()V"), (5, .class_ 16), (1, u "java/lang/StringLatin1"), (104, u "$assertionsDisabled"), (0, u "Z"), (98, .class_ 223), (1, u "java/lang/StringLatin1$LinesSpliterator"), (57, u "equals"), (0, u "([B[B)Z"), (107, .class_ 391), (0, u "java/lang/StringLatin1$CharsSpliterator")] 3

def k10m0 : Method := { name := "<init>", desc := "()V", sig := { parameters := [], returnType := none }, accessFlags := 0, code := none }
def k10c1 : Code := { maxStack := 3, maxLocals := 3, code := jdk_43_method_13_code, exceptionTable := #[], attributes := #[] }
def k10m1 : Method := { name := "equals", desc := "([B[B)Z", sig := { parameters := [(.array .byte), (.array .byte)], returnType := some .boolean }, accessFlags := 9, code := some k10c1 }
/-- java/lang/StringLatin1 -/
def k10 : Class := { plain "java/lang/StringLatin1" (some 0) with
  accessFlags := 48
  interfaces := #[]
  cf := some (fileOf pool10 14 #[.nestMembers #[390, 221]] #[{ accessFlags := 0, nameIndex := 7, descriptorIndex := 8, attributes := #[] }, { accessFlags := 9, nameIndex := 281, descriptorIndex := 282, attributes := #[] }] 48 4 #[] #[{ accessFlags := 4120, nameIndex := 121, descriptorIndex := 122, attributes := #[] }])
  fields := #[{ name := "$assertionsDisabled", type := .boolean, accessFlags := 4120, slot := 0, constantValue := 0 }]
  methods := #[k10m0, k10m1]
  instanceTypes := #[]
  staticTypes := #[.boolean]
  resolved := Array.replicate 395 none
  statics := none }

def pool11 : Array CpInfo := pool [(2, .class_ 4), (1, u "java/lang/Object"), (0, u "<init>"), (0, u "()V"), (17, .class_ 26), (1, u "jdk/internal/util/Preconditions"), (28, .class_ 56), (0, u "jdk/internal/util/Preconditions$4"), (57, .class_ 115), (0, u "jdk/internal/util/Preconditions$1"), (7, u "SIOOBE_FORMATTER"), (0, u "Ljava/util/function/BiFunction;"), (0, .class_ 126), (0, u "jdk/internal/util/Preconditions$2"), (3, u "AIOOBE_FORMATTER"), (0, .class_ 132), (0, u "jdk/internal/util/Preconditions$3"), (3, u "IOOBE_FORMATTER")] 57

def k11m0 : Method := { name := "<init>", desc := "()V", sig := { parameters := [], returnType := none }, accessFlags := 1, code := none }
/-- jdk/internal/util/Preconditions -/
def k11 : Class := { plain "jdk/internal/util/Preconditions" (some 0) with
  accessFlags := 33
  interfaces := #[]
  cf := some (fileOf pool11 24 #[.nestMembers #[55, 131, 125, 114]] #[{ accessFlags := 1, nameIndex := 5, descriptorIndex := 6, attributes := #[] }] 33 2 #[] #[{ accessFlags := 25, nameIndex := 123, descriptorIndex := 124, attributes := #[] }, { accessFlags := 25, nameIndex := 130, descriptorIndex := 124, attributes := #[] }, { accessFlags := 25, nameIndex := 136, descriptorIndex := 124, attributes := #[] }])
  fields := #[{ name := "SIOOBE_FORMATTER", type := (.object "java/util/function/BiFunction"), accessFlags := 25, slot := 0, constantValue := 0 }, { name := "AIOOBE_FORMATTER", type := (.object "java/util/function/BiFunction"), accessFlags := 25, slot := 1, constantValue := 0 }, { name := "IOOBE_FORMATTER", type := (.object "java/util/function/BiFunction"), accessFlags := 25, slot := 2, constantValue := 0 }]
  methods := #[k11m0]
  instanceTypes := #[]
  staticTypes := #[(.object "java/util/function/BiFunction"), (.object "java/util/function/BiFunction"), (.object "java/util/function/BiFunction")]
  resolved := Array.replicate 194 none
  statics := some 2 }

def pool12 : Array CpInfo := pool [(9, u "<init>"), (6, .class_ 18), (1, u "java/lang/Object"), (0, u "()V"), (1, .class_ 23), (1, u "jdk/internal/util/ArraysSupport"), (0, u "LOG2_ARRAY_LONG_INDEX_SCALE"), (0, u "I"), (2, u "U"), (0, u "Ljdk/internal/misc/Unsafe;"), (8, u "BIG_ENDIAN"), (0, u "Z"), (8, u "LOG2_BYTE_BIT_SIZE"), (4, u "LOG2_ARRAY_INT_INDEX_SCALE"), (54, u "JLA"), (0, u "Ljdk/internal/access/JavaLangAccess;"), (11, u "LOG2_ARRAY_BOOLEAN_INDEX_SCALE"), (9, u "LOG2_ARRAY_BYTE_INDEX_SCALE"), (5, u "LOG2_ARRAY_CHAR_INDEX_SCALE"), (5, u "LOG2_ARRAY_SHORT_INDEX_SCALE"), (18, u "LOG2_ARRAY_FLOAT_INDEX_SCALE"), (24, u "LOG2_ARRAY_DOUBLE_INDEX_SCALE"), (89, u "T_BOOLEAN"), (2, u "T_CHAR"), (1, u "T_FLOAT"), (1, u "T_DOUBLE"), (1, u "T_BYTE"), (1, u "T_SHORT"), (1, u "T_INT"), (1, u "T_LONG"), (1, u "SOFT_MAX_ARRAY_LENGTH")] 83

def k12m0 : Method := { name := "<init>", desc := "()V", sig := { parameters := [], returnType := none }, accessFlags := 2, code := none }
/-- jdk/internal/util/ArraysSupport -/
def k12 : Class := { plain "jdk/internal/util/ArraysSupport" (some 0) with
  accessFlags := 33
  interfaces := #[]
  cf := some (fileOf pool12 21 #[] #[{ accessFlags := 2, nameIndex := 9, descriptorIndex := 19, attributes := #[] }] 33 16 #[] #[{ accessFlags := 24, nameIndex := 28, descriptorIndex := 29, attributes := #[] }, { accessFlags := 26, nameIndex := 38, descriptorIndex := 39, attributes := #[] }, { accessFlags := 25, nameIndex := 121, descriptorIndex := 25, attributes := #[] }, { accessFlags := 25, nameIndex := 131, descriptorIndex := 25, attributes := #[] }, { accessFlags := 25, nameIndex := 137, descriptorIndex := 25, attributes := #[] }, { accessFlags := 25, nameIndex := 143, descriptorIndex := 25, attributes := #[] }, { accessFlags := 25, nameIndex := 53, descriptorIndex := 25, attributes := #[] }, { accessFlags := 25, nameIndex := 24, descriptorIndex := 25, attributes := #[] }, { accessFlags := 25, nameIndex := 162, descriptorIndex := 25, attributes := #[] }, { accessFlags := 25, nameIndex := 187, descriptorIndex := 25, attributes := #[] }, { accessFlags := 26, nameIndex := 48, descriptorIndex := 25, attributes := #[] }, { accessFlags := 25, nameIndex := 277, descriptorIndex := 25, attributes := #[] }, { accessFlags := 25, nameIndex := 280, descriptorIndex := 25, attributes := #[] }, { accessFlags := 25, nameIndex := 282, descriptorIndex := 25, attributes := #[] }, { accessFlags := 25, nameIndex := 284, descriptorIndex := 25, attributes := #[] }, { accessFlags := 25, nameIndex := 286, descriptorIndex := 25, attributes := #[] }, { accessFlags := 25, nameIndex := 288, descriptorIndex := 25, attributes := #[] }, { accessFlags := 25, nameIndex := 290, descriptorIndex := 25, attributes := #[] }, { accessFlags := 25, nameIndex := 292, descriptorIndex := 25, attributes := #[] }, { accessFlags := 26, nameIndex := 108, descriptorIndex := 109, attributes := #[] }, { accessFlags := 25, nameIndex := 294, descriptorIndex := 25, attributes := #[] }])
  fields := #[{ name := "U", type := (.object "jdk/internal/misc/Unsafe"), accessFlags := 24, slot := 0, constantValue := 0 }, { name := "BIG_ENDIAN", type := .boolean, accessFlags := 26, slot := 1, constantValue := 0 }, { name := "LOG2_ARRAY_BOOLEAN_INDEX_SCALE", type := .int, accessFlags := 25, slot := 2, constantValue := 0 }, { name := "LOG2_ARRAY_BYTE_INDEX_SCALE", type := .int, accessFlags := 25, slot := 3, constantValue := 0 }, { name := "LOG2_ARRAY_CHAR_INDEX_SCALE", type := .int, accessFlags := 25, slot := 4, constantValue := 0 }, { name := "LOG2_ARRAY_SHORT_INDEX_SCALE", type := .int, accessFlags := 25, slot := 5, constantValue := 0 }, { name := "LOG2_ARRAY_INT_INDEX_SCALE", type := .int, accessFlags := 25, slot := 6, constantValue := 0 }, { name := "LOG2_ARRAY_LONG_INDEX_SCALE", type := .int, accessFlags := 25, slot := 7, constantValue := 0 }, { name := "LOG2_ARRAY_FLOAT_INDEX_SCALE", type := .int, accessFlags := 25, slot := 8, constantValue := 0 }, { name := "LOG2_ARRAY_DOUBLE_INDEX_SCALE", type := .int, accessFlags := 25, slot := 9, constantValue := 0 }, { name := "LOG2_BYTE_BIT_SIZE", type := .int, accessFlags := 26, slot := 10, constantValue := 0 }, { name := "T_BOOLEAN", type := .int, accessFlags := 25, slot := 11, constantValue := 0 }, { name := "T_CHAR", type := .int, accessFlags := 25, slot := 12, constantValue := 0 }, { name := "T_FLOAT", type := .int, accessFlags := 25, slot := 13, constantValue := 0 }, { name := "T_DOUBLE", type := .int, accessFlags := 25, slot := 14, constantValue := 0 }, { name := "T_BYTE", type := .int, accessFlags := 25, slot := 15, constantValue := 0 }, { name := "T_SHORT", type := .int, accessFlags := 25, slot := 16, constantValue := 0 }, { name := "T_INT", type := .int, accessFlags := 25, slot := 17, constantValue := 0 }, { name := "T_LONG", type := .int, accessFlags := 25, slot := 18, constantValue := 0 }, { name := "JLA", type := (.object "jdk/internal/access/JavaLangAccess"), accessFlags := 26, slot := 19, constantValue := 0 }, { name := "SOFT_MAX_ARRAY_LENGTH", type := .int, accessFlags := 25, slot := 20, constantValue := 0 }]
  methods := #[k12m0]
  instanceTypes := #[]
  staticTypes := #[(.object "jdk/internal/misc/Unsafe"), .boolean, .int, .int, .int, .int, .int, .int, .int, .int, .int, .int, .int, .int, .int, .int, .int, .int, .int, (.object "jdk/internal/access/JavaLangAccess"), .int]
  resolved := Array.replicate 378 none
  statics := none }

def pool13 : Array CpInfo := pool [(1, u "java/lang/Cloneable"), (0, .class_ 1), (0, u "java/lang/Object"), (0, .class_ 3)] 3

/-- java/lang/Cloneable -/
def k13 : Class := { plain "java/lang/Cloneable" (some 0) with
  accessFlags := 1537
  interfaces := #[]
  cf := some (fileOf pool13 2 #[] #[] 1537 4 #[] #[])
  fields := #[]
  methods := #[]
  instanceTypes := #[]
  staticTypes := #[]
  resolved := Array.replicate 8 none
  statics := none }

/-- the primitive byte -/
def k14 : Class := { plain "byte" none with kind := .primitive 'B', accessFlags := 0x411 }
/-- [B -/
def k15 : Class := { plain "[B" (some 0) with kind := .array 14 .byte, interfaces := #[13, 4], accessFlags := 1041 }

/-- the primitive int -/
def k16 : Class := { plain "int" none with kind := .primitive 'I', accessFlags := 0x411 }
/-- [I -/
def k17 : Class := { plain "[I" (some 0) with kind := .array 16 .int, interfaces := #[13, 4], accessFlags := 1041 }

def heap : Heap := #[{ cls := 6, slots := #[.ref 11, .ref 12, .ref 13, .ref 14, .null], vm := .statics 6 },
  { cls := 9, slots := #[.long 0, .int 1, .null, .int 0, .null, .int 0, .int 0], vm := .statics 9 },
  { cls := 11, slots := #[.null, .null, .null], vm := .statics 11 },
  { cls := 15, slots := #[.int 107, .int 87, .int 104], vm := .none },
  { cls := 15, slots := #[.int 77, .int 87, .int 104], vm := .none },
  { cls := 15, slots := #[.int 109, .int 111, .int 110, .int 116, .int 104], vm := .none },
  { cls := 15, slots := #[.int 107, .int 87, .int 45, .int 109, .int 111, .int 110, .int 116, .int 104], vm := .none },
  { cls := 9, slots := #[.ref 3, .int 0, .int 0, .int 0], vm := .none },
  { cls := 9, slots := #[.ref 4, .int 0, .int 0, .int 0], vm := .none },
  { cls := 9, slots := #[.ref 5, .int 0, .int 0, .int 0], vm := .none },
  { cls := 9, slots := #[.ref 6, .int 0, .int 0, .int 0], vm := .none },
  { cls := 6, slots := #[.null, .int 0, .int 0, .null, .ref 7], vm := .none },
  { cls := 6, slots := #[.null, .int 1, .int 0, .null, .ref 8], vm := .none },
  { cls := 6, slots := #[.null, .int 2, .int 0, .null, .ref 9], vm := .none },
  { cls := 6, slots := #[.null, .int 3, .int 0, .null, .ref 10], vm := .none }]
def classes : Array Class := #[k0, k1, k2, k3, k4, k5, k6, k7, k8, k9, k10, k11, k12, k13, k14, k15, k16, k17]
def interned : List (Array UInt16 × Addr) := []
def slotsUsed : Nat := 70
def theMethod : MethodId := ⟨1, 2⟩
def args0 : Array Value := #[.int 5]
def aboutOver (below : List Frame) : State where
  vm := { classes := classes, interned := interned.toArray }
  heap := heap
  slotsUsed := slotsUsed
  threads := #[{ frames := .invoking theMethod args0 :: below }]
def below0 : List Frame := [.native { method := ⟨0, 0⟩, args := #[] }]
def about1 : State := aboutOver below0
def p0 : Program := .bare "" "" ""
def e0 : Env := launch0.env 0 0 0
theorem w_frames : about1.frames = Frame.invoking theMethod args0 :: below0 := rfl
set_option maxRecDepth 65536 in
theorem w_args : argsFit about1.vm theMethod args0 = true := by decide +kernel
set_option maxRecDepth 65536 in
theorem w_heap : heapFits about1 = true := by decide +kernel
set_option maxRecDepth 65536 in
theorem w_runnable : about1.curStatus? = some .runnable := by decide +kernel
set_option maxRecDepth 65536 in
theorem w_alone : about1.alone = true := by decide +kernel
set_option maxRecDepth 65536 in
theorem w_named : about1.methodNamed? x = some theMethod := by decide +kernel
set_option maxRecDepth 65536 in
theorem w_hears : about1.hears theMethod below0 = true := by decide +kernel
set_option maxRecDepth 65536 in
theorem w_ripe : about1.ripe theMethod args0 below0 = true := by decide +kernel
theorem w_running : about1.status = .running := rfl
set_option maxRecDepth 65536 in
theorem w_room : about1.hasRoom e0.platform room_1 = true :=
  launch0.hasRoom_least _ room_1 (by decide +kernel) (by decide +kernel) (by decide +kernel) (by decide +kernel) (by decide +kernel) (by decide +kernel)
theorem allAtoms_all (ts : List Jvm.Cond) (a : Array Jvm.Value) (st : Jvm.State) : (allAtoms ts).before a st = ts.all (fun c => c.before a st) := by
  induction ts with
  | nil => rfl
  | cons c t ih =>
    show (Jvm.Cond.and c (allAtoms t)).before a st = _
    rw [Jvm.Cond.before_and, ih, List.all_cons]
def words1 : List Jvm.Cond := Jvm.Cond.code x code maxLocals ret :: tables_1
/-- a 'code' word, met by the world's own term for the bytes: nothing is compared byte by byte -/
theorem code_word {y : MethodName} {bytes : ByteArray} {mx : Nat} {rt : Option FieldType} {a : Array Value} {s : State} {m : MethodId} {meth : Method} {c : Code} (h1 : s.methodNamed? y = some m) (h2 : s.vm.method? m = some meth) (h3 : meth.code = some c) (h4 : c.code = bytes)
    (h5 : (c.maxLocals == mx && c.exceptionTable.isEmpty && decide (c.maxStack ≤ mostOperands) && decide (meth.sig.returnType = rt) && !meth.locks && decide (parseMethodDescriptor y.desc = some meth.sig)) = true) : (Jvm.Cond.code y bytes mx rt).before a s = true := by
  simp only [Bool.and_eq_true, beq_iff_eq, Bool.not_eq_true', decide_eq_true_eq] at h5
  obtain ⟨⟨⟨⟨⟨g1, g2⟩, g3⟩, g4⟩, g5⟩, g6⟩ := h5
  simp [Cond.before, Cond.holds, Cond.value, h1, h2, h3, h4, g1, g2, g3, g4, g5, g6]
def isCode : Jvm.Cond → Bool
  | .code _ _ _ _ => true
  | _ => false
theorem all_split {L : List Jvm.Cond} {P : Jvm.Cond → Bool} (h1 : L.all (fun c => isCode c || P c) = true) (h2 : ∀ c ∈ L.filter isCode, P c = true) : L.all P = true := by
  refine List.all_eq_true.mpr fun c hc => ?_
  have h := List.all_eq_true.mp h1 c hc
  rcases Bool.eq_false_or_eq_true (isCode c) with hi | hi
  · exact h2 c (List.mem_filter.mpr ⟨hc, hi⟩)
  · simpa [hi] using h
set_option maxRecDepth 65536 in
theorem w_c0 : (Jvm.Cond.code x code maxLocals ret).before args0 about1 = true := code_word (m := ⟨1, 2⟩) (meth := k1m2) (c := k1c2) (by decide +kernel) rfl rfl rfl (by decide +kernel)
set_option maxRecDepth 65536 in
theorem w_c1 : (Jvm.Cond.code ({ cls := "com/example/wattlebird/wattlebird/UnitPerEnergyPinLaw", name := "pick", desc := "(I)Lcom/example/wattlebird/wattlebird/Unit;" } : Jvm.MethodName) method_2_code (1 : Nat) (Option.some (Jvm.ClassFile.FieldType.object "com/example/wattlebird/wattlebird/Unit"))).before args0 about1 = true := code_word (m := ⟨1, 1⟩) (meth := k1m1) (c := k1c1) (by decide +kernel) rfl rfl rfl (by decide +kernel)
set_option maxRecDepth 65536 in
theorem w_c2 : (Jvm.Cond.code ({ cls := "com/example/wattlebird/wattlebird/Unit", name := "perEnergy", desc := "()Z" } : Jvm.MethodName) prog_90_method_7_code (1 : Nat) (Option.some Jvm.ClassFile.FieldType.boolean)).before args0 about1 = true := code_word (m := ⟨6, 1⟩) (meth := k6m1) (c := k6c1) (by decide +kernel) rfl rfl rfl (by decide +kernel)
set_option maxRecDepth 65536 in
theorem w_c3 : (Jvm.Cond.code ({ cls := "com/example/wattlebird/wattlebird/Unit", name := "measure", desc := "()Ljava/lang/String;" } : Jvm.MethodName) prog_90_method_5_code (1 : Nat) (Option.some (Jvm.ClassFile.FieldType.object "java/lang/String"))).before args0 about1 = true := code_word (m := ⟨6, 0⟩) (meth := k6m0) (c := k6c0) (by decide +kernel) rfl rfl rfl (by decide +kernel)
set_option maxRecDepth 65536 in
theorem w_c4 : (Jvm.Cond.code ({ cls := "java/lang/String", name := "equals", desc := "(Ljava/lang/Object;)Z" } : Jvm.MethodName) jdk_42_method_66_code (3 : Nat) (Option.some Jvm.ClassFile.FieldType.boolean)).before args0 about1 = true := code_word (m := ⟨9, 1⟩) (meth := k9m1) (c := k9c1) (by decide +kernel) rfl rfl rfl (by decide +kernel)
set_option maxRecDepth 65536 in
theorem w_c5 : (Jvm.Cond.code ({ cls := "java/lang/StringLatin1", name := "equals", desc := "([B[B)Z" } : Jvm.MethodName) jdk_43_method_13_code (3 : Nat) (Option.some Jvm.ClassFile.FieldType.boolean)).before args0 about1 = true := code_word (m := ⟨10, 1⟩) (meth := k10m1) (c := k10c1) (by decide +kernel) rfl rfl rfl (by decide +kernel)
def codes1 : List Jvm.Cond := [Jvm.Cond.code x code maxLocals ret, Jvm.Cond.code ({ cls := "com/example/wattlebird/wattlebird/UnitPerEnergyPinLaw", name := "pick", desc := "(I)Lcom/example/wattlebird/wattlebird/Unit;" } : Jvm.MethodName) method_2_code (1 : Nat) (Option.some (Jvm.ClassFile.FieldType.object "com/example/wattlebird/wattlebird/Unit")), Jvm.Cond.code ({ cls := "com/example/wattlebird/wattlebird/Unit", name := "perEnergy", desc := "()Z" } : Jvm.MethodName) prog_90_method_7_code (1 : Nat) (Option.some Jvm.ClassFile.FieldType.boolean), Jvm.Cond.code ({ cls := "com/example/wattlebird/wattlebird/Unit", name := "measure", desc := "()Ljava/lang/String;" } : Jvm.MethodName) prog_90_method_5_code (1 : Nat) (Option.some (Jvm.ClassFile.FieldType.object "java/lang/String")), Jvm.Cond.code ({ cls := "java/lang/String", name := "equals", desc := "(Ljava/lang/Object;)Z" } : Jvm.MethodName) jdk_42_method_66_code (3 : Nat) (Option.some Jvm.ClassFile.FieldType.boolean), Jvm.Cond.code ({ cls := "java/lang/StringLatin1", name := "equals", desc := "([B[B)Z" } : Jvm.MethodName) jdk_43_method_13_code (3 : Nat) (Option.some Jvm.ClassFile.FieldType.boolean)]
set_option maxRecDepth 65536 in
theorem codes_eq : words1.filter isCode = codes1 := rfl
theorem w_codes : ∀ c ∈ words1.filter isCode, c.before args0 about1 = true := by
  rw [codes_eq]
  intro c hc
  simp only [codes1, List.mem_cons, List.not_mem_nil, or_false] at hc
  rcases hc with rfl | rfl | rfl | rfl | rfl | rfl
  · exact w_c0
  · exact w_c1
  · exact w_c2
  · exact w_c3
  · exact w_c4
  · exact w_c5
set_option maxRecDepth 65536 in
theorem w_t1 : (words1.take 24).all (fun c => isCode c || c.before args0 about1) = true := by decide +kernel
set_option maxRecDepth 65536 in
theorem w_t2 : ((words1.drop 24).take 24).all (fun c => isCode c || c.before args0 about1) = true := by decide +kernel
set_option maxRecDepth 65536 in
theorem w_t3 : ((words1.drop 24).drop 24).all (fun c => isCode c || c.before args0 about1) = true := by decide +kernel
theorem w_tables : (allAtoms (Jvm.Cond.code x code maxLocals ret :: tables_1)).before args0 about1 = true := by
  rw [allAtoms_all]
  show words1.all (fun c => c.before args0 about1) = true
  refine all_split ?_ w_codes
  rw [← List.take_append_drop 24 words1, List.all_append, w_t1, ← List.take_append_drop 24 (words1.drop 24), List.all_append, w_t2, w_t3]
  rfl
set_option maxRecDepth 65536 in
theorem w_rest : rest_1_c.before args0 about1 = true := by decide +kernel
set_option maxRecDepth 65536 in
theorem w_case : (Jvm.Cond.and given_1 narrow_1).before args0 about1 = true := by decide +kernel
set_option maxRecDepth 65536 in
theorem w_consts : constsHeld consts_1 about1 := Jvm.Lit.constsHeldB_iff.mp (by decide +kernel)
theorem w_applies : (headSpec (Jvm.Cond.code x code maxLocals ret :: tables_1) room_1).applies x e0.platform about1 = true :=
  (Spec.applies_iff w_frames).mpr ⟨w_running, w_runnable, w_alone, w_named, w_hears, w_ripe, w_room, w_tables⟩
theorem atStart : AtStart classFile x code maxLocals ret World_1 tables_1 room_1 Calls_1 rest_1 Pre_1 launch0 p0 e0 about1 theMethod args0 below0 :=
  ⟨lists_1, trivial, launch0.admits_env _ _ _, launch0.least_env, fairChoices_fair.cas, fairChoices_fair.clock, w_frames, w_args, w_heap, w_applies, ⟨w_consts, trivial⟩, w_rest, w_case⟩
end start1
theorem witness_1 : WitnessClaimed_1 := ⟨start1.p0, start1.e0, start1.about1, start1.theMethod, start1.args0, start1.below0, start1.atStart⟩
end Jvm.Pilot.@@N@@
