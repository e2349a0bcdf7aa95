import JvmDerived
import JvmDerived.Pilot.@@N@@Statement
import JvmDerived.Pilot.@@N@@Code
set_option linter.unusedVariables false
set_option linter.unusedSimpArgs false
namespace Jvm.RoadKit
open Sem ClassFile Op Lib Jvm.Stand Jvm.Free Jvm.LawKit
section New
variable {p : Program} {l : Launch} {e : Env} {R : Room} {s : State} {m : MethodId} {args : Array Value} {below : List Frame} {meth : Method} {c : Code} {T : State} {locs : List Loc} {cells slots : Nat}
theorem retI (X : Stand p l e R s m args below meth c T locs cells slots) (hx : p.tables.exec = Jvm.exec) {pc : Nat} {Ls : Array Slot} {z : Int32} {rest : List Value} (hret : meth.sig.returnType = some .int) (hd : decode c.code pc = .ok (.ireturn, 1)) {fs : List Frame}
    (hl : ∀ (f : JFrame) (acts : List Action), f.method = m → f.locked = none → f.entered = [] → (doReturn e (T.setTop f) acts (some (.int z))).1 = T.setFrames fs) : Steps p.tables e below (T.setTop (mkF m pc Ls (.int z :: rest))) (T.setFrames fs) := by
  have hm' : T.vm.method? m = some meth := X.method'
  have hn : narrow .int (.int z) = .int z := rfl
  show Steps p.tables e below (T.setTop { method := m, pc := pc, locals := Ls, stack := _ :: rest, locked := none }) _
  jvm_step X.here [X.here.top, hx, hd, hm', hret, hn]
  first | (intro acts; rw [hl _ acts rfl rfl rfl]) | rw [hl _ _ rfl rfl rfl]
  exact Steps.refl _
end New
end Jvm.RoadKit
@@BLOCK:NumsL.lean.txt@@
namespace Jvm.Pilot.@@N@@
open Jvm Jvm.ClassFile Sem Op Lib Jvm.Free Jvm.Stand Jvm.LawKit Jvm.RoadKit Bundle Jvm.Pilot.@@N@@.Jvm.D
/-- from the state A this body's run ends in a return that Qp speaks of -/
def own_Ends (p : Program) (e : Env) (below : List Frame) (s : State) (k n : Nat) (Qp : Option Value → Heap → List Loc → Prop) (A : State) : Prop :=
  ∃ s₂ o, Steps p.tables e below A s₂ ∧ s₂.status = .running ∧ Ended s₂ below o ∧ ∃ v L, o = .returned v ∧ Qp v s₂.heap L ∧ FrameEnd s o s₂ L k n
theorem own_pre {p : Program} {e : Env} {below : List Frame} {s : State} {k n : Nat} {Qp : Option Value → Heap → List Loc → Prop} {A B : State} (hs : ∀ t, Steps p.tables e below B t → Steps p.tables e below A t) (h : own_Ends p e below s k n Qp B) : own_Ends p e below s k n Qp A := by
  obtain ⟨s₂, o, h1, h2⟩ := h
  exact ⟨s₂, o, hs _ h1, h2⟩
theorem own_fin {p : Program} {l : Launch} {e : Env} {R : Room} {s : State} {m : MethodId} {args : Array Value} {below : List Frame} {meth : Method} {c : Code} {T : State} {locs : List Loc} {cells slots k n : Nat} {Qp : Option Value → Heap → List Loc → Prop} {h : Heap} {F : JFrame}
    (X : Stand p l e R s m args below meth c T locs cells slots) (v : Option Value) (hv : meth.sig.returnType = none → v = none) (hlocks : meth.locks = false) (hh : T.heap = h)
    (hs : ∀ fs : List Frame, (∀ (f : JFrame) (acts : List Action), f.method = m → f.locked = none → f.entered = [] → (doReturn e (T.setTop f) acts v).1 = T.setFrames fs) → Steps p.tables e below (T.setTop F) (T.setFrames fs))
    (hQ : Qp v h locs) (hc : cells ≤ k) (hn : slots ≤ n) : own_Ends p e below s k n Qp (T.setTop F) := by
  obtain ⟨fs, hr, hrun, hended, hW, hsame⟩ := X.leave hv hlocks
  subst hh
  exact ⟨_, _, hs fs hr, hrun, hended, _, _, rfl, hQ, ⟨_, rfl⟩, hW, hsame.mono hc hn⟩
def own_upd (f : Nat → Int32) (j : Nat) (v : Int32) : Nat → Int32 := fun i => if i = j then v else f i
theorem own_upd_same {f : Nat → Int32} {j : Nat} {v : Int32} : own_upd f j v j = v := if_pos rfl
theorem own_upd_ne {f : Nat → Int32} {i j : Nat} {v : Int32} (q : ¬ i = j) : own_upd f j v i = f i := if_neg q
/-- the array at a, of n elements of kind ty, holds the int f i at each place i -/
def own_Arr (Z : State) (h : Heap) (a : Addr) (ty : FieldType) (n : Int32) (f : Nat → Int32) : Prop := ∃ c : Cell, Arr Z h a c ty ∧ c.slots.size = n.toNatClampNeg ∧ ¬ n < 0 ∧ ∀ i, i < c.slots.size → c.slots[i]? = some (.int (f i))
theorem own_Arr.lt {Z : State} {h : Heap} {a : Addr} {ty : FieldType} {n : Int32} {f : Nat → Int32} (F : own_Arr Z h a ty n f) : a < h.size := by obtain ⟨c, A, -⟩ := F; exact A.lt
theorem own_Arr.ext {Z : State} {h h' : Heap} {a : Addr} {ty : FieldType} {n : Int32} {f : Nat → Int32} (F : own_Arr Z h a ty n f) (E : Ext h h') : own_Arr Z h' a ty n f := by obtain ⟨c, A, r⟩ := F; exact ⟨c, A.ext E, r⟩
theorem own_Arr.other {Z : State} {h h' : Heap} {a b : Addr} {ty : FieldType} {n : Int32} {f : Nat → Int32} {sl : Nat} {v : Value} (F : own_Arr Z h b ty n f) (W : Wr h h' a sl v) (q : b ≠ a) : own_Arr Z h' b ty n f := by obtain ⟨c, A, r⟩ := F; exact ⟨c, A.other W q, r⟩
theorem own_Arr.keep {Z : State} {h h' : Heap} {a : Addr} {ty : FieldType} {n : Int32} {f : Nat → Int32} {ws : List Addr} (F : own_Arr Z h a ty n f) (K : Keep h h' ws) (q : a ∉ ws) : own_Arr Z h' a ty n f := by obtain ⟨c, A, r⟩ := F; exact ⟨c, ⟨K.2.1 a c A.1 q, A.2⟩, r⟩
theorem own_Arr.new {Z : State} {h : Heap} {a : Addr} {ty : FieldType} {n : Int32} {k : ClassId} (A : Arr Z h a (newA k ty n) ty) (q : ¬ n < 0) (d : defaultValue ty = .int 0) : own_Arr Z h a ty n (fun _ => 0) :=
  ⟨_, A, sz_new _ _ _, q, fun i hi => by rw [sz_new] at hi; simp [newA, hi, d]⟩
theorem own_Arr.set {Z : State} {h h' : Heap} {a : Addr} {ty : FieldType} {n j v : Int32} {f : Nat → Int32} (F : own_Arr Z h a ty n f) (W : Wr h h' a j.toNatClampNeg (.int v)) : own_Arr Z h' a ty n (own_upd f j.toNatClampNeg v) := by
  obtain ⟨c, A, S, N, H⟩ := F
  refine ⟨c.setSlot j.toNatClampNeg (.int v), A.same W, by rw [sz_set]; exact S, N, fun i hi => ?_⟩
  rw [sz_set] at hi
  by_cases q : i = j.toNatClampNeg
  · subst q
    rw [own_upd_same]
    simp [Cell.setSlot, hi]
  · rw [own_upd_ne q]
    show (c.slots.setIfInBounds j.toNatClampNeg (.int v))[i]? = _
    rw [Array.getElem?_setIfInBounds_ne (Ne.symm q)]
    exact H i hi
theorem own_Arr.congr {Z : State} {h : Heap} {a : Addr} {ty : FieldType} {n : Int32} {f g : Nat → Int32} (F : own_Arr Z h a ty n f) (q : ∀ i, i < n.toNatClampNeg → f i = g i) : own_Arr Z h a ty n g := by
  obtain ⟨c, A, S, N, H⟩ := F
  exact ⟨c, A, S, N, fun i hi => by rw [← q i (S ▸ hi)]; exact H i hi⟩
theorem d1_0 : decode prog_126_method_1_code 0 = .ok (.aload_n 0, 1) := by decide +kernel
theorem d1_1 : decode prog_126_method_1_code 1 = .ok (.invokespecial 1, 3) := by decide +kernel
theorem d1_4 : decode prog_126_method_1_code 4 = .ok (.aload_n 0, 1) := by decide +kernel
theorem d1_5 : decode prog_126_method_1_code 5 = .ok (.aload_n 1, 1) := by decide +kernel
theorem d1_6 : decode prog_126_method_1_code 6 = .ok (.putfield 7, 3) := by decide +kernel
theorem d1_9 : decode prog_126_method_1_code 9 = .ok (.aload_n 0, 1) := by decide +kernel
theorem d1_10 : decode prog_126_method_1_code 10 = .ok (.lload_n 2, 1) := by decide +kernel
theorem d1_11 : decode prog_126_method_1_code 11 = .ok (.putfield 13, 3) := by decide +kernel
theorem d1_14 : decode prog_126_method_1_code 14 = .ok (.return_, 1) := by decide +kernel
theorem d2_0 : decode jdk_30_method_1_code 0 = .ok (.aload_n 0, 1) := by decide +kernel
theorem d2_1 : decode jdk_30_method_1_code 1 = .ok (.invokespecial 1, 3) := by decide +kernel
theorem d2_4 : decode jdk_30_method_1_code 4 = .ok (.return_, 1) := by decide +kernel
theorem d4_0 : decode prog_126_method_2_code 0 = .ok (.aload_n 0, 1) := by decide +kernel
theorem d4_1 : decode prog_126_method_2_code 1 = .ok (.getfield 13, 3) := by decide +kernel
theorem d4_4 : decode prog_126_method_2_code 4 = .ok (.aload_n 0, 1) := by decide +kernel
theorem d4_5 : decode prog_126_method_2_code 5 = .ok (.getfield 7, 3) := by decide +kernel
theorem d4_8 : decode prog_126_method_2_code 8 = .ok (.arraylength, 1) := by decide +kernel
theorem d4_9 : decode prog_126_method_2_code 9 = .ok (.i2l, 1) := by decide +kernel
theorem d4_10 : decode prog_126_method_2_code 10 = .ok (.lcmp, 1) := by decide +kernel
theorem d4_11 : decode prog_126_method_2_code 11 = .ok (.ifCond .le 7, 3) := by decide +kernel
theorem d4_14 : decode prog_126_method_2_code 14 = .ok (.iconst 1, 1) := by decide +kernel
theorem d4_15 : decode prog_126_method_2_code 15 = .ok (.goto 4, 3) := by decide +kernel
theorem d4_18 : decode prog_126_method_2_code 18 = .ok (.iconst 0, 1) := by decide +kernel
theorem d4_19 : decode prog_126_method_2_code 19 = .ok (.ireturn, 1) := by decide +kernel
theorem pn_0 : plainName "com/example/wardwire/wardwire/store/KeptAnswerCutPinLaw" = true := by first | (simp [plainName, overriddenIn]; done) | decide +kernel
theorem pn_1 : plainName "com/example/wardwire/wardwire/store/KeptAnswer" = true := by first | (simp [plainName, overriddenIn]; done) | decide +kernel
theorem pn_2 : plainName "java/lang/Record" = true := by first | (simp [plainName, overriddenIn]; done) | decide +kernel
theorem pn_4 : plainName "com/example/wardwire/wardwire/store/KeptAnswer" = true := by first | (simp [plainName, overriddenIn]; done) | decide +kernel
theorem pd_0 : parseMethodDescriptor "([BJ)V" = some ⟨[(.array .byte), .long], none⟩ := by decide +kernel
theorem pd_1 : parseMethodDescriptor "()V" = some ⟨[], none⟩ := by decide +kernel
theorem pd_2 : parseMethodDescriptor "()Z" = some ⟨[], some .boolean⟩ := by decide +kernel
theorem ef_2 (m : MethodId) (x0 : Addr) : entryFrame m #[(.ref x0)] 1 = mkF m 0 #[.val (.ref x0)] [] := by first | (simp [entryFrame, mkF, argsToLocals, Value.category]; done) | rfl
def Q2 (Z : State) (a1 : Addr) (h0 : Heap) (n0 : Nat) (v : Option Value) (h : Heap) (L : List Loc) : Prop := v = none ∧ Fr n0 L ∧ h = h0
set_option maxRecDepth 65536 in
set_option maxHeartbeats 40000000 in
theorem rm2 (l : Launch) (Z : State) (a0 : Array Value) (hw : ∀ d ∈ tables_1, d.before a0 Z = true) (ws : List Jvm.Cond) (a1 : Addr) (h0 : Heap) (n0 : Nat) (Z0 : n0 ≤ h0.size)  :
    MetFree l (⟨"java/lang/Record", "<init>", "()V"⟩ : MethodName) (head1 (Jvm.Cond.code (⟨"java/lang/Record", "<init>", "()V"⟩ : MethodName) jdk_30_method_1_code 1 none :: ws) ({ frames := 1, cells := 0, slots := 0, locals := 12 } : Room)) (fun a U => a = #[(.ref a1)] ∧ Z.Warmed39 U.vm ∧ U.heap = h0) (fun _ _ _ _ _ => True) (fun _ U o U' => ∃ v L, o = .returned v ∧ Q2 Z a1 h0 n0 v U'.heap L ∧ FrameEnd U o U' L ({ frames := 1, cells := 0, slots := 0, locals := 12 } : Room).cells ({ frames := 1, cells := 0, slots := 0, locals := 12 } : Room).slots) := by
  refine MetFree.of_bodySF (plainFor_of_name pn_2) hisR ?_
  intro p e s m args below meth c s₁ Bd hml0 hP hK
  obtain ⟨rfl, hZ, hh⟩ := hP
  have hx := Bd.exec
  have hby := Bd.bytes
  have hml : c.maxLocals = 1 := hml0
  have hown : s.vm.findClass "java/lang/Record" = some m.cls := findClass_of_methodNamed Bd.named
  have hnm := (name_of_methodNamed Bd.named Bd.method).1
  have X0 : Stand p l e ({ frames := 1, cells := 0, slots := 0, locals := 12 } : Room) s m #[(.ref a1)] below meth c s₁ [] 0 0 := Stand.of_body Bd
  have e0 : s₁.heap = h0 := by rw [← hh, Bd.state]; rfl
  have N0 := Fr.nil n0
  show own_Ends p e below s ({ frames := 1, cells := 0, slots := 0, locals := 12 } : Room).cells ({ frames := 1, cells := 0, slots := 0, locals := 12 } : Room).slots (Q2 Z a1 h0 n0) (s₁.setTop (entryFrame m #[(.ref a1)] 1))
  rw [ef_2 m a1]
  refine own_pre (B := (s₁.setTop (mkF m 1 #[.val (.ref a1)] [(.ref a1)]))) (fun t kt => ?_) ?_
  · show Steps p.tables e below (s₁.setTop (mkF m 0 _ [])) _
    refine XS.aloadN X0.here hx rfl (hb hby d2_0) rfl rfl ?_
    exact kt
  obtain ⟨T1, X1, e1, st1⟩ := initO X0 hx hZ hown (hw _ (List.mem_of_getElem? (i := 12) rfl)) (hw _ (List.mem_of_getElem? (i := 13) rfl)) (hw _ (List.mem_of_getElem? (i := 14) rfl)) e0 (g := (mkF m 1 #[.val (.ref a1)] [(.ref a1)])) rfl (by rw [hml]; rfl) rfl (hb hby d2_1) (by decide) (W := 0) (by show 2 * 0 + _ ≤ _; exact Nat.le_of_eq rfl) (by decide)
  refine own_pre (B := (T1.setTop (mkF m 4 #[.val (.ref a1)] []))) (fun t kt => ?_) ?_
  · show Steps p.tables e below (s₁.setTop (mkF m 1 _ [(.ref a1)])) _
    refine st1 _ ?_
    exact kt
  exact own_fin X1 none (fun _ => rfl) (BodyLoose.notSynchronized Bd) e1 (fun fs hr => X1.returnOut hx Bd.returns (hb hby d2_4) hr) ⟨rfl, N0, rfl⟩ (by decide) (by decide)
theorem ef_1 (m : MethodId) (x0 : Addr) (x1 : Addr) (x2 : Int64) : entryFrame m #[(.ref x0), (.ref x1), (.long x2)] 4 = mkF m 0 #[.val (.ref x0), .val (.ref x1), .val (.long x2), .second] [] := by first | (simp [entryFrame, mkF, argsToLocals, Value.category]; done) | rfl
def Q1 (Z : State) (a1 a2 : Addr) (q3 : Int64) (h0 : Heap) (n0 : Nat) (v : Option Value) (h : Heap) (L : List Loc) : Prop := v = none ∧ Fr n0 L ∧ Keep h0 h [a1] ∧ Exa Z h a1 "com/example/wardwire/wardwire/store/KeptAnswer" ∧ Fld Z h a1 "com/example/wardwire/wardwire/store/KeptAnswer" "bytes" "[B" (.ref a2) ∧ Fld Z h a1 "com/example/wardwire/wardwire/store/KeptAnswer" "length" "J" (.long q3)
set_option maxRecDepth 65536 in
set_option maxHeartbeats 40000000 in
theorem rm1 (l : Launch) (Z : State) (a0 : Array Value) (hw : ∀ d ∈ tables_1, d.before a0 Z = true) (ws : List Jvm.Cond) (a1 a2 : Addr) (q3 : Int64) (h0 : Heap) (n0 : Nat) (Z0 : n0 ≤ h0.size) (E_a1 : Exa Z h0 a1 "com/example/wardwire/wardwire/store/KeptAnswer") (F_bytes : Fld Z h0 a1 "com/example/wardwire/wardwire/store/KeptAnswer" "bytes" "[B" .null) (F_length : Fld Z h0 a1 "com/example/wardwire/wardwire/store/KeptAnswer" "length" "J" (.long (0 : Int64))) (g_a1 : n0 ≤ a1) :
    MetFree l (⟨"com/example/wardwire/wardwire/store/KeptAnswer", "<init>", "([BJ)V"⟩ : MethodName) (head1 (Jvm.Cond.code (⟨"com/example/wardwire/wardwire/store/KeptAnswer", "<init>", "([BJ)V"⟩ : MethodName) prog_126_method_1_code 4 none :: ws) ({ frames := 2, cells := 0, slots := 0, locals := 24 } : Room)) (fun a U => a = #[(.ref a1), (.ref a2), (.long q3)] ∧ Z.Warmed39 U.vm ∧ U.heap = h0) (fun _ _ _ _ _ => True) (fun _ U o U' => ∃ v L, o = .returned v ∧ Q1 Z a1 a2 q3 h0 n0 v U'.heap L ∧ FrameEnd U o U' L ({ frames := 2, cells := 0, slots := 0, locals := 24 } : Room).cells ({ frames := 2, cells := 0, slots := 0, locals := 24 } : Room).slots) := by
  refine MetFree.of_bodySF (plainFor_of_name pn_1) hisR ?_
  intro p e s m args below meth c s₁ Bd hml0 hP hK
  obtain ⟨rfl, hZ, hh⟩ := hP
  have hx := Bd.exec
  have hby := Bd.bytes
  have hml : c.maxLocals = 4 := hml0
  have hown : s.vm.findClass "com/example/wardwire/wardwire/store/KeptAnswer" = some m.cls := findClass_of_methodNamed Bd.named
  have hnm := (name_of_methodNamed Bd.named Bd.method).1
  have X0 : Stand p l e ({ frames := 2, cells := 0, slots := 0, locals := 24 } : Room) s m #[(.ref a1), (.ref a2), (.long q3)] below meth c s₁ [] 0 0 := Stand.of_body Bd
  have e0 : s₁.heap = h0 := by rw [← hh, Bd.state]; rfl
  have N0 := Fr.nil n0
  show own_Ends p e below s ({ frames := 2, cells := 0, slots := 0, locals := 24 } : Room).cells ({ frames := 2, cells := 0, slots := 0, locals := 24 } : Room).slots (Q1 Z a1 a2 q3 h0 n0) (s₁.setTop (entryFrame m #[(.ref a1), (.ref a2), (.long q3)] 4))
  rw [ef_1 m a1 a2 q3]
  refine own_pre (B := (s₁.setTop (mkF m 1 #[.val (.ref a1), .val (.ref a2), .val (.long q3), .second] [(.ref a1)]))) (fun t kt => ?_) ?_
  · show Steps p.tables e below (s₁.setTop (mkF m 0 _ [])) _
    refine XS.aloadN X0.here hx rfl (hb hby d1_0) rfl rfl ?_
    exact kt
  obtain ⟨_, _, ⟨T1, L1, k1, n1⟩, -, X1, ⟨Lc1, hQ1, l1, y1, z1⟩, st1⟩ := X0.specialBack hx (y := (⟨"java/lang/Record", "<init>", "()V"⟩ : MethodName)) rfl hown (mvT hZ (hw _ (List.mem_of_getElem? (i := 7) rfl))) (mvT hZ (hw _ (List.mem_of_getElem? (i := 8) rfl))) (mvT hZ (hw _ (List.mem_of_getElem? (i := 11) rfl))) (by decide) (backOf (W := 0) (rm2 l Z a0 hw [] a1 h0 n0 Z0) hZ (hw _ (List.mem_of_getElem? (i := 11) rfl)) (hw _ (List.mem_of_getElem? (i := 10) rfl)) (by decide) (by decide)) (g := (mkF m 1 #[.val (.ref a1), .val (.ref a2), .val (.long q3), .second] [(.ref a1)])) rfl (by rw [hml]; rfl) (Steps.refl _) (a := a1) (argsL := []) (rest := []) (lenOf pd_1 rfl) rfl (by show 2 * 0 + _ ≤ _; exact Nat.le_of_eq rfl) (hb hby d1_1) (fun _ _ => ⟨rfl, e0, (by decide : 0 + 0 ≤ _), (by decide : 0 + 0 ≤ _)⟩)
  dsimp only [Pt.U, Pt.locs, Pt.cells, Pt.slots] at X1 l1 y1 z1 st1 hQ1
  subst l1 y1 z1
  obtain ⟨rfl, N1q, e1⟩ := hQ1
  have N1 := Fr.app N0 N1q
  refine own_pre (B := (T1.setTop (mkF m 6 #[.val (.ref a1), .val (.ref a2), .val (.long q3), .second] [(.ref a2), (.ref a1)]))) (fun t kt => ?_) ?_
  · refine st1.trans ?_
    show Steps p.tables e below (T1.setTop (mkF m 4 _ [])) _
    refine XS.aloadN X1.here hx rfl (hb hby d1_4) rfl rfl ?_
    show Steps p.tables e below (T1.setTop (mkF m 5 _ [(.ref a1)])) _
    refine XS.aloadN X1.here hx rfl (hb hby d1_5) rfl rfl ?_
    exact kt
  obtain ⟨T2, h2, X2, e2, W2, st2⟩ := putF X1 hx hZ hown (host := "") (Or.inl (hw _ (List.mem_of_getElem? (i := 15) rfl))) Via.refl e1 F_bytes E_a1 (Or.inr ⟨(hw _ (List.mem_of_getElem? (i := 16) rfl)), rfl, hnm⟩) (hw _ (List.mem_of_getElem? (i := 2) rfl)) (ty := (.array .byte)) (by decide) rfl rfl (g := (mkF m 6 #[.val (.ref a1), .val (.ref a2), .val (.long q3), .second] [(.ref a2), (.ref a1)])) rfl rfl (hb hby d1_6)
  have F_bytes_a1_2 := F_bytes.same W2
  have E_a1_2 := E_a1.wr W2
  have F_length_2 := F_length.other W2 (Or.inr (slot_ne (Or.inr (hw _ (List.mem_of_getElem? (i := 18) rfl))) (Or.inr (hw _ (List.mem_of_getElem? (i := 16) rfl))) (by decide) (t := .long) (t' := (.array .byte)) (by decide) (by decide)))
  have N2 := Fr.snoc X2 N1 g_a1
  have K2 := Keep.wr (Keep.refl h0 [a1]) W2 (Or.inl (List.mem_of_getElem? (i := 0) rfl))
  refine own_pre (B := (T2.setTop (mkF m 11 #[.val (.ref a1), .val (.ref a2), .val (.long q3), .second] [(.long q3), (.ref a1)]))) (fun t kt => ?_) ?_
  · show Steps p.tables e below (T1.setTop (mkF m 6 _ [(.ref a2), (.ref a1)])) _
    refine st2 _ ?_
    show Steps p.tables e below (T2.setTop (mkF m 9 _ [])) _
    refine XS.aloadN X2.here hx rfl (hb hby d1_9) rfl rfl ?_
    show Steps p.tables e below (T2.setTop (mkF m 10 _ [(.ref a1)])) _
    refine XS.lloadN X2.here hx rfl (hb hby d1_10) rfl ?_
    exact kt
  obtain ⟨T3, h3, X3, e3, W3, st3⟩ := putF X2 hx hZ hown (host := "") (Or.inl (hw _ (List.mem_of_getElem? (i := 17) rfl))) Via.refl e2 F_length_2 E_a1_2 (Or.inr ⟨(hw _ (List.mem_of_getElem? (i := 18) rfl)), rfl, hnm⟩) (hw _ (List.mem_of_getElem? (i := 2) rfl)) (ty := .long) (by decide) rfl rfl (g := (mkF m 11 #[.val (.ref a1), .val (.ref a2), .val (.long q3), .second] [(.long q3), (.ref a1)])) rfl rfl (hb hby d1_11)
  have F_length_a1_3 := F_length_2.same W3
  have E_a1_3 := E_a1_2.wr W3
  have F_bytes_a1_3 := F_bytes_a1_2.other W3 (Or.inr (slot_ne (Or.inr (hw _ (List.mem_of_getElem? (i := 16) rfl))) (Or.inr (hw _ (List.mem_of_getElem? (i := 18) rfl))) (by decide) (t := (.array .byte)) (t' := .long) (by decide) (by decide)))
  have N3 := Fr.snoc X3 N2 g_a1
  have K3 := Keep.wr K2 W3 (Or.inl (List.mem_of_getElem? (i := 0) rfl))
  refine own_pre (B := (T3.setTop (mkF m 14 #[.val (.ref a1), .val (.ref a2), .val (.long q3), .second] []))) (fun t kt => ?_) ?_
  · show Steps p.tables e below (T2.setTop (mkF m 11 _ [(.long q3), (.ref a1)])) _
    refine st3 _ ?_
    exact kt
  exact own_fin X3 none (fun _ => rfl) (BodyLoose.notSynchronized Bd) e3 (fun fs hr => X3.returnOut hx Bd.returns (hb hby d1_14) hr) ⟨rfl, N3, K3, E_a1_3, F_bytes_a1_3, F_length_a1_3⟩ (by decide) (by decide)
theorem ef_4 (m : MethodId) (x0 : Addr) : entryFrame m #[(.ref x0)] 1 = mkF m 0 #[.val (.ref x0)] [] := by first | (simp [entryFrame, mkF, argsToLocals, Value.category]; done) | rfl
def Q4 (Z : State) (a1 a2 : Addr) (q3 : Int64) (zz : Int32) (ff : Nat → Int32) (h0 : Heap) (n0 : Nat) (v : Option Value) (h : Heap) (L : List Loc) : Prop := ∃ r : Int32, v = some (.int r) ∧ Fr n0 L ∧ h = h0 ∧ ((r = 1 ∧ zz.toInt64 < q3) ∨ (r = 0 ∧ ¬ (zz.toInt64 < q3)))
set_option maxRecDepth 65536 in
set_option maxHeartbeats 40000000 in
theorem rm4 (l : Launch) (Z : State) (a0 : Array Value) (hw : ∀ d ∈ tables_1, d.before a0 Z = true) (ws : List Jvm.Cond) (a1 a2 : Addr) (q3 : Int64) (zz : Int32) (ff : Nat → Int32) (h0 : Heap) (n0 : Nat) (Z0 : n0 ≤ h0.size) (F_bytes : Fld Z h0 a1 "com/example/wardwire/wardwire/store/KeptAnswer" "bytes" "[B" (.ref a2)) (F_length : Fld Z h0 a1 "com/example/wardwire/wardwire/store/KeptAnswer" "length" "J" (.long q3)) (V_a2 : own_Arr Z h0 a2 .byte zz ff) :
    MetFree l (⟨"com/example/wardwire/wardwire/store/KeptAnswer", "cut", "()Z"⟩ : MethodName) (head1 (Jvm.Cond.code (⟨"com/example/wardwire/wardwire/store/KeptAnswer", "cut", "()Z"⟩ : MethodName) prog_126_method_2_code 1 (some .boolean) :: ws) ({ frames := 0, cells := 0, slots := 0, locals := 0 } : Room)) (fun a U => a = #[(.ref a1)] ∧ Z.Warmed39 U.vm ∧ U.heap = h0) (fun _ _ _ _ _ => True) (fun _ U o U' => ∃ v L, o = .returned v ∧ Q4 Z a1 a2 q3 zz ff h0 n0 v U'.heap L ∧ FrameEnd U o U' L ({ frames := 0, cells := 0, slots := 0, locals := 0 } : Room).cells ({ frames := 0, cells := 0, slots := 0, locals := 0 } : Room).slots) := by
  refine MetFree.of_bodySF (plainFor_of_name pn_4) hisR ?_
  intro p e s m args below meth c s₁ Bd hml0 hP hK
  obtain ⟨rfl, hZ, hh⟩ := hP
  have hx := Bd.exec
  have hby := Bd.bytes
  have hml : c.maxLocals = 1 := hml0
  have hown : s.vm.findClass "com/example/wardwire/wardwire/store/KeptAnswer" = some m.cls := findClass_of_methodNamed Bd.named
  have hnm := (name_of_methodNamed Bd.named Bd.method).1
  have X0 : Stand p l e ({ frames := 0, cells := 0, slots := 0, locals := 0 } : Room) s m #[(.ref a1)] below meth c s₁ [] 0 0 := Stand.of_body Bd
  have e0 : s₁.heap = h0 := by rw [← hh, Bd.state]; rfl
  have N0 := Fr.nil n0
  show own_Ends p e below s ({ frames := 0, cells := 0, slots := 0, locals := 0 } : Room).cells ({ frames := 0, cells := 0, slots := 0, locals := 0 } : Room).slots (Q4 Z a1 a2 q3 zz ff h0 n0) (s₁.setTop (entryFrame m #[(.ref a1)] 1))
  rw [ef_4 m a1]
  refine own_pre (B := (s₁.setTop (mkF m 1 #[.val (.ref a1)] [(.ref a1)]))) (fun t kt => ?_) ?_
  · show Steps p.tables e below (s₁.setTop (mkF m 0 _ [])) _
    refine XS.aloadN X0.here hx rfl (hb hby d4_0) rfl rfl ?_
    exact kt
  obtain ⟨T1, X1, e1, st1⟩ := getF X0 hx hZ hown (host := "") (Or.inl (hw _ (List.mem_of_getElem? (i := 17) rfl))) Via.refl e0 F_length (g := (mkF m 1 #[.val (.ref a1)] [(.ref a1)])) rfl rfl (hb hby d4_1)
  refine own_pre (B := (T1.setTop (mkF m 5 #[.val (.ref a1)] [(.ref a1), (.long q3)]))) (fun t kt => ?_) ?_
  · show Steps p.tables e below (s₁.setTop (mkF m 1 _ [(.ref a1)])) _
    refine st1 _ ?_
    show Steps p.tables e below (T1.setTop (mkF m 4 _ [(.long q3)])) _
    refine XS.aloadN X1.here hx rfl (hb hby d4_4) rfl rfl ?_
    exact kt
  obtain ⟨T2, X2, e2, st2⟩ := getF X1 hx hZ hown (host := "") (Or.inl (hw _ (List.mem_of_getElem? (i := 15) rfl))) Via.refl e1 F_bytes (g := (mkF m 5 #[.val (.ref a1)] [(.ref a1), (.long q3)])) rfl rfl (hb hby d4_5)
  refine own_pre (B := (T2.setTop (mkF m 8 #[.val (.ref a1)] [(.ref a2), (.long q3)]))) (fun t kt => ?_) ?_
  · show Steps p.tables e below (T1.setTop (mkF m 5 _ [(.ref a1), (.long q3)])) _
    refine st2 _ ?_
    exact kt
  obtain ⟨cl3, Ar3, S3, P3, H3⟩ := id V_a2
  refine own_pre (B := (T2.setTop (mkF m 11 #[.val (.ref a1)] [(.int (lcmpW q3 (zz.toInt64)))]))) (fun t kt => ?_) ?_
  · show Steps p.tables e below (T2.setTop (mkF m 8 _ [(.ref a2), (.long q3)])) _
    refine X2.arraylength hx (by rw [e2]; exact Ar3.1) (State.isArrayOf_alike hZ.alike Ar3.2.1) (g := (mkF m 8 #[.val (.ref a1)] [(.ref a2), (.long q3)])) rfl rfl (hb hby d4_8) _ ?_
    rw [len_of S3 P3]
    show Steps p.tables e below (T2.setTop (mkF m 9 _ [(.int zz), (.long q3)])) _
    refine XS.i2l X2.here hx rfl (hb hby d4_9) rfl ?_
    show Steps p.tables e below (T2.setTop (mkF m 10 _ [(.long (zz.toInt64)), (.long q3)])) _
    refine XS.lcmp X2.here hx rfl (hb hby d4_10) rfl ?_
    exact kt
  by_cases hc11 : (zz.toInt64) < q3
  · refine own_pre (B := (T2.setTop (mkF m 14 #[.val (.ref a1)] []))) (fun t kt => ?_) ?_
    · show Steps p.tables e below (T2.setTop (mkF m 11 _ [(.int (lcmpW q3 (zz.toInt64)))])) _
      refine XS.ifNo X2.here hx rfl (hb hby d4_11) rfl ((if0 _ _).trans (tlt ((lw_gt _ _).mpr hc11)).2.2.2) ?_
      exact kt
    refine own_pre (B := (T2.setTop (mkF m 19 #[.val (.ref a1)] [(.int (1 : Int32))]))) (fun t kt => ?_) ?_
    · show Steps p.tables e below (T2.setTop (mkF m 14 _ [])) _
      refine XS.iconst X2.here hx rfl (hb hby d4_14) ?_
      show Steps p.tables e below (T2.setTop (mkF m 15 _ [(.int (1 : Int32))])) _
      refine XS.goto X2.here hx rfl (pc0 := 15) (pc' := 19) rfl (hb hby d4_15) (by decide) (by decide) ?_
      exact kt
    exact own_fin X2 (some (.int (1 : Int32))) (fun h => by rw [Bd.returns] at h; cases h) (BodyLoose.notSynchronized Bd) e2 (fun fs hr => retN X2 hx (t := .boolean) Bd.returns (by simp) (hb hby d4_19) hr) ⟨_, rfl, N0, rfl, Or.inl ⟨rfl, hc11⟩⟩ (by decide) (by decide)
  · refine own_pre (B := (T2.setTop (mkF m 18 #[.val (.ref a1)] []))) (fun t kt => ?_) ?_
    · show Steps p.tables e below (T2.setTop (mkF m 11 _ [(.int (lcmpW q3 (zz.toInt64)))])) _
      refine XS.ifYes X2.here hx rfl (pc0 := 11) (pc' := 18) rfl (hb hby d4_11) rfl ((if0 _ _).trans (flt (mt (lw_gt _ _).mp hc11)).2.2.2) (by decide) (by decide) ?_
      exact kt
    refine own_pre (B := (T2.setTop (mkF m 19 #[.val (.ref a1)] [(.int (0 : Int32))]))) (fun t kt => ?_) ?_
    · show Steps p.tables e below (T2.setTop (mkF m 18 _ [])) _
      refine XS.iconst X2.here hx rfl (hb hby d4_18) ?_
      exact kt
    exact own_fin X2 (some (.int (0 : Int32))) (fun h => by rw [Bd.returns] at h; cases h) (BodyLoose.notSynchronized Bd) e2 (fun fs hr => retN X2 hx (t := .boolean) Bd.returns (by simp) (hb hby d4_19) hr) ⟨_, rfl, N0, rfl, Or.inr ⟨rfl, hc11⟩⟩ (by decide) (by decide)
theorem own_m (p1 : Int32) : 0 ≤ (p1 &&& (7 : Int32)).toInt ∧ (p1 &&& (7 : Int32)).toInt < 8 := by
  have e1 : (p1 &&& (7 : Int32)).toInt = p1.toInt % 2 ^ 3 := Jvm.Kit.i32_mask p1 7 (k := 3) (by decide) (by decide)
  omega
theorem own_z (p1 : Int32) : ¬ (p1 &&& (7 : Int32)) < 0 ∧ (p1 &&& (7 : Int32)).toNatClampNeg ≤ 7 := by
  have h := own_m p1
  have e0 : (0 : Int32).toInt = 0 := by decide
  refine ⟨by rw [Int32.lt_iff_toInt_lt]; omega, ?_⟩
  show (p1 &&& (7 : Int32)).toInt.toNat ≤ 7
  omega
theorem own_ex1 (p1 : Int32) (q2 : Int64) (h : q2 < (0 : Int64)) : (((0 : Int32) = 1 ∧ (p1 &&& (7 : Int32)).toInt64 < q2) ∨ ((0 : Int32) = 0 ∧ ¬ ((p1 &&& (7 : Int32)).toInt64 < q2))) := by
  have h1 := own_m p1
  have e0 : (0 : Int64).toInt = 0 := by decide
  refine Or.inr ⟨rfl, ?_⟩
  rw [Int64.lt_iff_toInt_lt] at h ⊢
  rw [Jvm.Kit.i64_of_i32]
  omega
theorem own_both {r ex : Int32} {P : Prop} (h1 : (r = 1 ∧ P) ∨ (r = 0 ∧ ¬ P)) (h2 : (ex = 1 ∧ P) ∨ (ex = 0 ∧ ¬ P)) : r = ex := by
  rcases h1 with ⟨a, b⟩ | ⟨a, b⟩ <;> rcases h2 with ⟨c, d⟩ | ⟨c, d⟩ <;> first | exact a.trans c.symm | exact absurd b d | exact absurd d b
theorem own_edge {r : Int32} {q : Int64} (h1 : (r = 1 ∧ q < q) ∨ (r = 0 ∧ ¬ (q < q))) : r = 0 := by
  rcases h1 with ⟨a, b⟩ | ⟨a, b⟩
  · exact absurd b Int64.lt_irrefl
  · exact a
theorem own_past (p1 : Int32) {r : Int32} (h1 : (r = 1 ∧ (p1 &&& (7 : Int32)).toInt64 < ((p1 &&& (7 : Int32)).toInt64 + (1 : Int64))) ∨ (r = 0 ∧ ¬ ((p1 &&& (7 : Int32)).toInt64 < ((p1 &&& (7 : Int32)).toInt64 + (1 : Int64))))) : ¬ (r = (0 : Int32)) := by
  have h := own_m p1
  have e1 : (1 : Int64).toInt = 1 := by decide
  have e2 := Jvm.Kit.i64_of_i32 (p1 &&& (7 : Int32))
  rcases h1 with ⟨a, b⟩ | ⟨a, b⟩
  · rw [a]; decide
  · refine absurd ?_ b
    rw [Int64.lt_iff_toInt_lt, Jvm.Kit.i64_add (by omega) (by omega)]
    omega
theorem ef_0 (m : MethodId) (x0 : Int32) (x1 : Int64) : entryFrame m #[(.int x0), (.long x1)] maxLocals = mkF m 0 #[.val (.int x0), .val (.long x1), .second, .unset, .unset, .unset, .unset, .unset, .unset] [] := by first | (simp [entryFrame, mkF, argsToLocals, Value.category, maxLocals]; done) | rfl
def Q0 (Z : State) (p1 : Int32) (q2 : Int64) (h0 : Heap) (n0 : Nat) (v : Option Value) (h : Heap) (L : List Loc) : Prop := v = some (.int 1) ∧ Fr n0 L
set_option maxRecDepth 65536 in
set_option maxHeartbeats 40000000 in
theorem rm0 (l : Launch) (Z : State) (a0 : Array Value) (hw : ∀ d ∈ tables_1, d.before a0 Z = true) (ws : List Jvm.Cond) (p1 : Int32) (q2 : Int64) (h0 : Heap) (n0 : Nat) (Z0 : n0 ≤ h0.size)  :
    MetFree l x (head1 (Jvm.Cond.code x code maxLocals ret :: ws) room_1) (fun a U => a = #[(.int p1), (.long q2)] ∧ Z.Warmed39 U.vm ∧ U.heap = h0) (fun _ _ _ _ _ => True) (fun _ U o U' => ∃ v L, o = .returned v ∧ Q0 Z p1 q2 h0 n0 v U'.heap L ∧ FrameEnd U o U' L room_1.cells room_1.slots) := by
  refine MetFree.of_bodySF (plainFor_of_name pn_0) hisR ?_
  intro p e s m args below meth c s₁ Bd hml0 hP hK
  obtain ⟨rfl, hZ, hh⟩ := hP
  have hx := Bd.exec
  have hby := Bd.bytes
  have hml : c.maxLocals = 9 := hml0
  have hown : s.vm.findClass "com/example/wardwire/wardwire/store/KeptAnswerCutPinLaw" = some m.cls := findClass_of_methodNamed Bd.named
  have hnm := (name_of_methodNamed Bd.named Bd.method).1
  have X0 : Stand p l e room_1 s m #[(.int p1), (.long q2)] below meth c s₁ [] 0 0 := Stand.of_body Bd
  have e0 : s₁.heap = h0 := by rw [← hh, Bd.state]; rfl
  have N0 := Fr.nil n0
  show own_Ends p e below s room_1.cells room_1.slots (Q0 Z p1 q2 h0 n0) (s₁.setTop (entryFrame m #[(.int p1), (.long q2)] maxLocals))
  rw [ef_0 m p1 q2]
  refine own_pre (B := (s₁.setTop (mkF m 6 #[.val (.int p1), .val (.long q2), .second, .val (.int (p1 &&& (7 : Int32))), .unset, .unset, .unset, .unset, .unset] [(.int (p1 &&& (7 : Int32)))]))) (fun t kt => ?_) ?_
  · show Steps p.tables e below (s₁.setTop (mkF m 0 _ [])) _
    refine XS.iloadN X0.here hx rfl (hb hby at_0) rfl ?_
    show Steps p.tables e below (s₁.setTop (mkF m 1 _ [(.int p1)])) _
    refine XS.bipush X0.here hx rfl (hb hby at_1) ?_
    show Steps p.tables e below (s₁.setTop (mkF m 3 _ [(.int (7 : Int32)), (.int p1)])) _
    refine XS.iand X0.here hx rfl (hb hby at_3) rfl ?_
    show Steps p.tables e below (s₁.setTop (mkF m 4 _ [(.int (p1 &&& (7 : Int32)))])) _
    refine XS.istoreN X0.here hx rfl (hb hby at_4) rfl (l' := #[.val (.int p1), .val (.long q2), .second, .val (.int (p1 &&& (7 : Int32))), .unset, .unset, .unset, .unset, .unset]) rfl ?_
    show Steps p.tables e below (s₁.setTop (mkF m 5 _ [])) _
    refine XS.iloadN X0.here hx rfl (hb hby at_5) rfl ?_
    exact kt
  obtain ⟨T1, h1, k1, X1, e1, E1, A1, st1⟩ := newP X0 hx hZ (hw _ (List.mem_of_getElem? (i := 0) rfl)) e0 (g := (mkF m 6 #[.val (.int p1), .val (.long q2), .second, .val (.int (p1 &&& (7 : Int32))), .unset, .unset, .unset, .unset, .unset] [(.int (p1 &&& (7 : Int32)))])) rfl (hb hby at_6) rfl (own_z p1).1 (cap := 7) (own_z p1).2 (by decide) (by decide) (by decide)
  obtain ⟨b1, g1⟩ : ∃ z, z = h0.size := ⟨_, rfl⟩
  have g_b1 : n0 ≤ b1 := Nat.le_trans Z0 (Nat.le_of_eq g1.symm)
  have sz_b1 : h0.size ≤ b1 := Nat.le_trans (Keep.refl h0 []).1 (Nat.le_of_eq g1.symm)
  rw [← g1] at A1 st1
  have K1 := Keep.ext (Keep.refl h0 []) E1
  have V_b1 := own_Arr.new A1 (own_z p1).1 rfl
  refine own_pre (B := (T1.setTop (mkF m 10 #[.val (.int p1), .val (.long q2), .second, .val (.int (p1 &&& (7 : Int32))), .val (.ref b1), .unset, .unset, .unset, .unset] []))) (fun t kt => ?_) ?_
  · show Steps p.tables e below (s₁.setTop (mkF m 6 _ [(.int (p1 &&& (7 : Int32)))])) _
    refine st1 _ ?_
    show Steps p.tables e below (T1.setTop (mkF m 8 _ [(.ref b1)])) _
    refine XS.astore X1.here hx rfl (hb hby at_8) rfl rfl (l' := #[.val (.int p1), .val (.long q2), .second, .val (.int (p1 &&& (7 : Int32))), .val (.ref b1), .unset, .unset, .unset, .unset]) rfl ?_
    exact kt
  obtain ⟨T2, h2, X2, e2, E2, A2, D2, -, st2⟩ := newO X1 hx hZ hown (hw _ (List.mem_of_getElem? (i := 1) rfl)) (hw _ (List.mem_of_getElem? (i := 2) rfl)) (hw _ (List.mem_of_getElem? (i := 3) rfl)) e1 (g := (mkF m 10 #[.val (.int p1), .val (.long q2), .second, .val (.int (p1 &&& (7 : Int32))), .val (.ref b1), .unset, .unset, .unset, .unset] [])) rfl (hb hby at_10) (by decide) (by decide)
  obtain ⟨b2, g2⟩ : ∃ z, z = h1.size := ⟨_, rfl⟩
  have ne_b1_b2 : b1 ≠ b2 := Nat.ne_of_lt (Nat.lt_of_lt_of_le V_b1.lt (Nat.le_of_eq g2.symm))
  have g_b2 : n0 ≤ b2 := Nat.le_trans (Nat.le_trans Z0 E1.1) (Nat.le_of_eq g2.symm)
  have sz_b2 : h0.size ≤ b2 := Nat.le_trans K1.1 (Nat.le_of_eq g2.symm)
  rw [← g2] at A2 D2 st2
  have V_b1_2 := V_b1.ext E2
  have K2 := Keep.ext K1 E2
  have E_b2 := A2
  have F_bytes_b2 : Fld Z h2 b2 "com/example/wardwire/wardwire/store/KeptAnswer" "bytes" "[B" .null := D2 (Or.inr (hw _ (List.mem_of_getElem? (i := 16) rfl))) (ty := (.array .byte)) (by decide)
  have F_length_b2 : Fld Z h2 b2 "com/example/wardwire/wardwire/store/KeptAnswer" "length" "J" (.long (0 : Int64)) := D2 (Or.inr (hw _ (List.mem_of_getElem? (i := 18) rfl))) (ty := .long) (by decide)
  refine own_pre (B := (T2.setTop (mkF m 17 #[.val (.int p1), .val (.long q2), .second, .val (.int (p1 &&& (7 : Int32))), .val (.ref b1), .unset, .unset, .unset, .unset] [(.long q2), (.ref b1), (.ref b2), (.ref b2)]))) (fun t kt => ?_) ?_
  · show Steps p.tables e below (T1.setTop (mkF m 10 _ [])) _
    refine st2 _ ?_
    show Steps p.tables e below (T2.setTop (mkF m 13 _ [(.ref b2)])) _
    refine XS.dup X2.here hx rfl (hb hby at_13) rfl rfl ?_
    show Steps p.tables e below (T2.setTop (mkF m 14 _ [(.ref b2), (.ref b2)])) _
    refine XS.aload X2.here hx rfl (hb hby at_14) rfl rfl ?_
    show Steps p.tables e below (T2.setTop (mkF m 16 _ [(.ref b1), (.ref b2), (.ref b2)])) _
    refine XS.lloadN X2.here hx rfl (hb hby at_16) rfl ?_
    exact kt
  obtain ⟨_, _, ⟨T3, L3, k3, n3⟩, -, X3, ⟨Lc3, hQ3, l3, y3, z3⟩, st3⟩ := X2.specialBack hx (y := (⟨"com/example/wardwire/wardwire/store/KeptAnswer", "<init>", "([BJ)V"⟩ : MethodName)) rfl hown (mvT hZ (hw _ (List.mem_of_getElem? (i := 4) rfl))) (mvT hZ (hw _ (List.mem_of_getElem? (i := 5) rfl))) (mvT hZ (hw _ (List.mem_of_getElem? (i := 6) rfl))) (by decide) (backOf (W := 1) (rm1 l Z a0 hw [] b2 b1 q2 h2 n0 (Nat.le_trans (Nat.le_trans Z0 E1.1) E2.1) E_b2 F_bytes_b2 F_length_b2 g_b2) hZ (hw _ (List.mem_of_getElem? (i := 6) rfl)) (hw _ (List.mem_of_getElem? (i := 3) rfl)) (by decide) (by decide)) (g := (mkF m 17 #[.val (.int p1), .val (.long q2), .second, .val (.int (p1 &&& (7 : Int32))), .val (.ref b1), .unset, .unset, .unset, .unset] [(.long q2), (.ref b1), (.ref b2), (.ref b2)])) rfl (by rw [hml]; rfl) (Steps.refl _) (a := b2) (argsL := [(.ref b1), (.long q2)]) (rest := [(.ref b2)]) (lenOf pd_0 rfl) rfl (by show 2 * 0 + _ ≤ _; exact Nat.le_of_eq rfl) (hb hby at_17) (fun _ _ => ⟨rfl, e2, (by decide : 2 + 0 ≤ _), (by decide : 9 + 0 ≤ _)⟩)
  dsimp only [Pt.U, Pt.locs, Pt.cells, Pt.slots] at X3 l3 y3 z3 st3 hQ3
  subst l3 y3 z3
  obtain ⟨rfl, N3q, KK3, EE3, FB3, FL3⟩ := hQ3
  have N3 := Fr.app N0 N3q
  have V_b1_3 := V_b1_2.keep KK3 (ninS ne_b1_b2 nin0)
  have E_b2_3 := E_b2.keep KK3
  have KC3 := Keep.trans K2 KK3 (allS (P := fun x => x ∈ [] ∨ h0.size ≤ x) (Or.inr sz_b2) all0)
  refine own_pre (B := (T3.setTop (mkF m 22 #[.val (.int p1), .val (.long q2), .second, .val (.int (p1 &&& (7 : Int32))), .val (.ref b1), .val (.ref b2), .unset, .unset, .unset] []))) (fun t kt => ?_) ?_
  · refine st3.trans ?_
    show Steps p.tables e below (T3.setTop (mkF m 20 _ [(.ref b2)])) _
    refine XS.astore X3.here hx rfl (hb hby at_20) rfl rfl (l' := #[.val (.int p1), .val (.long q2), .second, .val (.int (p1 &&& (7 : Int32))), .val (.ref b1), .val (.ref b2), .unset, .unset, .unset]) rfl ?_
    exact kt
  obtain ⟨T4, h4, X4, e4, E4, A4, D4, -, st4⟩ := newO X3 hx hZ hown (hw _ (List.mem_of_getElem? (i := 1) rfl)) (hw _ (List.mem_of_getElem? (i := 2) rfl)) (hw _ (List.mem_of_getElem? (i := 3) rfl)) rfl (g := (mkF m 22 #[.val (.int p1), .val (.long q2), .second, .val (.int (p1 &&& (7 : Int32))), .val (.ref b1), .val (.ref b2), .unset, .unset, .unset] [])) rfl (hb hby at_22) (by decide) (by decide)
  obtain ⟨b4, g4⟩ : ∃ z, z = T3.heap.size := ⟨_, rfl⟩
  have ne_b1_b4 : b1 ≠ b4 := Nat.ne_of_lt (Nat.lt_of_lt_of_le V_b1_3.lt (Nat.le_of_eq g4.symm))
  have ne_b2_b4 : b2 ≠ b4 := Nat.ne_of_lt (Nat.lt_of_lt_of_le E_b2_3.lt (Nat.le_of_eq g4.symm))
  have g_b4 : n0 ≤ b4 := Nat.le_trans (Nat.le_trans (Nat.le_trans (Nat.le_trans Z0 E1.1) E2.1) KK3.1) (Nat.le_of_eq g4.symm)
  have sz_b4 : h0.size ≤ b4 := Nat.le_trans KC3.1 (Nat.le_of_eq g4.symm)
  rw [← g4] at A4 D4 st4
  have V_b1_4 := V_b1_3.ext E4
  have E_b2_4 := E_b2_3.ext E4
  have FB3_4 := FB3.ext E4
  have FL3_4 := FL3.ext E4
  have K4 := Keep.ext KC3 E4
  have E_b4 := A4
  have F_bytes_b4 : Fld Z h4 b4 "com/example/wardwire/wardwire/store/KeptAnswer" "bytes" "[B" .null := D4 (Or.inr (hw _ (List.mem_of_getElem? (i := 16) rfl))) (ty := (.array .byte)) (by decide)
  have F_length_b4 : Fld Z h4 b4 "com/example/wardwire/wardwire/store/KeptAnswer" "length" "J" (.long (0 : Int64)) := D4 (Or.inr (hw _ (List.mem_of_getElem? (i := 18) rfl))) (ty := .long) (by decide)
  refine own_pre (B := (T4.setTop (mkF m 30 #[.val (.int p1), .val (.long q2), .second, .val (.int (p1 &&& (7 : Int32))), .val (.ref b1), .val (.ref b2), .unset, .unset, .unset] [(.long ((p1 &&& (7 : Int32)).toInt64)), (.ref b1), (.ref b4), (.ref b4)]))) (fun t kt => ?_) ?_
  · show Steps p.tables e below (T3.setTop (mkF m 22 _ [])) _
    refine st4 _ ?_
    show Steps p.tables e below (T4.setTop (mkF m 25 _ [(.ref b4)])) _
    refine XS.dup X4.here hx rfl (hb hby at_25) rfl rfl ?_
    show Steps p.tables e below (T4.setTop (mkF m 26 _ [(.ref b4), (.ref b4)])) _
    refine XS.aload X4.here hx rfl (hb hby at_26) rfl rfl ?_
    show Steps p.tables e below (T4.setTop (mkF m 28 _ [(.ref b1), (.ref b4), (.ref b4)])) _
    refine XS.iloadN X4.here hx rfl (hb hby at_28) rfl ?_
    show Steps p.tables e below (T4.setTop (mkF m 29 _ [(.int (p1 &&& (7 : Int32))), (.ref b1), (.ref b4), (.ref b4)])) _
    refine XS.i2l X4.here hx rfl (hb hby at_29) rfl ?_
    exact kt
  obtain ⟨_, _, ⟨T5, L5, k5, n5⟩, -, X5, ⟨Lc5, hQ5, l5, y5, z5⟩, st5⟩ := X4.specialBack hx (y := (⟨"com/example/wardwire/wardwire/store/KeptAnswer", "<init>", "([BJ)V"⟩ : MethodName)) rfl hown (mvT hZ (hw _ (List.mem_of_getElem? (i := 4) rfl))) (mvT hZ (hw _ (List.mem_of_getElem? (i := 5) rfl))) (mvT hZ (hw _ (List.mem_of_getElem? (i := 6) rfl))) (by decide) (backOf (W := 1) (rm1 l Z a0 hw [] b4 b1 ((p1 &&& (7 : Int32)).toInt64) h4 n0 (Nat.le_trans (Nat.le_trans (Nat.le_trans (Nat.le_trans Z0 E1.1) E2.1) KK3.1) E4.1) E_b4 F_bytes_b4 F_length_b4 g_b4) hZ (hw _ (List.mem_of_getElem? (i := 6) rfl)) (hw _ (List.mem_of_getElem? (i := 3) rfl)) (by decide) (by decide)) (g := (mkF m 30 #[.val (.int p1), .val (.long q2), .second, .val (.int (p1 &&& (7 : Int32))), .val (.ref b1), .val (.ref b2), .unset, .unset, .unset] [(.long ((p1 &&& (7 : Int32)).toInt64)), (.ref b1), (.ref b4), (.ref b4)])) rfl (by rw [hml]; rfl) (Steps.refl _) (a := b4) (argsL := [(.ref b1), (.long ((p1 &&& (7 : Int32)).toInt64))]) (rest := [(.ref b4)]) (lenOf pd_0 rfl) rfl (by show 2 * 0 + _ ≤ _; exact Nat.le_of_eq rfl) (hb hby at_30) (fun _ _ => ⟨rfl, e4, (by decide : 3 + 0 ≤ _), (by decide : 11 + 0 ≤ _)⟩)
  dsimp only [Pt.U, Pt.locs, Pt.cells, Pt.slots] at X5 l5 y5 z5 st5 hQ5
  subst l5 y5 z5
  obtain ⟨rfl, N5q, KK5, EE5, FB5, FL5⟩ := hQ5
  have N5 := Fr.app N3 N5q
  have V_b1_5 := V_b1_4.keep KK5 (ninS ne_b1_b4 nin0)
  have E_b2_5 := E_b2_4.keep KK5
  have FB3_5 := FB3_4.keep KK5 (ninS ne_b2_b4 nin0)
  have FL3_5 := FL3_4.keep KK5 (ninS ne_b2_b4 nin0)
  have E_b4_5 := E_b4.keep KK5
  have KC5 := Keep.trans K4 KK5 (allS (P := fun x => x ∈ [] ∨ h0.size ≤ x) (Or.inr sz_b4) all0)
  refine own_pre (B := (T5.setTop (mkF m 35 #[.val (.int p1), .val (.long q2), .second, .val (.int (p1 &&& (7 : Int32))), .val (.ref b1), .val (.ref b2), .val (.ref b4), .unset, .unset] []))) (fun t kt => ?_) ?_
  · refine st5.trans ?_
    show Steps p.tables e below (T5.setTop (mkF m 33 _ [(.ref b4)])) _
    refine XS.astore X5.here hx rfl (hb hby at_33) rfl rfl (l' := #[.val (.int p1), .val (.long q2), .second, .val (.int (p1 &&& (7 : Int32))), .val (.ref b1), .val (.ref b2), .val (.ref b4), .unset, .unset]) rfl ?_
    exact kt
  obtain ⟨T6, h6, X6, e6, E6, A6, D6, -, st6⟩ := newO X5 hx hZ hown (hw _ (List.mem_of_getElem? (i := 1) rfl)) (hw _ (List.mem_of_getElem? (i := 2) rfl)) (hw _ (List.mem_of_getElem? (i := 3) rfl)) rfl (g := (mkF m 35 #[.val (.int p1), .val (.long q2), .second, .val (.int (p1 &&& (7 : Int32))), .val (.ref b1), .val (.ref b2), .val (.ref b4), .unset, .unset] [])) rfl (hb hby at_35) (by decide) (by decide)
  obtain ⟨b6, g6⟩ : ∃ z, z = T5.heap.size := ⟨_, rfl⟩
  have ne_b1_b6 : b1 ≠ b6 := Nat.ne_of_lt (Nat.lt_of_lt_of_le V_b1_5.lt (Nat.le_of_eq g6.symm))
  have ne_b2_b6 : b2 ≠ b6 := Nat.ne_of_lt (Nat.lt_of_lt_of_le E_b2_5.lt (Nat.le_of_eq g6.symm))
  have ne_b4_b6 : b4 ≠ b6 := Nat.ne_of_lt (Nat.lt_of_lt_of_le E_b4_5.lt (Nat.le_of_eq g6.symm))
  have g_b6 : n0 ≤ b6 := Nat.le_trans (Nat.le_trans (Nat.le_trans (Nat.le_trans (Nat.le_trans (Nat.le_trans Z0 E1.1) E2.1) KK3.1) E4.1) KK5.1) (Nat.le_of_eq g6.symm)
  have sz_b6 : h0.size ≤ b6 := Nat.le_trans KC5.1 (Nat.le_of_eq g6.symm)
  rw [← g6] at A6 D6 st6
  have V_b1_6 := V_b1_5.ext E6
  have E_b2_6 := E_b2_5.ext E6
  have FB3_6 := FB3_5.ext E6
  have FL3_6 := FL3_5.ext E6
  have E_b4_6 := E_b4_5.ext E6
  have FB5_6 := FB5.ext E6
  have FL5_6 := FL5.ext E6
  have K6 := Keep.ext KC5 E6
  have E_b6 := A6
  have F_bytes_b6 : Fld Z h6 b6 "com/example/wardwire/wardwire/store/KeptAnswer" "bytes" "[B" .null := D6 (Or.inr (hw _ (List.mem_of_getElem? (i := 16) rfl))) (ty := (.array .byte)) (by decide)
  have F_length_b6 : Fld Z h6 b6 "com/example/wardwire/wardwire/store/KeptAnswer" "length" "J" (.long (0 : Int64)) := D6 (Or.inr (hw _ (List.mem_of_getElem? (i := 18) rfl))) (ty := .long) (by decide)
  refine own_pre (B := (T6.setTop (mkF m 45 #[.val (.int p1), .val (.long q2), .second, .val (.int (p1 &&& (7 : Int32))), .val (.ref b1), .val (.ref b2), .val (.ref b4), .unset, .unset] [(.long (((p1 &&& (7 : Int32)).toInt64) + (1 : Int64))), (.ref b1), (.ref b6), (.ref b6)]))) (fun t kt => ?_) ?_
  · show Steps p.tables e below (T5.setTop (mkF m 35 _ [])) _
    refine st6 _ ?_
    show Steps p.tables e below (T6.setTop (mkF m 38 _ [(.ref b6)])) _
    refine XS.dup X6.here hx rfl (hb hby at_38) rfl rfl ?_
    show Steps p.tables e below (T6.setTop (mkF m 39 _ [(.ref b6), (.ref b6)])) _
    refine XS.aload X6.here hx rfl (hb hby at_39) rfl rfl ?_
    show Steps p.tables e below (T6.setTop (mkF m 41 _ [(.ref b1), (.ref b6), (.ref b6)])) _
    refine XS.iloadN X6.here hx rfl (hb hby at_41) rfl ?_
    show Steps p.tables e below (T6.setTop (mkF m 42 _ [(.int (p1 &&& (7 : Int32))), (.ref b1), (.ref b6), (.ref b6)])) _
    refine XS.i2l X6.here hx rfl (hb hby at_42) rfl ?_
    show Steps p.tables e below (T6.setTop (mkF m 43 _ [(.long ((p1 &&& (7 : Int32)).toInt64)), (.ref b1), (.ref b6), (.ref b6)])) _
    refine XS.lconst X6.here hx rfl (hb hby at_43) ?_
    show Steps p.tables e below (T6.setTop (mkF m 44 _ [(.long (1 : Int64)), (.long ((p1 &&& (7 : Int32)).toInt64)), (.ref b1), (.ref b6), (.ref b6)])) _
    refine XS.ladd X6.here hx rfl (hb hby at_44) rfl ?_
    exact kt
  obtain ⟨_, _, ⟨T7, L7, k7, n7⟩, -, X7, ⟨Lc7, hQ7, l7, y7, z7⟩, st7⟩ := X6.specialBack hx (y := (⟨"com/example/wardwire/wardwire/store/KeptAnswer", "<init>", "([BJ)V"⟩ : MethodName)) rfl hown (mvT hZ (hw _ (List.mem_of_getElem? (i := 4) rfl))) (mvT hZ (hw _ (List.mem_of_getElem? (i := 5) rfl))) (mvT hZ (hw _ (List.mem_of_getElem? (i := 6) rfl))) (by decide) (backOf (W := 1) (rm1 l Z a0 hw [] b6 b1 (((p1 &&& (7 : Int32)).toInt64) + (1 : Int64)) h6 n0 (Nat.le_trans (Nat.le_trans (Nat.le_trans (Nat.le_trans (Nat.le_trans (Nat.le_trans Z0 E1.1) E2.1) KK3.1) E4.1) KK5.1) E6.1) E_b6 F_bytes_b6 F_length_b6 g_b6) hZ (hw _ (List.mem_of_getElem? (i := 6) rfl)) (hw _ (List.mem_of_getElem? (i := 3) rfl)) (by decide) (by decide)) (g := (mkF m 45 #[.val (.int p1), .val (.long q2), .second, .val (.int (p1 &&& (7 : Int32))), .val (.ref b1), .val (.ref b2), .val (.ref b4), .unset, .unset] [(.long (((p1 &&& (7 : Int32)).toInt64) + (1 : Int64))), (.ref b1), (.ref b6), (.ref b6)])) rfl (by rw [hml]; rfl) (Steps.refl _) (a := b6) (argsL := [(.ref b1), (.long (((p1 &&& (7 : Int32)).toInt64) + (1 : Int64)))]) (rest := [(.ref b6)]) (lenOf pd_0 rfl) rfl (by show 2 * 0 + _ ≤ _; exact Nat.le_of_eq rfl) (hb hby at_45) (fun _ _ => ⟨rfl, e6, (by decide : 4 + 0 ≤ _), (by decide : 13 + 0 ≤ _)⟩)
  dsimp only [Pt.U, Pt.locs, Pt.cells, Pt.slots] at X7 l7 y7 z7 st7 hQ7
  subst l7 y7 z7
  obtain ⟨rfl, N7q, KK7, EE7, FB7, FL7⟩ := hQ7
  have N7 := Fr.app N5 N7q
  have V_b1_7 := V_b1_6.keep KK7 (ninS ne_b1_b6 nin0)
  have E_b2_7 := E_b2_6.keep KK7
  have FB3_7 := FB3_6.keep KK7 (ninS ne_b2_b6 nin0)
  have FL3_7 := FL3_6.keep KK7 (ninS ne_b2_b6 nin0)
  have E_b4_7 := E_b4_6.keep KK7
  have FB5_7 := FB5_6.keep KK7 (ninS ne_b4_b6 nin0)
  have FL5_7 := FL5_6.keep KK7 (ninS ne_b4_b6 nin0)
  have E_b6_7 := E_b6.keep KK7
  have KC7 := Keep.trans K6 KK7 (allS (P := fun x => x ∈ [] ∨ h0.size ≤ x) (Or.inr sz_b6) all0)
  refine own_pre (B := (T7.setTop (mkF m 50 #[.val (.int p1), .val (.long q2), .second, .val (.int (p1 &&& (7 : Int32))), .val (.ref b1), .val (.ref b2), .val (.ref b4), .val (.ref b6), .unset] []))) (fun t kt => ?_) ?_
  · refine st7.trans ?_
    show Steps p.tables e below (T7.setTop (mkF m 48 _ [(.ref b6)])) _
    refine XS.astore X7.here hx rfl (hb hby at_48) rfl rfl (l' := #[.val (.int p1), .val (.long q2), .second, .val (.int (p1 &&& (7 : Int32))), .val (.ref b1), .val (.ref b2), .val (.ref b4), .val (.ref b6), .unset]) rfl ?_
    exact kt
  have KJ : ∀ ex : Int32, ((ex = 1 ∧ (p1 &&& (7 : Int32)).toInt64 < q2) ∨ (ex = 0 ∧ ¬ ((p1 &&& (7 : Int32)).toInt64 < q2))) → own_Ends p e below s room_1.cells room_1.slots (Q0 Z p1 q2 h0 n0) (T7.setTop (mkF m 78 #[.val (.int p1), .val (.long q2), .second, .val (.int (p1 &&& (7 : Int32))), .val (.ref b1), .val (.ref b2), .val (.ref b4), .val (.ref b6), .val (.int ex)] [])) := by
    intro ex hex
    refine own_pre (B := (T7.setTop (mkF m 80 #[.val (.int p1), .val (.long q2), .second, .val (.int (p1 &&& (7 : Int32))), .val (.ref b1), .val (.ref b2), .val (.ref b4), .val (.ref b6), .val (.int ex)] [(.ref b2)]))) (fun t kt => ?_) ?_
    · show Steps p.tables e below (T7.setTop (mkF m 78 _ [])) _
      refine XS.aload X7.here hx rfl (hb hby at_78) rfl rfl ?_
      exact kt
    obtain ⟨cq8, kq8, q8a, q8b, q8c⟩ := isOf hZ rfl E_b2_7
    obtain ⟨_, _, ⟨T8, L8, k8, n8⟩, -, X8, ⟨Lc8, hQ8, l8, y8, z8⟩, st8⟩ := X7.virtualBack hx (y := (⟨"com/example/wardwire/wardwire/store/KeptAnswer", "cut", "()Z"⟩ : MethodName)) (z := (⟨"com/example/wardwire/wardwire/store/KeptAnswer", "cut", "()Z"⟩ : MethodName)) hown (mvT hZ (hw _ (List.mem_of_getElem? (i := 19) rfl))) (mvT hZ (hw _ (List.mem_of_getElem? (i := 20) rfl))) (notFace_of_selects (args := #[]) (mvT hZ (hw _ (List.mem_of_getElem? (i := 22) rfl)))) (mvT hZ (hw _ (List.mem_of_getElem? (i := 22) rfl))) (mvT hZ (hw _ (List.mem_of_getElem? (i := 21) rfl))) (by decide) (backOf (W := 0) (rm4 l Z a0 hw [] b2 b1 q2 (p1 &&& (7 : Int32)) (fun _ => (0 : Int32)) T7.heap n0 (Nat.le_trans (Nat.le_trans (Nat.le_trans (Nat.le_trans (Nat.le_trans (Nat.le_trans (Nat.le_trans Z0 E1.1) E2.1) KK3.1) E4.1) KK5.1) E6.1) KK7.1) FB3_7 FL3_7 V_b1_7) hZ (hw _ (List.mem_of_getElem? (i := 23) rfl)) (hw _ (List.mem_of_getElem? (i := 3) rfl)) (by decide) (by decide)) q8a q8c (g := (mkF m 80 #[.val (.int p1), .val (.long q2), .second, .val (.int (p1 &&& (7 : Int32))), .val (.ref b1), .val (.ref b2), .val (.ref b4), .val (.ref b6), .val (.int ex)] [(.ref b2)])) rfl (by rw [hml]; rfl) (Steps.refl _) (argsL := []) (rest := []) (lenOf pd_2 rfl) rfl (by show 2 * 0 + _ ≤ _; exact Nat.le_of_eq rfl) (hb hby at_80) (fun _ _ => ⟨rfl, rfl, (by decide : 4 + 0 ≤ _), (by decide : 13 + 0 ≤ _)⟩)
    dsimp only [Pt.U, Pt.locs, Pt.cells, Pt.slots] at X8 l8 y8 z8 st8 hQ8
    subst l8 y8 z8
    obtain ⟨r1, rfl, N8q, e8, hr1⟩ := hQ8
    have N8 := Fr.app N7 N8q
    refine own_pre (B := (T8.setTop (mkF m 90 #[.val (.int p1), .val (.long q2), .second, .val (.int (p1 &&& (7 : Int32))), .val (.ref b1), .val (.ref b2), .val (.ref b4), .val (.ref b6), .val (.int ex)] [(.ref b4)]))) (fun t kt => ?_) ?_
    · refine st8.trans ?_
      show Steps p.tables e below (T8.setTop (mkF m 83 _ [(.int r1)])) _
      refine XS.iload X8.here hx rfl (hb hby at_83) rfl ?_
      show Steps p.tables e below (T8.setTop (mkF m 85 _ [(.int ex), (.int r1)])) _
      refine XS.icmpNo X8.here hx rfl (hb hby at_85) rfl (teq ((own_both hr1 hex) : r1 = ex)).2 ?_
      show Steps p.tables e below (T8.setTop (mkF m 88 _ [])) _
      refine XS.aload X8.here hx rfl (hb hby at_88) rfl rfl ?_
      exact kt
    obtain ⟨cq9, kq9, q9a, q9b, q9c⟩ := isOf hZ e8 E_b4_7
    obtain ⟨_, _, ⟨T9, L9, k9, n9⟩, -, X9, ⟨Lc9, hQ9, l9, y9, z9⟩, st9⟩ := X8.virtualBack hx (y := (⟨"com/example/wardwire/wardwire/store/KeptAnswer", "cut", "()Z"⟩ : MethodName)) (z := (⟨"com/example/wardwire/wardwire/store/KeptAnswer", "cut", "()Z"⟩ : MethodName)) hown (mvT hZ (hw _ (List.mem_of_getElem? (i := 19) rfl))) (mvT hZ (hw _ (List.mem_of_getElem? (i := 20) rfl))) (notFace_of_selects (args := #[]) (mvT hZ (hw _ (List.mem_of_getElem? (i := 22) rfl)))) (mvT hZ (hw _ (List.mem_of_getElem? (i := 22) rfl))) (mvT hZ (hw _ (List.mem_of_getElem? (i := 21) rfl))) (by decide) (backOf (W := 0) (rm4 l Z a0 hw [] b4 b1 ((p1 &&& (7 : Int32)).toInt64) (p1 &&& (7 : Int32)) (fun _ => (0 : Int32)) T7.heap n0 (Nat.le_trans (Nat.le_trans (Nat.le_trans (Nat.le_trans (Nat.le_trans (Nat.le_trans (Nat.le_trans Z0 E1.1) E2.1) KK3.1) E4.1) KK5.1) E6.1) KK7.1) FB5_7 FL5_7 V_b1_7) hZ (hw _ (List.mem_of_getElem? (i := 23) rfl)) (hw _ (List.mem_of_getElem? (i := 3) rfl)) (by decide) (by decide)) q9a q9c (g := (mkF m 90 #[.val (.int p1), .val (.long q2), .second, .val (.int (p1 &&& (7 : Int32))), .val (.ref b1), .val (.ref b2), .val (.ref b4), .val (.ref b6), .val (.int ex)] [(.ref b4)])) rfl (by rw [hml]; rfl) (Steps.refl _) (argsL := []) (rest := []) (lenOf pd_2 rfl) rfl (by show 2 * 0 + _ ≤ _; exact Nat.le_of_eq rfl) (hb hby at_90) (fun _ _ => ⟨rfl, e8, (by decide : 4 + 0 ≤ _), (by decide : 13 + 0 ≤ _)⟩)
    dsimp only [Pt.U, Pt.locs, Pt.cells, Pt.slots] at X9 l9 y9 z9 st9 hQ9
    subst l9 y9 z9
    obtain ⟨r2, rfl, N9q, e9, hr2⟩ := hQ9
    have N9 := Fr.app N8 N9q
    refine own_pre (B := (T9.setTop (mkF m 98 #[.val (.int p1), .val (.long q2), .second, .val (.int (p1 &&& (7 : Int32))), .val (.ref b1), .val (.ref b2), .val (.ref b4), .val (.ref b6), .val (.int ex)] [(.ref b6)]))) (fun t kt => ?_) ?_
    · refine st9.trans ?_
      show Steps p.tables e below (T9.setTop (mkF m 93 _ [(.int r2)])) _
      refine XS.ifNo X9.here hx rfl (hb hby at_93) rfl ((if0 _ _).trans (teq ((own_edge hr2) : r2 = (0 : Int32))).2) ?_
      show Steps p.tables e below (T9.setTop (mkF m 96 _ [])) _
      refine XS.aload X9.here hx rfl (hb hby at_96) rfl rfl ?_
      exact kt
    obtain ⟨cq10, kq10, q10a, q10b, q10c⟩ := isOf hZ e9 E_b6_7
    obtain ⟨_, _, ⟨T10, L10, k10, n10⟩, -, X10, ⟨Lc10, hQ10, l10, y10, z10⟩, st10⟩ := X9.virtualBack hx (y := (⟨"com/example/wardwire/wardwire/store/KeptAnswer", "cut", "()Z"⟩ : MethodName)) (z := (⟨"com/example/wardwire/wardwire/store/KeptAnswer", "cut", "()Z"⟩ : MethodName)) hown (mvT hZ (hw _ (List.mem_of_getElem? (i := 19) rfl))) (mvT hZ (hw _ (List.mem_of_getElem? (i := 20) rfl))) (notFace_of_selects (args := #[]) (mvT hZ (hw _ (List.mem_of_getElem? (i := 22) rfl)))) (mvT hZ (hw _ (List.mem_of_getElem? (i := 22) rfl))) (mvT hZ (hw _ (List.mem_of_getElem? (i := 21) rfl))) (by decide) (backOf (W := 0) (rm4 l Z a0 hw [] b6 b1 (((p1 &&& (7 : Int32)).toInt64) + (1 : Int64)) (p1 &&& (7 : Int32)) (fun _ => (0 : Int32)) T7.heap n0 (Nat.le_trans (Nat.le_trans (Nat.le_trans (Nat.le_trans (Nat.le_trans (Nat.le_trans (Nat.le_trans Z0 E1.1) E2.1) KK3.1) E4.1) KK5.1) E6.1) KK7.1) FB7 FL7 V_b1_7) hZ (hw _ (List.mem_of_getElem? (i := 23) rfl)) (hw _ (List.mem_of_getElem? (i := 3) rfl)) (by decide) (by decide)) q10a q10c (g := (mkF m 98 #[.val (.int p1), .val (.long q2), .second, .val (.int (p1 &&& (7 : Int32))), .val (.ref b1), .val (.ref b2), .val (.ref b4), .val (.ref b6), .val (.int ex)] [(.ref b6)])) rfl (by rw [hml]; rfl) (Steps.refl _) (argsL := []) (rest := []) (lenOf pd_2 rfl) rfl (by show 2 * 0 + _ ≤ _; exact Nat.le_of_eq rfl) (hb hby at_98) (fun _ _ => ⟨rfl, e9, (by decide : 4 + 0 ≤ _), (by decide : 13 + 0 ≤ _)⟩)
    dsimp only [Pt.U, Pt.locs, Pt.cells, Pt.slots] at X10 l10 y10 z10 st10 hQ10
    subst l10 y10 z10
    obtain ⟨r3, rfl, N10q, e10, hr3⟩ := hQ10
    have N10 := Fr.app N9 N10q
    refine own_pre (B := (T10.setTop (mkF m 109 #[.val (.int p1), .val (.long q2), .second, .val (.int (p1 &&& (7 : Int32))), .val (.ref b1), .val (.ref b2), .val (.ref b4), .val (.ref b6), .val (.int ex)] [(.int (1 : Int32))]))) (fun t kt => ?_) ?_
    · refine st10.trans ?_
      show Steps p.tables e below (T10.setTop (mkF m 101 _ [(.int r3)])) _
      refine XS.ifNo X10.here hx rfl (hb hby at_101) rfl ((if0 _ _).trans (feq ((own_past p1 hr3) : ¬ (r3 = (0 : Int32)))).1) ?_
      show Steps p.tables e below (T10.setTop (mkF m 104 _ [])) _
      refine XS.iconst X10.here hx rfl (hb hby at_104) ?_
      show Steps p.tables e below (T10.setTop (mkF m 105 _ [(.int (1 : Int32))])) _
      refine XS.goto X10.here hx rfl (pc0 := 105) (pc' := 109) rfl (hb hby at_105) (by decide) (by decide) ?_
      exact kt
    exact own_fin X10 (some (.int (1 : Int32))) (fun h => by rw [Bd.returns] at h; cases h) (BodyLoose.notSynchronized Bd) e10 (fun fs hr => retN X10 hx (t := .boolean) Bd.returns (by simp) (hb hby at_109) hr) ⟨rfl, N10⟩ (by decide) (by decide)
  refine own_pre (B := (T7.setTop (mkF m 53 #[.val (.int p1), .val (.long q2), .second, .val (.int (p1 &&& (7 : Int32))), .val (.ref b1), .val (.ref b2), .val (.ref b4), .val (.ref b6), .unset] [(.int (lcmpW q2 (0 : Int64)))]))) (fun t kt => ?_) ?_
  · show Steps p.tables e below (T7.setTop (mkF m 50 _ [])) _
    refine XS.lloadN X7.here hx rfl (hb hby at_50) rfl ?_
    show Steps p.tables e below (T7.setTop (mkF m 51 _ [(.long q2)])) _
    refine XS.lconst X7.here hx rfl (hb hby at_51) ?_
    show Steps p.tables e below (T7.setTop (mkF m 52 _ [(.long (0 : Int64)), (.long q2)])) _
    refine XS.lcmp X7.here hx rfl (hb hby at_52) rfl ?_
    exact kt
  by_cases hc53 : q2 < (0 : Int64)
  · refine own_pre (B := (T7.setTop (mkF m 56 #[.val (.int p1), .val (.long q2), .second, .val (.int (p1 &&& (7 : Int32))), .val (.ref b1), .val (.ref b2), .val (.ref b4), .val (.ref b6), .unset] []))) (fun t kt => ?_) ?_
    · show Steps p.tables e below (T7.setTop (mkF m 53 _ [(.int (lcmpW q2 (0 : Int64)))])) _
      refine XS.ifNo X7.here hx rfl (hb hby at_53) rfl ((if0 _ _).trans (tlt ((lw_lt _ _).mpr hc53)).2.1) ?_
      exact kt
    refine own_pre (B := (T7.setTop (mkF m 78 #[.val (.int p1), .val (.long q2), .second, .val (.int (p1 &&& (7 : Int32))), .val (.ref b1), .val (.ref b2), .val (.ref b4), .val (.ref b6), .val (.int (0 : Int32))] []))) (fun t kt => ?_) ?_
    · show Steps p.tables e below (T7.setTop (mkF m 56 _ [])) _
      refine XS.iconst X7.here hx rfl (hb hby at_56) ?_
      show Steps p.tables e below (T7.setTop (mkF m 57 _ [(.int (0 : Int32))])) _
      refine XS.istore X7.here hx rfl (hb hby at_57) rfl (l' := #[.val (.int p1), .val (.long q2), .second, .val (.int (p1 &&& (7 : Int32))), .val (.ref b1), .val (.ref b2), .val (.ref b4), .val (.ref b6), .val (.int (0 : Int32))]) rfl ?_
      show Steps p.tables e below (T7.setTop (mkF m 59 _ [])) _
      refine XS.goto X7.here hx rfl (pc0 := 59) (pc' := 78) rfl (hb hby at_59) (by decide) (by decide) ?_
      exact kt
    exact KJ _ (own_ex1 p1 q2 hc53)
  · refine own_pre (B := (T7.setTop (mkF m 62 #[.val (.int p1), .val (.long q2), .second, .val (.int (p1 &&& (7 : Int32))), .val (.ref b1), .val (.ref b2), .val (.ref b4), .val (.ref b6), .unset] []))) (fun t kt => ?_) ?_
    · show Steps p.tables e below (T7.setTop (mkF m 53 _ [(.int (lcmpW q2 (0 : Int64)))])) _
      refine XS.ifYes X7.here hx rfl (pc0 := 53) (pc' := 62) rfl (hb hby at_53) rfl ((if0 _ _).trans (flt (mt (lw_lt _ _).mp hc53)).2.1) (by decide) (by decide) ?_
      exact kt
    refine own_pre (B := (T7.setTop (mkF m 66 #[.val (.int p1), .val (.long q2), .second, .val (.int (p1 &&& (7 : Int32))), .val (.ref b1), .val (.ref b2), .val (.ref b4), .val (.ref b6), .unset] [(.int (lcmpW q2 ((p1 &&& (7 : Int32)).toInt64)))]))) (fun t kt => ?_) ?_
    · show Steps p.tables e below (T7.setTop (mkF m 62 _ [])) _
      refine XS.lloadN X7.here hx rfl (hb hby at_62) rfl ?_
      show Steps p.tables e below (T7.setTop (mkF m 63 _ [(.long q2)])) _
      refine XS.iloadN X7.here hx rfl (hb hby at_63) rfl ?_
      show Steps p.tables e below (T7.setTop (mkF m 64 _ [(.int (p1 &&& (7 : Int32))), (.long q2)])) _
      refine XS.i2l X7.here hx rfl (hb hby at_64) rfl ?_
      show Steps p.tables e below (T7.setTop (mkF m 65 _ [(.long ((p1 &&& (7 : Int32)).toInt64)), (.long q2)])) _
      refine XS.lcmp X7.here hx rfl (hb hby at_65) rfl ?_
      exact kt
    by_cases hc66 : ((p1 &&& (7 : Int32)).toInt64) < q2
    · refine own_pre (B := (T7.setTop (mkF m 75 #[.val (.int p1), .val (.long q2), .second, .val (.int (p1 &&& (7 : Int32))), .val (.ref b1), .val (.ref b2), .val (.ref b4), .val (.ref b6), .unset] []))) (fun t kt => ?_) ?_
      · show Steps p.tables e below (T7.setTop (mkF m 66 _ [(.int (lcmpW q2 ((p1 &&& (7 : Int32)).toInt64)))])) _
        refine XS.ifYes X7.here hx rfl (pc0 := 66) (pc' := 75) rfl (hb hby at_66) rfl ((if0 _ _).trans (tlt ((lw_gt _ _).mpr hc66)).2.2.1) (by decide) (by decide) ?_
        exact kt
      refine own_pre (B := (T7.setTop (mkF m 78 #[.val (.int p1), .val (.long q2), .second, .val (.int (p1 &&& (7 : Int32))), .val (.ref b1), .val (.ref b2), .val (.ref b4), .val (.ref b6), .val (.int (1 : Int32))] []))) (fun t kt => ?_) ?_
      · show Steps p.tables e below (T7.setTop (mkF m 75 _ [])) _
        refine XS.iconst X7.here hx rfl (hb hby at_75) ?_
        show Steps p.tables e below (T7.setTop (mkF m 76 _ [(.int (1 : Int32))])) _
        refine XS.istore X7.here hx rfl (hb hby at_76) rfl (l' := #[.val (.int p1), .val (.long q2), .second, .val (.int (p1 &&& (7 : Int32))), .val (.ref b1), .val (.ref b2), .val (.ref b4), .val (.ref b6), .val (.int (1 : Int32))]) rfl ?_
        exact kt
      exact KJ _ (Or.inl ⟨rfl, hc66⟩)
    · refine own_pre (B := (T7.setTop (mkF m 69 #[.val (.int p1), .val (.long q2), .second, .val (.int (p1 &&& (7 : Int32))), .val (.ref b1), .val (.ref b2), .val (.ref b4), .val (.ref b6), .unset] []))) (fun t kt => ?_) ?_
      · show Steps p.tables e below (T7.setTop (mkF m 66 _ [(.int (lcmpW q2 ((p1 &&& (7 : Int32)).toInt64)))])) _
        refine XS.ifNo X7.here hx rfl (hb hby at_66) rfl ((if0 _ _).trans (flt (mt (lw_gt _ _).mp hc66)).2.2.1) ?_
        exact kt
      refine own_pre (B := (T7.setTop (mkF m 78 #[.val (.int p1), .val (.long q2), .second, .val (.int (p1 &&& (7 : Int32))), .val (.ref b1), .val (.ref b2), .val (.ref b4), .val (.ref b6), .val (.int (0 : Int32))] []))) (fun t kt => ?_) ?_
      · show Steps p.tables e below (T7.setTop (mkF m 69 _ [])) _
        refine XS.iconst X7.here hx rfl (hb hby at_69) ?_
        show Steps p.tables e below (T7.setTop (mkF m 70 _ [(.int (0 : Int32))])) _
        refine XS.istore X7.here hx rfl (hb hby at_70) rfl (l' := #[.val (.int p1), .val (.long q2), .second, .val (.int (p1 &&& (7 : Int32))), .val (.ref b1), .val (.ref b2), .val (.ref b4), .val (.ref b6), .val (.int (0 : Int32))]) rfl ?_
        show Steps p.tables e below (T7.setTop (mkF m 72 _ [])) _
        refine XS.goto X7.here hx rfl (pc0 := 72) (pc' := 78) rfl (hb hby at_72) (by decide) (by decide) ?_
        exact kt
      exact KJ _ (Or.inr ⟨rfl, hc66⟩)
set_option maxRecDepth 65536 in
set_option maxHeartbeats 40000000 in
theorem comes_1 {Post : Tables → Env → Array Value → State → Outcome → State → Prop} (hpost : ∀ tb e args s v u, (limb_1_1.after args s (.returned v) u = true ∧ limb_1_2.after args s (.returned v) u = true ∧ True) → FrameEnd s (.returned v) u (Jvm.fieldLocs frame_1_writes args s ++ Jvm.arrayLocs frame_1_arrays args s ++ Jvm.staticLocs frame_1_statics s) 16 128 → Post tb e args s (.returned v) u) :
    ArmFor flags0 classFile x code maxLocals ret World_1 tables_1 room_1 Calls_1 rest_1 Pre_1 Post := by
  intro l hfl _ _ p e ha hc hk s m args below hf hA hF happ hP
  obtain ⟨hcalls, hrest, hpre⟩ := hP
  obtain ⟨-, -, -, hnamed, -, -, -, hat⟩ := (Spec.applies_iff hf).mp happ
  obtain ⟨hg, hn⟩ := and_e (Cond.before_iff.mp (show (Jvm.Cond.and given_1 narrow_1).before args s = true from hpre))
  obtain ⟨gc, gr0⟩ := and_e hg
  obtain ⟨ga0, gr1⟩ := and_e gr0
  obtain ⟨w0, w1, rfl⟩ : ∃ w0 w1 : Value, args = #[w0, w1] := by
    have hs : args.size = 2 := by simpa [Cond.value, given_1] using gc
    obtain ⟨L⟩ := args
    match L, hs with
    | [w0, w1], _ => exact ⟨w0, w1, rfl⟩
  have hw := fun d (hd : d ∈ tables_1) => atoms_spec (ws := Jvm.Cond.code x code maxLocals ret :: tables_1) hat d (List.mem_cons_of_mem _ hd)
  have hfit : Fit s := fun {y c} hc i hi => by
    obtain ⟨ha, rfl⟩ := Array.getElem?_eq_some_iff.mp hc
    have q := List.all_eq_true.mp ((Array.all_eq_true_iff_forall_mem.mp hF) _ (Array.getElem_mem ha)) i (List.mem_range.mpr hi)
    simpa [Array.getElem?_eq_getElem hi] using q
  obtain ⟨i0, ei0⟩ := is_v ga0
  obtain rfl : w0 = (.int i0) := Option.some.inj ei0
  obtain ⟨i1, ei1⟩ := isL_v gr1
  obtain rfl : w1 = (.long i1) := Option.some.inj ei1
  obtain ⟨n, o, h1, h2, h3, _, L, rfl, ⟨rfl, N⟩, hq⟩ := rm0 l s _ hw tables_1 i0 i1 s.heap s.heap.size (Nat.le_refl _)  p e ha hc hk s m _ below hf ((Spec.applies_iff_loose hf).mp happ).1 ⟨rfl, State.Warmed39.refl s, rfl⟩ trivial
  refine ⟨n, _, h1, h2, h3, hpost _ _ _ _ _ _ ⟨Cond.after_iff.mpr rfl, Cond.after_iff.mpr (eq_i res_at (Term.int_eval (1)) rfl), trivial⟩ ⟨hq.1, hq.2.1, (hq.2.2.sift fun y hy => Or.inr (N y hy)).mono (by decide) (by decide)⟩⟩
theorem main_1_1 : Claimed_1_1 := comes_1 fun _ _ _ _ _ _ h hF => ⟨h.1, hF⟩
theorem main_1_2 : Claimed_1_2 := comes_1 fun _ _ _ _ _ _ h hF => ⟨h.2.1, hF⟩
end Jvm.Pilot.@@N@@
namespace Jvm.Pilot.@@N@@
open Jvm Jvm.ClassFile Sem Op Lib Jvm.Free Jvm.Stand Jvm.Pilot.@@N@@.Jvm.D
/-! MADE BY PROGRAM (witnessworld.py) out of the Statement's table words and the real class files: 10 classes; the members and pool entries that the words name. The judged class is class 1, her method 1. -/
namespace start1
open Jvm.ClassFile
def u (s : String) : CpInfo := .utf8 (stringToUtf16 s)
/-- a pool by its gaps: so many unusable entries, then the entry; so many at the end -/
def gap : Nat → List CpInfo → List CpInfo
  | 0, r => r
  | n + 1, r => .unusable :: gap n r
def poolList (es : List (Nat × CpInfo)) (last : Nat) : List CpInfo := es.foldr (fun e r => gap e.1 (e.2 :: r)) (gap last [])
def pool (es : List (Nat × CpInfo)) (last : Nat) : Array CpInfo := ⟨poolList es last⟩
def fileOf (pool : Array CpInfo) (this : Nat) (attrs : Array Attribute := #[]) (ms : Array MethodInfo := #[]) (fl : Nat := 33) (sup : Nat := 0) (ifs : Array Nat := #[]) (fds : Array FieldInfo := #[]) : ClassFile where
  minorVersion := 0
  majorVersion := 65
  constantPool := pool
  accessFlags := fl
  thisClass := this
  superClass := sup
  interfaces := ifs
  fields := fds
  methods := ms
  attributes := attrs
def plain (name : String) (sup : Option ClassId) : Class where
  name := name
  kind := .ordinary
  loader := none
  accessFlags := 33
  super := sup
  interfaces := #[]
  cf := none
  fields := #[]
  methods := #[]
  instanceTypes := #[]
  staticTypes := #[]
  resolved := #[]
  callSites := []
  init := .initialized
  statics := none
  mirror := none

def pool0 : Array CpInfo := pool [(5, u "<init>"), (0, u "()V"), (1, .class_ 10), (1, u "java/lang/Object")] 113

def k0c0 : Code := { maxStack := 0, maxLocals := 1, code := object_method_1_code, exceptionTable := #[], attributes := #[] }
def k0m0 : Method := { name := "<init>", desc := "()V", sig := { parameters := [], returnType := none }, accessFlags := 1, code := some k0c0 }
/-- java/lang/Object -/
def k0 : Class := { plain "java/lang/Object" none with
  accessFlags := 33
  interfaces := #[]
  cf := some (fileOf pool0 8 #[] #[{ accessFlags := 1, nameIndex := 5, descriptorIndex := 6, attributes := #[] }] 33 0 #[] #[])
  fields := #[]
  methods := #[k0m0]
  instanceTypes := #[]
  staticTypes := #[]
  resolved := Array.replicate 124 none
  statics := none }

def pool1 : Array CpInfo := pool [(2, .class_ 4), (1, u "java/lang/Object"), (0, u "<init>"), (0, u "()V"), (0, .class_ 8), (0, u "com/example/wardwire/wardwire/store/KeptAnswer"), (0, .methodref 7 10), (0, .nameAndType 5 11), (0, u "([BJ)V"), (0, .methodref 7 13), (0, .nameAndType 14 15), (0, u "cut"), (0, u "()Z"), (0, .class_ 17), (0, u "com/example/wardwire/wardwire/store/KeptAnswerCutPinLaw"), (2, u "law"), (0, u "(IJ)Z")] 5

def k1m0 : Method := { name := "<init>", desc := "()V", sig := { parameters := [], returnType := none }, accessFlags := 1, code := none }
def k1c1 : Code := { maxStack := 7, maxLocals := 9, code := code, exceptionTable := #[], attributes := #[] }
def k1m1 : Method := { name := "law", desc := "(IJ)Z", sig := { parameters := [.int, .long], returnType := some .boolean }, accessFlags := 9, code := some k1c1 }
/-- com/example/wardwire/wardwire/store/KeptAnswerCutPinLaw -/
def k1 : Class := { plain "com/example/wardwire/wardwire/store/KeptAnswerCutPinLaw" (some 0) with
  accessFlags := 49
  interfaces := #[]
  cf := some (fileOf pool1 16 #[] #[{ accessFlags := 1, nameIndex := 5, descriptorIndex := 6, attributes := #[] }, { accessFlags := 9, nameIndex := 20, descriptorIndex := 21, attributes := #[] }] 49 2 #[] #[])
  fields := #[]
  methods := #[k1m0, k1m1]
  instanceTypes := #[]
  staticTypes := #[]
  resolved := Array.replicate 27 none
  statics := none }

def pool2 : Array CpInfo := pool [(1, .methodref 2 3), (0, .class_ 4), (0, .nameAndType 5 6), (0, u "java/lang/Object"), (0, u "<init>"), (0, u "()V"), (0, .class_ 8), (0, u "java/lang/Record")] 13

def k2c0 : Code := { maxStack := 1, maxLocals := 1, code := jdk_30_method_1_code, exceptionTable := #[], attributes := #[] }
def k2m0 : Method := { name := "<init>", desc := "()V", sig := { parameters := [], returnType := none }, accessFlags := 4, code := some k2c0 }
/-- java/lang/Record -/
def k2 : Class := { plain "java/lang/Record" (some 0) with
  accessFlags := 1057
  interfaces := #[]
  cf := some (fileOf pool2 7 #[] #[{ accessFlags := 4, nameIndex := 5, descriptorIndex := 6, attributes := #[] }] 1057 2 #[] #[])
  fields := #[]
  methods := #[k2m0]
  instanceTypes := #[]
  staticTypes := #[]
  resolved := Array.replicate 22 none
  statics := none }

def pool3 : Array CpInfo := pool [(1, .methodref 2 3), (0, .class_ 4), (0, .nameAndType 5 6), (0, u "java/lang/Record"), (0, u "<init>"), (0, u "()V"), (0, .fieldref 8 9), (0, .class_ 10), (0, .nameAndType 11 12), (0, u "com/example/wardwire/wardwire/store/KeptAnswer"), (0, u "bytes"), (0, u "[B"), (0, .fieldref 8 14), (0, .nameAndType 15 16), (0, u "length"), (0, u "J"), (14, u "([BJ)V"), (2, u "NONE"), (0, u "Lcom/example/wardwire/wardwire/store/KeptAnswer;"), (0, u "LONGEST"), (0, u "I"), (5, u "cut"), (0, u "()Z")] 28

def k3c0 : Code := { maxStack := 3, maxLocals := 4, code := prog_126_method_1_code, exceptionTable := #[], attributes := #[] }
def k3m0 : Method := { name := "<init>", desc := "([BJ)V", sig := { parameters := [(.array .byte), .long], returnType := none }, accessFlags := 1, code := some k3c0 }
def k3c1 : Code := { maxStack := 4, maxLocals := 1, code := prog_126_method_2_code, exceptionTable := #[], attributes := #[] }
def k3m1 : Method := { name := "cut", desc := "()Z", sig := { parameters := [], returnType := some .boolean }, accessFlags := 1, code := some k3c1 }
/-- com/example/wardwire/wardwire/store/KeptAnswer -/
def k3 : Class := { plain "com/example/wardwire/wardwire/store/KeptAnswer" (some 2) with
  accessFlags := 49
  interfaces := #[]
  cf := some (fileOf pool3 8 #[] #[{ accessFlags := 1, nameIndex := 5, descriptorIndex := 31, attributes := #[] }, { accessFlags := 1, nameIndex := 43, descriptorIndex := 44, attributes := #[] }] 49 2 #[] #[{ accessFlags := 18, nameIndex := 11, descriptorIndex := 12, attributes := #[] }, { accessFlags := 18, nameIndex := 15, descriptorIndex := 16, attributes := #[] }, { accessFlags := 25, nameIndex := 36, descriptorIndex := 37, attributes := #[] }, { accessFlags := 25, nameIndex := 34, descriptorIndex := 35, attributes := #[] }])
  fields := #[{ name := "bytes", type := (.array .byte), accessFlags := 18, slot := 0, constantValue := 0 }, { name := "length", type := .long, accessFlags := 18, slot := 1, constantValue := 0 }, { name := "LONGEST", type := .int, accessFlags := 25, slot := 0, constantValue := 0 }, { name := "NONE", type := (.object "com/example/wardwire/wardwire/store/KeptAnswer"), accessFlags := 25, slot := 1, constantValue := 0 }]
  methods := #[k3m0, k3m1]
  instanceTypes := #[(.array .byte), .long]
  staticTypes := #[.int, (.object "com/example/wardwire/wardwire/store/KeptAnswer")]
  resolved := Array.replicate 73 none
  statics := none }

def pool4 : Array CpInfo := pool [(1, u "java/lang/Cloneable"), (0, .class_ 1), (0, u "java/lang/Object"), (0, .class_ 3)] 3

/-- java/lang/Cloneable -/
def k4 : Class := { plain "java/lang/Cloneable" (some 0) with
  accessFlags := 1537
  interfaces := #[]
  cf := some (fileOf pool4 2 #[] #[] 1537 4 #[] #[])
  fields := #[]
  methods := #[]
  instanceTypes := #[]
  staticTypes := #[]
  resolved := Array.replicate 8 none
  statics := none }

def pool5 : Array CpInfo := pool [(1, u "java/io/Serializable"), (0, .class_ 1), (0, u "java/lang/Object"), (0, .class_ 3)] 3

/-- java/io/Serializable -/
def k5 : Class := { plain "java/io/Serializable" (some 0) with
  accessFlags := 1537
  interfaces := #[]
  cf := some (fileOf pool5 2 #[] #[] 1537 4 #[] #[])
  fields := #[]
  methods := #[]
  instanceTypes := #[]
  staticTypes := #[]
  resolved := Array.replicate 8 none
  statics := none }

/-- the primitive byte -/
def k6 : Class := { plain "byte" none with kind := .primitive 'B', accessFlags := 0x411 }
/-- [B -/
def k7 : Class := { plain "[B" (some 0) with kind := .array 6 .byte, interfaces := #[4, 5], accessFlags := 1041 }

/-- the primitive int -/
def k8 : Class := { plain "int" none with kind := .primitive 'I', accessFlags := 0x411 }
/-- [I -/
def k9 : Class := { plain "[I" (some 0) with kind := .array 8 .int, interfaces := #[4, 5], accessFlags := 1041 }

def heap : Heap := #[]
def classes : Array Class := #[k0, k1, k2, k3, k4, k5, k6, k7, k8, k9]
def interned : List (Array UInt16 × Addr) := []
def slotsUsed : Nat := 0
def theMethod : MethodId := ⟨1, 1⟩
def args0 : Array Value := #[.int 5, .long 7]
def aboutOver (below : List Frame) : State where
  vm := { classes := classes, interned := interned.toArray }
  heap := heap
  slotsUsed := slotsUsed
  threads := #[{ frames := .invoking theMethod args0 :: below }]
def below0 : List Frame := [.native { method := ⟨0, 0⟩, args := #[] }]
def about1 : State := aboutOver below0
def p0 : Program := .bare "" "" ""
def e0 : Env := launch0.env 0 0 0
theorem w_frames : about1.frames = Frame.invoking theMethod args0 :: below0 := rfl
set_option maxRecDepth 65536 in
theorem w_args : argsFit about1.vm theMethod args0 = true := by decide +kernel
set_option maxRecDepth 65536 in
theorem w_heap : heapFits about1 = true := by decide +kernel
set_option maxRecDepth 65536 in
theorem w_runnable : about1.curStatus? = some .runnable := by decide +kernel
set_option maxRecDepth 65536 in
theorem w_alone : about1.alone = true := by decide +kernel
set_option maxRecDepth 65536 in
theorem w_named : about1.methodNamed? x = some theMethod := by decide +kernel
set_option maxRecDepth 65536 in
theorem w_hears : about1.hears theMethod below0 = true := by decide +kernel
set_option maxRecDepth 65536 in
theorem w_ripe : about1.ripe theMethod args0 below0 = true := by decide +kernel
theorem w_running : about1.status = .running := rfl
set_option maxRecDepth 65536 in
theorem w_room : about1.hasRoom e0.platform room_1 = true :=
  launch0.hasRoom_least _ room_1 (by decide +kernel) (by decide +kernel) (by decide +kernel) (by decide +kernel) (by decide +kernel) (by decide +kernel)
theorem allAtoms_all (ts : List Jvm.Cond) (a : Array Jvm.Value) (st : Jvm.State) : (allAtoms ts).before a st = ts.all (fun c => c.before a st) := by
  induction ts with
  | nil => rfl
  | cons c t ih =>
    show (Jvm.Cond.and c (allAtoms t)).before a st = _
    rw [Jvm.Cond.before_and, ih, List.all_cons]
def words1 : List Jvm.Cond := Jvm.Cond.code x code maxLocals ret :: tables_1
/-- a 'code' word, met by the world's own term for the bytes: nothing is compared byte by byte -/
theorem code_word {y : MethodName} {bytes : ByteArray} {mx : Nat} {rt : Option FieldType} {a : Array Value} {s : State} {m : MethodId} {meth : Method} {c : Code} (h1 : s.methodNamed? y = some m) (h2 : s.vm.method? m = some meth) (h3 : meth.code = some c) (h4 : c.code = bytes)
    (h5 : (c.maxLocals == mx && c.exceptionTable.isEmpty && decide (c.maxStack ≤ mostOperands) && decide (meth.sig.returnType = rt) && !meth.locks && decide (parseMethodDescriptor y.desc = some meth.sig)) = true) : (Jvm.Cond.code y bytes mx rt).before a s = true := by
  simp only [Bool.and_eq_true, beq_iff_eq, Bool.not_eq_true', decide_eq_true_eq] at h5
  obtain ⟨⟨⟨⟨⟨g1, g2⟩, g3⟩, g4⟩, g5⟩, g6⟩ := h5
  simp [Cond.before, Cond.holds, Cond.value, h1, h2, h3, h4, g1, g2, g3, g4, g5, g6]
def isCode : Jvm.Cond → Bool
  | .code _ _ _ _ => true
  | _ => false
theorem all_split {L : List Jvm.Cond} {P : Jvm.Cond → Bool} (h1 : L.all (fun c => isCode c || P c) = true) (h2 : ∀ c ∈ L.filter isCode, P c = true) : L.all P = true := by
  refine List.all_eq_true.mpr fun c hc => ?_
  have h := List.all_eq_true.mp h1 c hc
  rcases Bool.eq_false_or_eq_true (isCode c) with hi | hi
  · exact h2 c (List.mem_filter.mpr ⟨hc, hi⟩)
  · simpa [hi] using h
set_option maxRecDepth 65536 in
theorem w_c0 : (Jvm.Cond.code x code maxLocals ret).before args0 about1 = true := code_word (m := ⟨1, 1⟩) (meth := k1m1) (c := k1c1) (by decide +kernel) rfl rfl rfl (by decide +kernel)
set_option maxRecDepth 65536 in
theorem w_c1 : (Jvm.Cond.code ({ cls := "com/example/wardwire/wardwire/store/KeptAnswer", name := "<init>", desc := "([BJ)V" } : Jvm.MethodName) prog_126_method_1_code (4 : Nat) (Option.none : Option Jvm.ClassFile.FieldType)).before args0 about1 = true := code_word (m := ⟨3, 0⟩) (meth := k3m0) (c := k3c0) (by decide +kernel) rfl rfl rfl (by decide +kernel)
set_option maxRecDepth 65536 in
theorem w_c2 : (Jvm.Cond.code ({ cls := "java/lang/Record", name := "<init>", desc := "()V" } : Jvm.MethodName) jdk_30_method_1_code (1 : Nat) (Option.none : Option Jvm.ClassFile.FieldType)).before args0 about1 = true := code_word (m := ⟨2, 0⟩) (meth := k2m0) (c := k2c0) (by decide +kernel) rfl rfl rfl (by decide +kernel)
set_option maxRecDepth 65536 in
theorem w_c3 : (Jvm.Cond.code ({ cls := "java/lang/Object", name := "<init>", desc := "()V" } : Jvm.MethodName) object_method_1_code (1 : Nat) (Option.none : Option Jvm.ClassFile.FieldType)).before args0 about1 = true := code_word (m := ⟨0, 0⟩) (meth := k0m0) (c := k0c0) (by decide +kernel) rfl rfl rfl (by decide +kernel)
set_option maxRecDepth 65536 in
theorem w_c4 : (Jvm.Cond.code ({ cls := "com/example/wardwire/wardwire/store/KeptAnswer", name := "cut", desc := "()Z" } : Jvm.MethodName) prog_126_method_2_code (1 : Nat) (Option.some Jvm.ClassFile.FieldType.boolean)).before args0 about1 = true := code_word (m := ⟨3, 1⟩) (meth := k3m1) (c := k3c1) (by decide +kernel) rfl rfl rfl (by decide +kernel)
def codes1 : List Jvm.Cond := [Jvm.Cond.code x code maxLocals ret, Jvm.Cond.code ({ cls := "com/example/wardwire/wardwire/store/KeptAnswer", name := "<init>", desc := "([BJ)V" } : Jvm.MethodName) prog_126_method_1_code (4 : Nat) (Option.none : Option Jvm.ClassFile.FieldType), Jvm.Cond.code ({ cls := "java/lang/Record", name := "<init>", desc := "()V" } : Jvm.MethodName) jdk_30_method_1_code (1 : Nat) (Option.none : Option Jvm.ClassFile.FieldType), Jvm.Cond.code ({ cls := "java/lang/Object", name := "<init>", desc := "()V" } : Jvm.MethodName) object_method_1_code (1 : Nat) (Option.none : Option Jvm.ClassFile.FieldType), Jvm.Cond.code ({ cls := "com/example/wardwire/wardwire/store/KeptAnswer", name := "cut", desc := "()Z" } : Jvm.MethodName) prog_126_method_2_code (1 : Nat) (Option.some Jvm.ClassFile.FieldType.boolean)]
set_option maxRecDepth 65536 in
theorem codes_eq : words1.filter isCode = codes1 := rfl
theorem w_codes : ∀ c ∈ words1.filter isCode, c.before args0 about1 = true := by
  rw [codes_eq]
  intro c hc
  simp only [codes1, List.mem_cons, List.not_mem_nil, or_false] at hc
  rcases hc with rfl | rfl | rfl | rfl | rfl
  · exact w_c0
  · exact w_c1
  · exact w_c2
  · exact w_c3
  · exact w_c4
set_option maxRecDepth 65536 in
theorem w_t1 : (words1.take 24).all (fun c => isCode c || c.before args0 about1) = true := by decide +kernel
set_option maxRecDepth 65536 in
theorem w_t2 : (words1.drop 24).all (fun c => isCode c || c.before args0 about1) = true := by decide +kernel
theorem w_tables : (allAtoms (Jvm.Cond.code x code maxLocals ret :: tables_1)).before args0 about1 = true := by
  rw [allAtoms_all]
  show words1.all (fun c => c.before args0 about1) = true
  refine all_split ?_ w_codes
  rw [← List.take_append_drop 24 words1, List.all_append, w_t1, w_t2]
  rfl
set_option maxRecDepth 65536 in
theorem w_case : (Jvm.Cond.and given_1 narrow_1).before args0 about1 = true := by decide +kernel
theorem w_applies : (headSpec (Jvm.Cond.code x code maxLocals ret :: tables_1) room_1).applies x e0.platform about1 = true :=
  (Spec.applies_iff w_frames).mpr ⟨w_running, w_runnable, w_alone, w_named, w_hears, w_ripe, w_room, w_tables⟩
theorem atStart : AtStart classFile x code maxLocals ret World_1 tables_1 room_1 Calls_1 rest_1 Pre_1 launch0 p0 e0 about1 theMethod args0 below0 :=
  ⟨lists_1, trivial, launch0.admits_env _ _ _, launch0.least_env, fairChoices_fair.cas, fairChoices_fair.clock, w_frames, w_args, w_heap, w_applies, trivial, trivial, w_case⟩
end start1
theorem witness_1 : WitnessClaimed_1 := ⟨start1.p0, start1.e0, start1.about1, start1.theMethod, start1.args0, start1.below0, start1.atStart⟩
end Jvm.Pilot.@@N@@
