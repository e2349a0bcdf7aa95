import JvmDerived
import JvmDerived.Pilot.@@N@@Statement
import JvmDerived.Pilot.@@N@@Code
set_option linter.unusedVariables false
set_option linter.unusedSimpArgs false
namespace Jvm.RoadKit
open Sem ClassFile Op Lib Jvm.Stand Jvm.Free Jvm.LawKit
section New
variable {p : Program} {l : Launch} {e : Env} {R : Room} {s : State} {m : MethodId} {args : Array Value} {below : List Frame} {meth : Method} {c : Code} {T : State} {locs : List Loc} {cells slots : Nat}
theorem retI (X : Stand p l e R s m args below meth c T locs cells slots) (hx : p.tables.exec = Jvm.exec) {pc : Nat} {Ls : Array Slot} {z : Int32} {rest : List Value} (hret : meth.sig.returnType = some .int) (hd : decode c.code pc = .ok (.ireturn, 1)) {fs : List Frame}
    (hl : ∀ (f : JFrame) (acts : List Action), f.method = m → f.locked = none → f.entered = [] → (doReturn e (T.setTop f) acts (some (.int z))).1 = T.setFrames fs) : Steps p.tables e below (T.setTop (mkF m pc Ls (.int z :: rest))) (T.setFrames fs) := by
  have hm' : T.vm.method? m = some meth := X.method'
  have hn : narrow .int (.int z) = .int z := rfl
  show Steps p.tables e below (T.setTop { method := m, pc := pc, locals := Ls, stack := _ :: rest, locked := none }) _
  jvm_step X.here [X.here.top, hx, hd, hm', hret, hn]
  first | (intro acts; rw [hl _ acts rfl rfl rfl]) | rw [hl _ _ rfl rfl rfl]
  exact Steps.refl _
end New
end Jvm.RoadKit
@@BLOCK:NumsL.lean.txt@@
namespace Jvm.Pilot.@@N@@
open Jvm Jvm.ClassFile Sem Op Lib Jvm.Free Jvm.Stand Jvm.LawKit Jvm.RoadKit Bundle Jvm.Pilot.@@N@@.Jvm.D
/-- from the state A this body's run ends in a return that Qp speaks of -/
def own_Ends (p : Program) (e : Env) (below : List Frame) (s : State) (k n : Nat) (Qp : Option Value → Heap → List Loc → Prop) (A : State) : Prop :=
  ∃ s₂ o, Steps p.tables e below A s₂ ∧ s₂.status = .running ∧ Ended s₂ below o ∧ ∃ v L, o = .returned v ∧ Qp v s₂.heap L ∧ FrameEnd s o s₂ L k n
theorem own_pre {p : Program} {e : Env} {below : List Frame} {s : State} {k n : Nat} {Qp : Option Value → Heap → List Loc → Prop} {A B : State} (hs : ∀ t, Steps p.tables e below B t → Steps p.tables e below A t) (h : own_Ends p e below s k n Qp B) : own_Ends p e below s k n Qp A := by
  obtain ⟨s₂, o, h1, h2⟩ := h
  exact ⟨s₂, o, hs _ h1, h2⟩
theorem own_fin {p : Program} {l : Launch} {e : Env} {R : Room} {s : State} {m : MethodId} {args : Array Value} {below : List Frame} {meth : Method} {c : Code} {T : State} {locs : List Loc} {cells slots k n : Nat} {Qp : Option Value → Heap → List Loc → Prop} {h : Heap} {F : JFrame}
    (X : Stand p l e R s m args below meth c T locs cells slots) (v : Option Value) (hv : meth.sig.returnType = none → v = none) (hlocks : meth.locks = false) (hh : T.heap = h)
    (hs : ∀ fs : List Frame, (∀ (f : JFrame) (acts : List Action), f.method = m → f.locked = none → f.entered = [] → (doReturn e (T.setTop f) acts v).1 = T.setFrames fs) → Steps p.tables e below (T.setTop F) (T.setFrames fs))
    (hQ : Qp v h locs) (hc : cells ≤ k) (hn : slots ≤ n) : own_Ends p e below s k n Qp (T.setTop F) := by
  obtain ⟨fs, hr, hrun, hended, hW, hsame⟩ := X.leave hv hlocks
  subst hh
  exact ⟨_, _, hs fs hr, hrun, hended, _, _, rfl, hQ, ⟨_, rfl⟩, hW, hsame.mono hc hn⟩
def own_upd (f : Nat → Int32) (j : Nat) (v : Int32) : Nat → Int32 := fun i => if i = j then v else f i
theorem own_upd_same {f : Nat → Int32} {j : Nat} {v : Int32} : own_upd f j v j = v := if_pos rfl
theorem own_upd_ne {f : Nat → Int32} {i j : Nat} {v : Int32} (q : ¬ i = j) : own_upd f j v i = f i := if_neg q
/-- the array at a, of n elements of kind ty, holds the int f i at each place i -/
def own_Arr (Z : State) (h : Heap) (a : Addr) (ty : FieldType) (n : Int32) (f : Nat → Int32) : Prop := ∃ c : Cell, Arr Z h a c ty ∧ c.slots.size = n.toNatClampNeg ∧ ¬ n < 0 ∧ ∀ i, i < c.slots.size → c.slots[i]? = some (.int (f i))
theorem own_Arr.lt {Z : State} {h : Heap} {a : Addr} {ty : FieldType} {n : Int32} {f : Nat → Int32} (F : own_Arr Z h a ty n f) : a < h.size := by obtain ⟨c, A, -⟩ := F; exact A.lt
theorem own_Arr.ext {Z : State} {h h' : Heap} {a : Addr} {ty : FieldType} {n : Int32} {f : Nat → Int32} (F : own_Arr Z h a ty n f) (E : Ext h h') : own_Arr Z h' a ty n f := by obtain ⟨c, A, r⟩ := F; exact ⟨c, A.ext E, r⟩
theorem own_Arr.other {Z : State} {h h' : Heap} {a b : Addr} {ty : FieldType} {n : Int32} {f : Nat → Int32} {sl : Nat} {v : Value} (F : own_Arr Z h b ty n f) (W : Wr h h' a sl v) (q : b ≠ a) : own_Arr Z h' b ty n f := by obtain ⟨c, A, r⟩ := F; exact ⟨c, A.other W q, r⟩
theorem own_Arr.keep {Z : State} {h h' : Heap} {a : Addr} {ty : FieldType} {n : Int32} {f : Nat → Int32} {ws : List Addr} (F : own_Arr Z h a ty n f) (K : Keep h h' ws) (q : a ∉ ws) : own_Arr Z h' a ty n f := by obtain ⟨c, A, r⟩ := F; exact ⟨c, ⟨K.2.1 a c A.1 q, A.2⟩, r⟩
theorem own_Arr.new {Z : State} {h : Heap} {a : Addr} {ty : FieldType} {n : Int32} {k : ClassId} (A : Arr Z h a (newA k ty n) ty) (q : ¬ n < 0) (d : defaultValue ty = .int 0) : own_Arr Z h a ty n (fun _ => 0) :=
  ⟨_, A, sz_new _ _ _, q, fun i hi => by rw [sz_new] at hi; simp [newA, hi, d]⟩
theorem own_Arr.set {Z : State} {h h' : Heap} {a : Addr} {ty : FieldType} {n j v : Int32} {f : Nat → Int32} (F : own_Arr Z h a ty n f) (W : Wr h h' a j.toNatClampNeg (.int v)) : own_Arr Z h' a ty n (own_upd f j.toNatClampNeg v) := by
  obtain ⟨c, A, S, N, H⟩ := F
  refine ⟨c.setSlot j.toNatClampNeg (.int v), A.same W, by rw [sz_set]; exact S, N, fun i hi => ?_⟩
  rw [sz_set] at hi
  by_cases q : i = j.toNatClampNeg
  · subst q
    rw [own_upd_same]
    simp [Cell.setSlot, hi]
  · rw [own_upd_ne q]
    show (c.slots.setIfInBounds j.toNatClampNeg (.int v))[i]? = _
    rw [Array.getElem?_setIfInBounds_ne (Ne.symm q)]
    exact H i hi
theorem own_Arr.congr {Z : State} {h : Heap} {a : Addr} {ty : FieldType} {n : Int32} {f g : Nat → Int32} (F : own_Arr Z h a ty n f) (q : ∀ i, i < n.toNatClampNeg → f i = g i) : own_Arr Z h a ty n g := by
  obtain ⟨c, A, S, N, H⟩ := F
  exact ⟨c, A, S, N, fun i hi => by rw [← q i (S ▸ hi)]; exact H i hi⟩
theorem own_upd_hit {f : Nat → Int32} {i j : Nat} {v : Int32} (q : i = j) : own_upd f j v i = v := if_pos q
theorem own_tn (x : Int32) : x.toNatClampNeg = x.toInt.toNat := rfl
theorem own_nb1 : nar .boolean (1 : Int32) = (1 : Int32) := by decide
theorem own_nb0 : nar .boolean (0 : Int32) = (0 : Int32) := by decide
theorem own_rng {n a : Int32} (h : ¬ a < 0 ∧ a < n) : 0 ≤ a.toInt ∧ a.toInt < n.toInt := by
  obtain ⟨h1, h2⟩ := h
  rw [Int32.lt_iff_toInt_lt] at h1 h2
  have e0 : (0 : Int32).toInt = 0 := by decide
  omega
theorem own_rng' {n a : Int32} (h : 0 ≤ a.toInt ∧ a.toInt < n.toInt) : ¬ a < 0 ∧ a < n := by
  rw [Int32.lt_iff_toInt_lt, Int32.lt_iff_toInt_lt]
  have e0 : (0 : Int32).toInt = 0 := by decide
  omega
/-- the object at a is a Members of n places: its flags f, its list g, its count k; its cells are new ones, and three -/
def own_Mem (Z : State) (h : Heap) (n0 : Nat) (a b c : Addr) (n : Int32) (f g : Nat → Int32) (k : Int32) : Prop := Exa Z h a "com/example/faregraph/faregraph/search/Members" ∧ Fld Z h a "com/example/faregraph/faregraph/search/Members" "member" "[Z" (.ref b) ∧ Fld Z h a "com/example/faregraph/faregraph/search/Members" "members" "[I" (.ref c) ∧ Fld Z h a "com/example/faregraph/faregraph/search/Members" "count" "I" (.int k) ∧ own_Arr Z h b .boolean n f ∧ own_Arr Z h c .int n g ∧ n0 ≤ a ∧ n0 ≤ b ∧ n0 ≤ c ∧ a ≠ b ∧ a ≠ c ∧ b ≠ c
theorem d1_0 : decode prog_85_method_1_code 0 = .ok (.aload_n 0, 1) := by decide +kernel
theorem d1_1 : decode prog_85_method_1_code 1 = .ok (.invokespecial 1, 3) := by decide +kernel
theorem d1_4 : decode prog_85_method_1_code 4 = .ok (.aload_n 0, 1) := by decide +kernel
theorem d1_5 : decode prog_85_method_1_code 5 = .ok (.iload_n 1, 1) := by decide +kernel
theorem d1_6 : decode prog_85_method_1_code 6 = .ok (.newarray .boolean, 2) := by decide +kernel
theorem d1_8 : decode prog_85_method_1_code 8 = .ok (.putfield 7, 3) := by decide +kernel
theorem d1_11 : decode prog_85_method_1_code 11 = .ok (.aload_n 0, 1) := by decide +kernel
theorem d1_12 : decode prog_85_method_1_code 12 = .ok (.iload_n 1, 1) := by decide +kernel
theorem d1_13 : decode prog_85_method_1_code 13 = .ok (.newarray .int, 2) := by decide +kernel
theorem d1_15 : decode prog_85_method_1_code 15 = .ok (.putfield 13, 3) := by decide +kernel
theorem d1_18 : decode prog_85_method_1_code 18 = .ok (.return_, 1) := by decide +kernel
theorem d3_0 : decode prog_85_method_2_code 0 = .ok (.aload_n 0, 1) := by decide +kernel
theorem d3_1 : decode prog_85_method_2_code 1 = .ok (.getfield 7, 3) := by decide +kernel
theorem d3_4 : decode prog_85_method_2_code 4 = .ok (.iload_n 1, 1) := by decide +kernel
theorem d3_5 : decode prog_85_method_2_code 5 = .ok (.baload, 1) := by decide +kernel
theorem d3_6 : decode prog_85_method_2_code 6 = .ok (.ifCond .eq 5, 3) := by decide +kernel
theorem d3_9 : decode prog_85_method_2_code 9 = .ok (.iconst 0, 1) := by decide +kernel
theorem d3_10 : decode prog_85_method_2_code 10 = .ok (.ireturn, 1) := by decide +kernel
theorem d3_11 : decode prog_85_method_2_code 11 = .ok (.aload_n 0, 1) := by decide +kernel
theorem d3_12 : decode prog_85_method_2_code 12 = .ok (.getfield 7, 3) := by decide +kernel
theorem d3_15 : decode prog_85_method_2_code 15 = .ok (.iload_n 1, 1) := by decide +kernel
theorem d3_16 : decode prog_85_method_2_code 16 = .ok (.iconst 1, 1) := by decide +kernel
theorem d3_17 : decode prog_85_method_2_code 17 = .ok (.bastore, 1) := by decide +kernel
theorem d3_18 : decode prog_85_method_2_code 18 = .ok (.aload_n 0, 1) := by decide +kernel
theorem d3_19 : decode prog_85_method_2_code 19 = .ok (.getfield 13, 3) := by decide +kernel
theorem d3_22 : decode prog_85_method_2_code 22 = .ok (.aload_n 0, 1) := by decide +kernel
theorem d3_23 : decode prog_85_method_2_code 23 = .ok (.dup, 1) := by decide +kernel
theorem d3_24 : decode prog_85_method_2_code 24 = .ok (.getfield 17, 3) := by decide +kernel
theorem d3_27 : decode prog_85_method_2_code 27 = .ok (.dup_x1, 1) := by decide +kernel
theorem d3_28 : decode prog_85_method_2_code 28 = .ok (.iconst 1, 1) := by decide +kernel
theorem d3_29 : decode prog_85_method_2_code 29 = .ok (.iadd, 1) := by decide +kernel
theorem d3_30 : decode prog_85_method_2_code 30 = .ok (.putfield 17, 3) := by decide +kernel
theorem d3_33 : decode prog_85_method_2_code 33 = .ok (.iload_n 1, 1) := by decide +kernel
theorem d3_34 : decode prog_85_method_2_code 34 = .ok (.iastore, 1) := by decide +kernel
theorem d3_35 : decode prog_85_method_2_code 35 = .ok (.iconst 1, 1) := by decide +kernel
theorem d3_36 : decode prog_85_method_2_code 36 = .ok (.ireturn, 1) := by decide +kernel
theorem d4_0 : decode prog_85_method_3_code 0 = .ok (.aload_n 0, 1) := by decide +kernel
theorem d4_1 : decode prog_85_method_3_code 1 = .ok (.getfield 17, 3) := by decide +kernel
theorem d4_4 : decode prog_85_method_3_code 4 = .ok (.ireturn, 1) := by decide +kernel
theorem d5_0 : decode prog_85_method_4_code 0 = .ok (.aload_n 0, 1) := by decide +kernel
theorem d5_1 : decode prog_85_method_4_code 1 = .ok (.getfield 13, 3) := by decide +kernel
theorem d5_4 : decode prog_85_method_4_code 4 = .ok (.iload_n 1, 1) := by decide +kernel
theorem d5_5 : decode prog_85_method_4_code 5 = .ok (.iaload, 1) := by decide +kernel
theorem d5_6 : decode prog_85_method_4_code 6 = .ok (.ireturn, 1) := by decide +kernel
theorem pn_0 : plainName "com/example/faregraph/faregraph/search/MembersAddPinLaw" = true := by first | (simp [plainName, overriddenIn]; done) | decide +kernel
theorem pn_1 : plainName "com/example/faregraph/faregraph/search/Members" = true := by first | (simp [plainName, overriddenIn]; done) | decide +kernel
theorem pn_3 : plainName "com/example/faregraph/faregraph/search/Members" = true := by first | (simp [plainName, overriddenIn]; done) | decide +kernel
theorem pn_4 : plainName "com/example/faregraph/faregraph/search/Members" = true := by first | (simp [plainName, overriddenIn]; done) | decide +kernel
theorem pn_5 : plainName "com/example/faregraph/faregraph/search/Members" = true := by first | (simp [plainName, overriddenIn]; done) | decide +kernel
theorem pd_0 : parseMethodDescriptor "(I)V" = some ⟨[.int], none⟩ := by decide +kernel
theorem pd_2 : parseMethodDescriptor "(I)Z" = some ⟨[.int], some .boolean⟩ := by decide +kernel
theorem pd_3 : parseMethodDescriptor "()I" = some ⟨[], some .int⟩ := by decide +kernel
theorem pd_4 : parseMethodDescriptor "(I)I" = some ⟨[.int], some .int⟩ := by decide +kernel
theorem ef_1 (m : MethodId) (x0 : Addr) (x1 : Int32) : entryFrame m #[(.ref x0), (.int x1)] 2 = mkF m 0 #[.val (.ref x0), .val (.int x1)] [] := by first | (simp [entryFrame, mkF, argsToLocals, Value.category]; done) | rfl
def Q1 (Z : State) (a1 : Addr) (p2 : Int32) (h0 : Heap) (n0 : Nat) (v : Option Value) (h : Heap) (L : List Loc) : Prop := v = none ∧ Fr n0 L ∧ Keep h0 h [a1] ∧ ∃ b c : Addr, h0.size ≤ b ∧ h0.size ≤ c ∧ own_Mem Z h n0 a1 b c p2 (fun _ => (0 : Int32)) (fun _ => (0 : Int32)) 0
set_option maxRecDepth 65536 in
set_option maxHeartbeats 40000000 in
theorem rm1 (l : Launch) (Z : State) (a0 : Array Value) (hw : ∀ d ∈ tables_1, d.before a0 Z = true) (ws : List Jvm.Cond) (a1 : Addr) (p2 : Int32) (h0 : Heap) (n0 : Nat) (Z0 : n0 ≤ h0.size) (E_a1 : Exa Z h0 a1 "com/example/faregraph/faregraph/search/Members") (F_m : Fld Z h0 a1 "com/example/faregraph/faregraph/search/Members" "member" "[Z" .null) (F_s : Fld Z h0 a1 "com/example/faregraph/faregraph/search/Members" "members" "[I" .null) (F_c : Fld Z h0 a1 "com/example/faregraph/faregraph/search/Members" "count" "I" (.int (0 : Int32))) (g_a1 : n0 ≤ a1) (hp : ¬ p2 < 0) (hcap : p2.toNatClampNeg ≤ 8) :
    MetFree l (⟨"com/example/faregraph/faregraph/search/Members", "<init>", "(I)V"⟩ : MethodName) (head1 (Jvm.Cond.code (⟨"com/example/faregraph/faregraph/search/Members", "<init>", "(I)V"⟩ : MethodName) prog_85_method_1_code 2 none :: ws) ({ frames := 1, cells := 2, slots := 16, locals := 12 } : Room)) (fun a U => a = #[(.ref a1), (.int p2)] ∧ Z.Warmed39 U.vm ∧ U.heap = h0) (fun _ _ _ _ _ => True) (fun _ U o U' => ∃ v L, o = .returned v ∧ Q1 Z a1 p2 h0 n0 v U'.heap L ∧ FrameEnd U o U' L ({ frames := 1, cells := 2, slots := 16, locals := 12 } : Room).cells ({ frames := 1, cells := 2, slots := 16, locals := 12 } : Room).slots) := by
  refine MetFree.of_bodySF (plainFor_of_name pn_1) hisR ?_
  intro p e s m args below meth c s₁ Bd hml0 hP hK
  obtain ⟨rfl, hZ, hh⟩ := hP
  have hx := Bd.exec
  have hby := Bd.bytes
  have hml : c.maxLocals = 2 := hml0
  have hown : s.vm.findClass "com/example/faregraph/faregraph/search/Members" = some m.cls := findClass_of_methodNamed Bd.named
  have hnm := (name_of_methodNamed Bd.named Bd.method).1
  have X0 : Stand p l e ({ frames := 1, cells := 2, slots := 16, locals := 12 } : Room) s m #[(.ref a1), (.int p2)] below meth c s₁ [] 0 0 := Stand.of_body Bd
  have e0 : s₁.heap = h0 := by rw [← hh, Bd.state]; rfl
  have N0 := Fr.nil n0
  show own_Ends p e below s ({ frames := 1, cells := 2, slots := 16, locals := 12 } : Room).cells ({ frames := 1, cells := 2, slots := 16, locals := 12 } : Room).slots (Q1 Z a1 p2 h0 n0) (s₁.setTop (entryFrame m #[(.ref a1), (.int p2)] 2))
  rw [ef_1 m a1 p2]
  refine own_pre (B := (s₁.setTop (mkF m 1 #[.val (.ref a1), .val (.int p2)] [(.ref a1)]))) (fun t kt => ?_) ?_
  · show Steps p.tables e below (s₁.setTop (mkF m 0 _ [])) _
    refine XS.aloadN X0.here hx rfl (hb hby d1_0) rfl rfl ?_
    exact kt
  obtain ⟨T1, X1, e1, st1⟩ := initO X0 hx hZ hown (hw _ (List.mem_of_getElem? (i := 8) rfl)) (hw _ (List.mem_of_getElem? (i := 9) rfl)) (hw _ (List.mem_of_getElem? (i := 10) rfl)) e0 (g := (mkF m 1 #[.val (.ref a1), .val (.int p2)] [(.ref a1)])) rfl (by rw [hml]; rfl) rfl (hb hby d1_1) (by decide) (W := 0) (by show 2 * 0 + _ ≤ _; exact Nat.le_of_eq rfl) (by decide)
  refine own_pre (B := (T1.setTop (mkF m 6 #[.val (.ref a1), .val (.int p2)] [(.int p2), (.ref a1)]))) (fun t kt => ?_) ?_
  · show Steps p.tables e below (s₁.setTop (mkF m 1 _ [(.ref a1)])) _
    refine st1 _ ?_
    show Steps p.tables e below (T1.setTop (mkF m 4 _ [])) _
    refine XS.aloadN X1.here hx rfl (hb hby d1_4) rfl rfl ?_
    show Steps p.tables e below (T1.setTop (mkF m 5 _ [(.ref a1)])) _
    refine XS.iloadN X1.here hx rfl (hb hby d1_5) rfl ?_
    exact kt
  obtain ⟨T2, h2, k2, X2, e2, E2, A2, st2⟩ := newP X1 hx hZ (hw _ (List.mem_of_getElem? (i := 11) rfl)) e1 (g := (mkF m 6 #[.val (.ref a1), .val (.int p2)] [(.int p2), (.ref a1)])) rfl (hb hby d1_6) rfl hp (cap := 8) hcap (by decide) (by decide) (by decide)
  obtain ⟨b2, g2⟩ : ∃ z, z = h0.size := ⟨_, rfl⟩
  have ne_a1_b2 : a1 ≠ b2 := Nat.ne_of_lt (Nat.lt_of_lt_of_le E_a1.lt (Nat.le_of_eq g2.symm))
  have g_b2 : n0 ≤ b2 := Nat.le_trans Z0 (Nat.le_of_eq g2.symm)
  have sz_b2 : h0.size ≤ b2 := Nat.le_trans (Keep.refl h0 [a1]).1 (Nat.le_of_eq g2.symm)
  rw [← g2] at A2 st2
  have E_a1_2 := E_a1.ext E2
  have F_m_2 := F_m.ext E2
  have F_s_2 := F_s.ext E2
  have F_c_2 := F_c.ext E2
  have K2 := Keep.ext (Keep.refl h0 [a1]) E2
  have V_b2 := own_Arr.new A2 hp rfl
  refine own_pre (B := (T2.setTop (mkF m 8 #[.val (.ref a1), .val (.int p2)] [(.ref b2), (.ref a1)]))) (fun t kt => ?_) ?_
  · show Steps p.tables e below (T1.setTop (mkF m 6 _ [(.int p2), (.ref a1)])) _
    refine st2 _ ?_
    exact kt
  obtain ⟨T3, h3, X3, e3, W3, st3⟩ := putF X2 hx hZ hown (host := "") (Or.inl (hw _ (List.mem_of_getElem? (i := 12) rfl))) Via.refl e2 F_m_2 E_a1_2 (Or.inr ⟨(hw _ (List.mem_of_getElem? (i := 13) rfl)), rfl, hnm⟩) (hw _ (List.mem_of_getElem? (i := 3) rfl)) (ty := (.array .boolean)) (by decide) rfl rfl (g := (mkF m 8 #[.val (.ref a1), .val (.int p2)] [(.ref b2), (.ref a1)])) rfl rfl (hb hby d1_8)
  have F_member_a1_3 := F_m_2.same W3
  have E_a1_3 := E_a1_2.wr W3
  have F_s_3 := F_s_2.other W3 (Or.inr (slot_ne (Or.inr (hw _ (List.mem_of_getElem? (i := 15) rfl))) (Or.inr (hw _ (List.mem_of_getElem? (i := 13) rfl))) (by decide) (t := (.array .int)) (t' := (.array .boolean)) (by decide) (by decide)))
  have F_c_3 := F_c_2.other W3 (Or.inr (slot_ne (Or.inl (hw _ (List.mem_of_getElem? (i := 22) rfl))) (Or.inr (hw _ (List.mem_of_getElem? (i := 13) rfl))) (by decide) (t := .int) (t' := (.array .boolean)) (by decide) (by decide)))
  have V_b2_3 := V_b2.other W3 (Ne.symm ne_a1_b2)
  have N3 := Fr.snoc X3 N0 g_a1
  have K3 := Keep.wr K2 W3 (Or.inl (List.mem_of_getElem? (i := 0) rfl))
  refine own_pre (B := (T3.setTop (mkF m 13 #[.val (.ref a1), .val (.int p2)] [(.int p2), (.ref a1)]))) (fun t kt => ?_) ?_
  · show Steps p.tables e below (T2.setTop (mkF m 8 _ [(.ref b2), (.ref a1)])) _
    refine st3 _ ?_
    show Steps p.tables e below (T3.setTop (mkF m 11 _ [])) _
    refine XS.aloadN X3.here hx rfl (hb hby d1_11) rfl rfl ?_
    show Steps p.tables e below (T3.setTop (mkF m 12 _ [(.ref a1)])) _
    refine XS.iloadN X3.here hx rfl (hb hby d1_12) rfl ?_
    exact kt
  obtain ⟨T4, h4, k4, X4, e4, E4, A4, st4⟩ := newP X3 hx hZ (hw _ (List.mem_of_getElem? (i := 1) rfl)) e3 (g := (mkF m 13 #[.val (.ref a1), .val (.int p2)] [(.int p2), (.ref a1)])) rfl (hb hby d1_13) rfl hp (cap := 8) hcap (by decide) (by decide) (by decide)
  obtain ⟨b4, g4⟩ : ∃ z, z = h3.size := ⟨_, rfl⟩
  have ne_a1_b4 : a1 ≠ b4 := Nat.ne_of_lt (Nat.lt_of_lt_of_le E_a1_3.lt (Nat.le_of_eq g4.symm))
  have ne_b2_b4 : b2 ≠ b4 := Nat.ne_of_lt (Nat.lt_of_lt_of_le V_b2_3.lt (Nat.le_of_eq g4.symm))
  have g_b4 : n0 ≤ b4 := Nat.le_trans (Nat.le_trans (Nat.le_trans Z0 E2.1) (Keep.of_wr W3).1) (Nat.le_of_eq g4.symm)
  have sz_b4 : h0.size ≤ b4 := Nat.le_trans K3.1 (Nat.le_of_eq g4.symm)
  rw [← g4] at A4 st4
  have E_a1_4 := E_a1_3.ext E4
  have F_s_4 := F_s_3.ext E4
  have F_c_4 := F_c_3.ext E4
  have V_b2_4 := V_b2_3.ext E4
  have F_member_a1_4 := F_member_a1_3.ext E4
  have K4 := Keep.ext K3 E4
  have V_b4 := own_Arr.new A4 hp rfl
  refine own_pre (B := (T4.setTop (mkF m 15 #[.val (.ref a1), .val (.int p2)] [(.ref b4), (.ref a1)]))) (fun t kt => ?_) ?_
  · show Steps p.tables e below (T3.setTop (mkF m 13 _ [(.int p2), (.ref a1)])) _
    refine st4 _ ?_
    exact kt
  obtain ⟨T5, h5, X5, e5, W5, st5⟩ := putF X4 hx hZ hown (host := "") (Or.inl (hw _ (List.mem_of_getElem? (i := 14) rfl))) Via.refl e4 F_s_4 E_a1_4 (Or.inr ⟨(hw _ (List.mem_of_getElem? (i := 15) rfl)), rfl, hnm⟩) (hw _ (List.mem_of_getElem? (i := 3) rfl)) (ty := (.array .int)) (by decide) rfl rfl (g := (mkF m 15 #[.val (.ref a1), .val (.int p2)] [(.ref b4), (.ref a1)])) rfl rfl (hb hby d1_15)
  have F_members_a1_5 := F_s_4.same W5
  have E_a1_5 := E_a1_4.wr W5
  have F_c_5 := F_c_4.other W5 (Or.inr (slot_ne (Or.inl (hw _ (List.mem_of_getElem? (i := 22) rfl))) (Or.inr (hw _ (List.mem_of_getElem? (i := 15) rfl))) (by decide) (t := .int) (t' := (.array .int)) (by decide) (by decide)))
  have V_b2_5 := V_b2_4.other W5 (Ne.symm ne_a1_b2)
  have F_member_a1_5 := F_member_a1_4.other W5 (Or.inr (slot_ne (Or.inr (hw _ (List.mem_of_getElem? (i := 13) rfl))) (Or.inr (hw _ (List.mem_of_getElem? (i := 15) rfl))) (by decide) (t := (.array .boolean)) (t' := (.array .int)) (by decide) (by decide)))
  have V_b4_5 := V_b4.other W5 (Ne.symm ne_a1_b4)
  have N5 := Fr.snoc X5 N3 g_a1
  have K5 := Keep.wr K4 W5 (Or.inl (List.mem_of_getElem? (i := 0) rfl))
  refine own_pre (B := (T5.setTop (mkF m 18 #[.val (.ref a1), .val (.int p2)] []))) (fun t kt => ?_) ?_
  · show Steps p.tables e below (T4.setTop (mkF m 15 _ [(.ref b4), (.ref a1)])) _
    refine st5 _ ?_
    exact kt
  exact own_fin X5 none (fun _ => rfl) (BodyLoose.notSynchronized Bd) e5 (fun fs hr => X5.returnOut hx Bd.returns (hb hby d1_18) hr) ⟨rfl, N5, K5, b2, b4, sz_b2, sz_b4, E_a1_5, F_member_a1_5, F_members_a1_5, F_c_5, V_b2_5, V_b4_5, g_a1, g_b2, g_b4, ne_a1_b2, ne_a1_b4, ne_b2_b4⟩ (by decide) (by decide)
theorem ef_3n (m : MethodId) (x0 : Addr) (x1 : Int32) : entryFrame m #[(.ref x0), (.int x1)] 2 = mkF m 0 #[.val (.ref x0), .val (.int x1)] [] := by first | (simp [entryFrame, mkF, argsToLocals, Value.category]; done) | rfl
def Q3n (Z : State) (a1 b2 c3 : Addr) (nn kk : Int32) (ff gg : Nat → Int32) (p2 : Int32) (h0 : Heap) (n0 : Nat) (v : Option Value) (h : Heap) (L : List Loc) : Prop := v = some (.int 1) ∧ Fr n0 L ∧ Keep h0 h [a1, b2, c3] ∧ own_Mem Z h n0 a1 b2 c3 nn (own_upd ff p2.toNatClampNeg 1) (own_upd gg kk.toNatClampNeg p2) (kk + 1)
set_option maxRecDepth 65536 in
set_option maxHeartbeats 40000000 in
theorem rm3n (l : Launch) (Z : State) (a0 : Array Value) (hw : ∀ d ∈ tables_1, d.before a0 Z = true) (ws : List Jvm.Cond) (a1 b2 c3 : Addr) (nn kk : Int32) (ff gg : Nat → Int32) (p2 : Int32) (h0 : Heap) (n0 : Nat) (Z0 : n0 ≤ h0.size) (M : own_Mem Z h0 n0 a1 b2 c3 nn ff gg kk) (hv : ¬ p2 < 0 ∧ p2 < nn) (hk : ¬ kk < 0 ∧ kk < nn) (hf : ff p2.toNatClampNeg = 0) :
    MetFree l (⟨"com/example/faregraph/faregraph/search/Members", "add", "(I)Z"⟩ : MethodName) (head1 (Jvm.Cond.code (⟨"com/example/faregraph/faregraph/search/Members", "add", "(I)Z"⟩ : MethodName) prog_85_method_2_code 2 (some .boolean) :: ws) ({ frames := 0, cells := 0, slots := 0, locals := 0 } : Room)) (fun a U => a = #[(.ref a1), (.int p2)] ∧ Z.Warmed39 U.vm ∧ U.heap = h0) (fun _ _ _ _ _ => True) (fun _ U o U' => ∃ v L, o = .returned v ∧ Q3n Z a1 b2 c3 nn kk ff gg p2 h0 n0 v U'.heap L ∧ FrameEnd U o U' L ({ frames := 0, cells := 0, slots := 0, locals := 0 } : Room).cells ({ frames := 0, cells := 0, slots := 0, locals := 0 } : Room).slots) := by
  refine MetFree.of_bodySF (plainFor_of_name pn_3) hisR ?_
  intro p e s m args below meth c s₁ Bd hml0 hP hK
  obtain ⟨rfl, hZ, hh⟩ := hP
  have hx := Bd.exec
  have hby := Bd.bytes
  have hml : c.maxLocals = 2 := hml0
  have hown : s.vm.findClass "com/example/faregraph/faregraph/search/Members" = some m.cls := findClass_of_methodNamed Bd.named
  have hnm := (name_of_methodNamed Bd.named Bd.method).1
  have X0 : Stand p l e ({ frames := 0, cells := 0, slots := 0, locals := 0 } : Room) s m #[(.ref a1), (.int p2)] below meth c s₁ [] 0 0 := Stand.of_body Bd
  have e0 : s₁.heap = h0 := by rw [← hh, Bd.state]; rfl
  have N0 := Fr.nil n0
  show own_Ends p e below s ({ frames := 0, cells := 0, slots := 0, locals := 0 } : Room).cells ({ frames := 0, cells := 0, slots := 0, locals := 0 } : Room).slots (Q3n Z a1 b2 c3 nn kk ff gg p2 h0 n0) (s₁.setTop (entryFrame m #[(.ref a1), (.int p2)] 2))
  rw [ef_3n m a1 p2]
  obtain ⟨E_a1, F_m, F_s, F_c, V_b, V_c, g_a1, g_bb, g_cc, ne_ab, ne_ac, ne_bc⟩ := M
  refine own_pre (B := (s₁.setTop (mkF m 1 #[.val (.ref a1), .val (.int p2)] [(.ref a1)]))) (fun t kt => ?_) ?_
  · show Steps p.tables e below (s₁.setTop (mkF m 0 _ [])) _
    refine XS.aloadN X0.here hx rfl (hb hby d3_0) rfl rfl ?_
    exact kt
  obtain ⟨T1, X1, e1, st1⟩ := getF X0 hx hZ hown (host := "") (Or.inl (hw _ (List.mem_of_getElem? (i := 12) rfl))) Via.refl e0 F_m (g := (mkF m 1 #[.val (.ref a1), .val (.int p2)] [(.ref a1)])) rfl rfl (hb hby d3_1)
  refine own_pre (B := (T1.setTop (mkF m 5 #[.val (.ref a1), .val (.int p2)] [(.int p2), (.ref b2)]))) (fun t kt => ?_) ?_
  · show Steps p.tables e below (s₁.setTop (mkF m 1 _ [(.ref a1)])) _
    refine st1 _ ?_
    show Steps p.tables e below (T1.setTop (mkF m 4 _ [(.ref b2)])) _
    refine XS.iloadN X1.here hx rfl (hb hby d3_4) rfl ?_
    exact kt
  obtain ⟨cl2, Ar2, S2, P2, H2⟩ := id V_b
  have in2 := inb_of S2 (hv : ¬ p2 < 0 ∧ p2 < nn)
  have at2 : cl2.slots[(p2).toNatClampNeg]? = some (.int (0 : Int32)) := (H2 _ (Nat.lt_of_not_le fun y => in2 (Or.inr y))).trans (congrArg (fun z => some (Value.int z)) hf)
  refine own_pre (B := (T1.setTop (mkF m 12 #[.val (.ref a1), .val (.int p2)] [(.ref a1)]))) (fun t kt => ?_) ?_
  · show Steps p.tables e below (T1.setTop (mkF m 5 _ [(.int p2), (.ref b2)])) _
    refine X1.baloadBooleans hx (j := p2) (v := (.int (0 : Int32))) (by rw [e1]; exact Ar2.1) (State.isArrayOf_alike hZ.alike Ar2.2.1) Ar2.2.2 in2 at2 (g := (mkF m 5 #[.val (.ref a1), .val (.int p2)] [(.int p2), (.ref b2)])) rfl rfl (hb hby d3_5) _ ?_
    show Steps p.tables e below (T1.setTop (mkF m 6 _ [(.int (0 : Int32))])) _
    refine XS.ifYes X1.here hx rfl (pc0 := 6) (pc' := 11) rfl (hb hby d3_6) rfl ((if0 _ _).trans (teq (rfl : (0 : Int32) = (0 : Int32))).1) (by decide) (by decide) ?_
    show Steps p.tables e below (T1.setTop (mkF m 11 _ [])) _
    refine XS.aloadN X1.here hx rfl (hb hby d3_11) rfl rfl ?_
    exact kt
  obtain ⟨T3, X3, e3, st3⟩ := getF X1 hx hZ hown (host := "") (Or.inl (hw _ (List.mem_of_getElem? (i := 12) rfl))) Via.refl e1 F_m (g := (mkF m 12 #[.val (.ref a1), .val (.int p2)] [(.ref a1)])) rfl rfl (hb hby d3_12)
  refine own_pre (B := (T3.setTop (mkF m 17 #[.val (.ref a1), .val (.int p2)] [(.int (1 : Int32)), (.int p2), (.ref b2)]))) (fun t kt => ?_) ?_
  · show Steps p.tables e below (T1.setTop (mkF m 12 _ [(.ref a1)])) _
    refine st3 _ ?_
    show Steps p.tables e below (T3.setTop (mkF m 15 _ [(.ref b2)])) _
    refine XS.iloadN X3.here hx rfl (hb hby d3_15) rfl ?_
    show Steps p.tables e below (T3.setTop (mkF m 16 _ [(.int p2), (.ref b2)])) _
    refine XS.iconst X3.here hx rfl (hb hby d3_16) ?_
    exact kt
  obtain ⟨cl4, Ar4, S4, P4, H4⟩ := id V_b
  have in4 := inb_of S4 (hv : ¬ p2 < 0 ∧ p2 < nn)
  obtain ⟨T4, h4, X4, e4, W4, st4⟩ := stZ X3 hx hZ e3 Ar4 (j := p2) in4 (g := (mkF m 17 #[.val (.ref a1), .val (.int p2)] [(.int (1 : Int32)), (.int p2), (.ref b2)])) rfl rfl (hb hby d3_17)
  rw [own_nb1] at W4
  have V_b2_4 := V_b.set W4
  have E_a1_4 := E_a1.wr W4
  have F_m_4 := F_m.other W4 (Or.inl ne_ab)
  have F_s_4 := F_s.other W4 (Or.inl ne_ab)
  have F_c_4 := F_c.other W4 (Or.inl ne_ab)
  have V_c_4 := V_c.other W4 (Ne.symm ne_bc)
  have N4 := Fr.snoc X4 N0 g_bb
  have K4 := Keep.wr (Keep.refl h0 [a1, b2, c3]) W4 (Or.inl (List.mem_of_getElem? (i := 1) rfl))
  refine own_pre (B := (T4.setTop (mkF m 19 #[.val (.ref a1), .val (.int p2)] [(.ref a1)]))) (fun t kt => ?_) ?_
  · show Steps p.tables e below (T3.setTop (mkF m 17 _ [(.int (1 : Int32)), (.int p2), (.ref b2)])) _
    refine st4 _ ?_
    show Steps p.tables e below (T4.setTop (mkF m 18 _ [])) _
    refine XS.aloadN X4.here hx rfl (hb hby d3_18) rfl rfl ?_
    exact kt
  obtain ⟨T5, X5, e5, st5⟩ := getF X4 hx hZ hown (host := "") (Or.inl (hw _ (List.mem_of_getElem? (i := 14) rfl))) Via.refl e4 F_s_4 (g := (mkF m 19 #[.val (.ref a1), .val (.int p2)] [(.ref a1)])) rfl rfl (hb hby d3_19)
  refine own_pre (B := (T5.setTop (mkF m 24 #[.val (.ref a1), .val (.int p2)] [(.ref a1), (.ref a1), (.ref c3)]))) (fun t kt => ?_) ?_
  · show Steps p.tables e below (T4.setTop (mkF m 19 _ [(.ref a1)])) _
    refine st5 _ ?_
    show Steps p.tables e below (T5.setTop (mkF m 22 _ [(.ref c3)])) _
    refine XS.aloadN X5.here hx rfl (hb hby d3_22) rfl rfl ?_
    show Steps p.tables e below (T5.setTop (mkF m 23 _ [(.ref a1), (.ref c3)])) _
    refine XS.dup X5.here hx rfl (hb hby d3_23) rfl rfl ?_
    exact kt
  obtain ⟨T6, X6, e6, st6⟩ := getF X5 hx hZ hown (host := "") (Or.inl (hw _ (List.mem_of_getElem? (i := 21) rfl))) Via.refl e5 F_c_4 (g := (mkF m 24 #[.val (.ref a1), .val (.int p2)] [(.ref a1), (.ref a1), (.ref c3)])) rfl rfl (hb hby d3_24)
  refine own_pre (B := (T6.setTop (mkF m 30 #[.val (.ref a1), .val (.int p2)] [(.int (kk + (1 : Int32))), (.ref a1), (.int kk), (.ref c3)]))) (fun t kt => ?_) ?_
  · show Steps p.tables e below (T5.setTop (mkF m 24 _ [(.ref a1), (.ref a1), (.ref c3)])) _
    refine st6 _ ?_
    show Steps p.tables e below (T6.setTop (mkF m 27 _ [(.int kk), (.ref a1), (.ref c3)])) _
    refine XS.dupX1 X6.here hx rfl (hb hby d3_27) rfl rfl rfl ?_
    show Steps p.tables e below (T6.setTop (mkF m 28 _ [(.int kk), (.ref a1), (.int kk), (.ref c3)])) _
    refine XS.iconst X6.here hx rfl (hb hby d3_28) ?_
    show Steps p.tables e below (T6.setTop (mkF m 29 _ [(.int (1 : Int32)), (.int kk), (.ref a1), (.int kk), (.ref c3)])) _
    refine XS.iadd X6.here hx rfl (hb hby d3_29) rfl ?_
    exact kt
  obtain ⟨T7, h7, X7, e7, W7, st7⟩ := putF X6 hx hZ hown (host := "") (Or.inl (hw _ (List.mem_of_getElem? (i := 21) rfl))) Via.refl e6 F_c_4 E_a1_4 (Or.inl (hw _ (List.mem_of_getElem? (i := 22) rfl))) (hw _ (List.mem_of_getElem? (i := 3) rfl)) (ty := .int) (by decide) rfl rfl (g := (mkF m 30 #[.val (.ref a1), .val (.int p2)] [(.int (kk + (1 : Int32))), (.ref a1), (.int kk), (.ref c3)])) rfl rfl (hb hby d3_30)
  have F_count_a1_7 := F_c_4.same W7
  have E_a1_7 := E_a1_4.wr W7
  have F_m_7 := F_m_4.other W7 (Or.inr (slot_ne (Or.inr (hw _ (List.mem_of_getElem? (i := 13) rfl))) (Or.inl (hw _ (List.mem_of_getElem? (i := 22) rfl))) (by decide) (t := (.array .boolean)) (t' := .int) (by decide) (by decide)))
  have F_s_7 := F_s_4.other W7 (Or.inr (slot_ne (Or.inr (hw _ (List.mem_of_getElem? (i := 15) rfl))) (Or.inl (hw _ (List.mem_of_getElem? (i := 22) rfl))) (by decide) (t := (.array .int)) (t' := .int) (by decide) (by decide)))
  have V_c_7 := V_c_4.other W7 (Ne.symm ne_ac)
  have V_b2_7 := V_b2_4.other W7 (Ne.symm ne_ab)
  have N7 := Fr.snoc X7 N4 g_a1
  have K7 := Keep.wr K4 W7 (Or.inl (List.mem_of_getElem? (i := 0) rfl))
  refine own_pre (B := (T7.setTop (mkF m 34 #[.val (.ref a1), .val (.int p2)] [(.int p2), (.int kk), (.ref c3)]))) (fun t kt => ?_) ?_
  · show Steps p.tables e below (T6.setTop (mkF m 30 _ [(.int (kk + (1 : Int32))), (.ref a1), (.int kk), (.ref c3)])) _
    refine st7 _ ?_
    show Steps p.tables e below (T7.setTop (mkF m 33 _ [(.int kk), (.ref c3)])) _
    refine XS.iloadN X7.here hx rfl (hb hby d3_33) rfl ?_
    exact kt
  obtain ⟨cl8, Ar8, S8, P8, H8⟩ := id V_c_7
  have in8 := inb_of S8 (hk : ¬ kk < 0 ∧ kk < nn)
  obtain ⟨T8, h8, X8, e8, W8, st8⟩ := stI X7 hx hZ e7 Ar8 (j := kk) in8 (g := (mkF m 34 #[.val (.ref a1), .val (.int p2)] [(.int p2), (.int kk), (.ref c3)])) rfl rfl (hb hby d3_34)
  have V_c3_8 := V_c_7.set W8
  have E_a1_8 := E_a1_7.wr W8
  have F_m_8 := F_m_7.other W8 (Or.inl ne_ac)
  have F_s_8 := F_s_7.other W8 (Or.inl ne_ac)
  have V_b2_8 := V_b2_7.other W8 ne_bc
  have F_count_a1_8 := F_count_a1_7.other W8 (Or.inl ne_ac)
  have N8 := Fr.snoc X8 N7 g_cc
  have K8 := Keep.wr K7 W8 (Or.inl (List.mem_of_getElem? (i := 2) rfl))
  refine own_pre (B := (T8.setTop (mkF m 36 #[.val (.ref a1), .val (.int p2)] [(.int (1 : Int32))]))) (fun t kt => ?_) ?_
  · show Steps p.tables e below (T7.setTop (mkF m 34 _ [(.int p2), (.int kk), (.ref c3)])) _
    refine st8 _ ?_
    show Steps p.tables e below (T8.setTop (mkF m 35 _ [])) _
    refine XS.iconst X8.here hx rfl (hb hby d3_35) ?_
    exact kt
  exact own_fin X8 (some (.int (1 : Int32))) (fun h => by rw [Bd.returns] at h; cases h) (BodyLoose.notSynchronized Bd) e8 (fun fs hr => retN X8 hx (t := .boolean) Bd.returns (by simp) (hb hby d3_36) hr) ⟨rfl, N8, K8, E_a1_8, F_m_8, F_s_8, F_count_a1_8, V_b2_8, V_c3_8, g_a1, g_bb, g_cc, ne_ab, ne_ac, ne_bc⟩ (by decide) (by decide)
theorem ef_3y (m : MethodId) (x0 : Addr) (x1 : Int32) : entryFrame m #[(.ref x0), (.int x1)] 2 = mkF m 0 #[.val (.ref x0), .val (.int x1)] [] := by first | (simp [entryFrame, mkF, argsToLocals, Value.category]; done) | rfl
def Q3y (Z : State) (a1 b2 c3 : Addr) (nn kk : Int32) (ff gg : Nat → Int32) (p2 : Int32) (h0 : Heap) (n0 : Nat) (v : Option Value) (h : Heap) (L : List Loc) : Prop := v = some (.int 0) ∧ Fr n0 L ∧ h = h0
set_option maxRecDepth 65536 in
set_option maxHeartbeats 40000000 in
theorem rm3y (l : Launch) (Z : State) (a0 : Array Value) (hw : ∀ d ∈ tables_1, d.before a0 Z = true) (ws : List Jvm.Cond) (a1 b2 c3 : Addr) (nn kk : Int32) (ff gg : Nat → Int32) (p2 : Int32) (h0 : Heap) (n0 : Nat) (Z0 : n0 ≤ h0.size) (M : own_Mem Z h0 n0 a1 b2 c3 nn ff gg kk) (hv : ¬ p2 < 0 ∧ p2 < nn) (hf : ff p2.toNatClampNeg = 1) :
    MetFree l (⟨"com/example/faregraph/faregraph/search/Members", "add", "(I)Z"⟩ : MethodName) (head1 (Jvm.Cond.code (⟨"com/example/faregraph/faregraph/search/Members", "add", "(I)Z"⟩ : MethodName) prog_85_method_2_code 2 (some .boolean) :: ws) ({ frames := 0, cells := 0, slots := 0, locals := 0 } : Room)) (fun a U => a = #[(.ref a1), (.int p2)] ∧ Z.Warmed39 U.vm ∧ U.heap = h0) (fun _ _ _ _ _ => True) (fun _ U o U' => ∃ v L, o = .returned v ∧ Q3y Z a1 b2 c3 nn kk ff gg p2 h0 n0 v U'.heap L ∧ FrameEnd U o U' L ({ frames := 0, cells := 0, slots := 0, locals := 0 } : Room).cells ({ frames := 0, cells := 0, slots := 0, locals := 0 } : Room).slots) := by
  refine MetFree.of_bodySF (plainFor_of_name pn_3) hisR ?_
  intro p e s m args below meth c s₁ Bd hml0 hP hK
  obtain ⟨rfl, hZ, hh⟩ := hP
  have hx := Bd.exec
  have hby := Bd.bytes
  have hml : c.maxLocals = 2 := hml0
  have hown : s.vm.findClass "com/example/faregraph/faregraph/search/Members" = some m.cls := findClass_of_methodNamed Bd.named
  have hnm := (name_of_methodNamed Bd.named Bd.method).1
  have X0 : Stand p l e ({ frames := 0, cells := 0, slots := 0, locals := 0 } : Room) s m #[(.ref a1), (.int p2)] below meth c s₁ [] 0 0 := Stand.of_body Bd
  have e0 : s₁.heap = h0 := by rw [← hh, Bd.state]; rfl
  have N0 := Fr.nil n0
  show own_Ends p e below s ({ frames := 0, cells := 0, slots := 0, locals := 0 } : Room).cells ({ frames := 0, cells := 0, slots := 0, locals := 0 } : Room).slots (Q3y Z a1 b2 c3 nn kk ff gg p2 h0 n0) (s₁.setTop (entryFrame m #[(.ref a1), (.int p2)] 2))
  rw [ef_3y m a1 p2]
  obtain ⟨E_a1, F_m, F_s, F_c, V_b, V_c, g_a1, g_bb, g_cc, ne_ab, ne_ac, ne_bc⟩ := M
  refine own_pre (B := (s₁.setTop (mkF m 1 #[.val (.ref a1), .val (.int p2)] [(.ref a1)]))) (fun t kt => ?_) ?_
  · show Steps p.tables e below (s₁.setTop (mkF m 0 _ [])) _
    refine XS.aloadN X0.here hx rfl (hb hby d3_0) rfl rfl ?_
    exact kt
  obtain ⟨T1, X1, e1, st1⟩ := getF X0 hx hZ hown (host := "") (Or.inl (hw _ (List.mem_of_getElem? (i := 12) rfl))) Via.refl e0 F_m (g := (mkF m 1 #[.val (.ref a1), .val (.int p2)] [(.ref a1)])) rfl rfl (hb hby d3_1)
  refine own_pre (B := (T1.setTop (mkF m 5 #[.val (.ref a1), .val (.int p2)] [(.int p2), (.ref b2)]))) (fun t kt => ?_) ?_
  · show Steps p.tables e below (s₁.setTop (mkF m 1 _ [(.ref a1)])) _
    refine st1 _ ?_
    show Steps p.tables e below (T1.setTop (mkF m 4 _ [(.ref b2)])) _
    refine XS.iloadN X1.here hx rfl (hb hby d3_4) rfl ?_
    exact kt
  obtain ⟨cl2, Ar2, S2, P2, H2⟩ := id V_b
  have in2 := inb_of S2 (hv : ¬ p2 < 0 ∧ p2 < nn)
  have at2 : cl2.slots[(p2).toNatClampNeg]? = some (.int (1 : Int32)) := (H2 _ (Nat.lt_of_not_le fun y => in2 (Or.inr y))).trans (congrArg (fun z => some (Value.int z)) hf)
  refine own_pre (B := (T1.setTop (mkF m 10 #[.val (.ref a1), .val (.int p2)] [(.int (0 : Int32))]))) (fun t kt => ?_) ?_
  · show Steps p.tables e below (T1.setTop (mkF m 5 _ [(.int p2), (.ref b2)])) _
    refine X1.baloadBooleans hx (j := p2) (v := (.int (1 : Int32))) (by rw [e1]; exact Ar2.1) (State.isArrayOf_alike hZ.alike Ar2.2.1) Ar2.2.2 in2 at2 (g := (mkF m 5 #[.val (.ref a1), .val (.int p2)] [(.int p2), (.ref b2)])) rfl rfl (hb hby d3_5) _ ?_
    show Steps p.tables e below (T1.setTop (mkF m 6 _ [(.int (1 : Int32))])) _
    refine XS.ifNo X1.here hx rfl (hb hby d3_6) rfl ((if0 _ _).trans (feq ((by decide) : ¬ ((1 : Int32) = (0 : Int32)))).1) ?_
    show Steps p.tables e below (T1.setTop (mkF m 9 _ [])) _
    refine XS.iconst X1.here hx rfl (hb hby d3_9) ?_
    exact kt
  exact own_fin X1 (some (.int (0 : Int32))) (fun h => by rw [Bd.returns] at h; cases h) (BodyLoose.notSynchronized Bd) e1 (fun fs hr => retN X1 hx (t := .boolean) Bd.returns (by simp) (hb hby d3_10) hr) ⟨rfl, N0, rfl⟩ (by decide) (by decide)
theorem ef_4 (m : MethodId) (x0 : Addr) : entryFrame m #[(.ref x0)] 1 = mkF m 0 #[.val (.ref x0)] [] := by first | (simp [entryFrame, mkF, argsToLocals, Value.category]; done) | rfl
def Q4 (Z : State) (a1 b2 c3 : Addr) (nn kk : Int32) (ff gg : Nat → Int32) (h0 : Heap) (n0 : Nat) (v : Option Value) (h : Heap) (L : List Loc) : Prop := v = some (.int kk) ∧ Fr n0 L ∧ h = h0
set_option maxRecDepth 65536 in
set_option maxHeartbeats 40000000 in
theorem rm4 (l : Launch) (Z : State) (a0 : Array Value) (hw : ∀ d ∈ tables_1, d.before a0 Z = true) (ws : List Jvm.Cond) (a1 b2 c3 : Addr) (nn kk : Int32) (ff gg : Nat → Int32) (h0 : Heap) (n0 : Nat) (Z0 : n0 ≤ h0.size) (M : own_Mem Z h0 n0 a1 b2 c3 nn ff gg kk) :
    MetFree l (⟨"com/example/faregraph/faregraph/search/Members", "count", "()I"⟩ : MethodName) (head1 (Jvm.Cond.code (⟨"com/example/faregraph/faregraph/search/Members", "count", "()I"⟩ : MethodName) prog_85_method_3_code 1 (some .int) :: ws) ({ frames := 0, cells := 0, slots := 0, locals := 0 } : Room)) (fun a U => a = #[(.ref a1)] ∧ Z.Warmed39 U.vm ∧ U.heap = h0) (fun _ _ _ _ _ => True) (fun _ U o U' => ∃ v L, o = .returned v ∧ Q4 Z a1 b2 c3 nn kk ff gg h0 n0 v U'.heap L ∧ FrameEnd U o U' L ({ frames := 0, cells := 0, slots := 0, locals := 0 } : Room).cells ({ frames := 0, cells := 0, slots := 0, locals := 0 } : Room).slots) := by
  refine MetFree.of_bodySF (plainFor_of_name pn_4) hisR ?_
  intro p e s m args below meth c s₁ Bd hml0 hP hK
  obtain ⟨rfl, hZ, hh⟩ := hP
  have hx := Bd.exec
  have hby := Bd.bytes
  have hml : c.maxLocals = 1 := hml0
  have hown : s.vm.findClass "com/example/faregraph/faregraph/search/Members" = some m.cls := findClass_of_methodNamed Bd.named
  have hnm := (name_of_methodNamed Bd.named Bd.method).1
  have X0 : Stand p l e ({ frames := 0, cells := 0, slots := 0, locals := 0 } : Room) s m #[(.ref a1)] below meth c s₁ [] 0 0 := Stand.of_body Bd
  have e0 : s₁.heap = h0 := by rw [← hh, Bd.state]; rfl
  have N0 := Fr.nil n0
  show own_Ends p e below s ({ frames := 0, cells := 0, slots := 0, locals := 0 } : Room).cells ({ frames := 0, cells := 0, slots := 0, locals := 0 } : Room).slots (Q4 Z a1 b2 c3 nn kk ff gg h0 n0) (s₁.setTop (entryFrame m #[(.ref a1)] 1))
  rw [ef_4 m a1]
  obtain ⟨E_a1, F_m, F_s, F_c, V_b, V_c, g_a1, g_bb, g_cc, ne_ab, ne_ac, ne_bc⟩ := M
  refine own_pre (B := (s₁.setTop (mkF m 1 #[.val (.ref a1)] [(.ref a1)]))) (fun t kt => ?_) ?_
  · show Steps p.tables e below (s₁.setTop (mkF m 0 _ [])) _
    refine XS.aloadN X0.here hx rfl (hb hby d4_0) rfl rfl ?_
    exact kt
  obtain ⟨T1, X1, e1, st1⟩ := getF X0 hx hZ hown (host := "") (Or.inl (hw _ (List.mem_of_getElem? (i := 21) rfl))) Via.refl e0 F_c (g := (mkF m 1 #[.val (.ref a1)] [(.ref a1)])) rfl rfl (hb hby d4_1)
  refine own_pre (B := (T1.setTop (mkF m 4 #[.val (.ref a1)] [(.int kk)]))) (fun t kt => ?_) ?_
  · show Steps p.tables e below (s₁.setTop (mkF m 1 _ [(.ref a1)])) _
    refine st1 _ ?_
    exact kt
  exact own_fin X1 (some (.int kk)) (fun h => by rw [Bd.returns] at h; cases h) (BodyLoose.notSynchronized Bd) e1 (fun fs hr => retI X1 hx Bd.returns (hb hby d4_4) hr) ⟨rfl, N0, rfl⟩ (by decide) (by decide)
theorem ef_5 (m : MethodId) (x0 : Addr) (x1 : Int32) : entryFrame m #[(.ref x0), (.int x1)] 2 = mkF m 0 #[.val (.ref x0), .val (.int x1)] [] := by first | (simp [entryFrame, mkF, argsToLocals, Value.category]; done) | rfl
def Q5 (Z : State) (a1 b2 c3 : Addr) (nn kk : Int32) (ff gg : Nat → Int32) (p2 rr : Int32) (h0 : Heap) (n0 : Nat) (v : Option Value) (h : Heap) (L : List Loc) : Prop := v = some (.int rr) ∧ Fr n0 L ∧ h = h0
set_option maxRecDepth 65536 in
set_option maxHeartbeats 40000000 in
theorem rm5 (l : Launch) (Z : State) (a0 : Array Value) (hw : ∀ d ∈ tables_1, d.before a0 Z = true) (ws : List Jvm.Cond) (a1 b2 c3 : Addr) (nn kk : Int32) (ff gg : Nat → Int32) (p2 rr : Int32) (h0 : Heap) (n0 : Nat) (Z0 : n0 ≤ h0.size) (M : own_Mem Z h0 n0 a1 b2 c3 nn ff gg kk) (hi : ¬ p2 < 0 ∧ p2 < nn) (hr : gg p2.toNatClampNeg = rr) :
    MetFree l (⟨"com/example/faregraph/faregraph/search/Members", "get", "(I)I"⟩ : MethodName) (head1 (Jvm.Cond.code (⟨"com/example/faregraph/faregraph/search/Members", "get", "(I)I"⟩ : MethodName) prog_85_method_4_code 2 (some .int) :: ws) ({ frames := 0, cells := 0, slots := 0, locals := 0 } : Room)) (fun a U => a = #[(.ref a1), (.int p2)] ∧ Z.Warmed39 U.vm ∧ U.heap = h0) (fun _ _ _ _ _ => True) (fun _ U o U' => ∃ v L, o = .returned v ∧ Q5 Z a1 b2 c3 nn kk ff gg p2 rr h0 n0 v U'.heap L ∧ FrameEnd U o U' L ({ frames := 0, cells := 0, slots := 0, locals := 0 } : Room).cells ({ frames := 0, cells := 0, slots := 0, locals := 0 } : Room).slots) := by
  refine MetFree.of_bodySF (plainFor_of_name pn_5) hisR ?_
  intro p e s m args below meth c s₁ Bd hml0 hP hK
  obtain ⟨rfl, hZ, hh⟩ := hP
  have hx := Bd.exec
  have hby := Bd.bytes
  have hml : c.maxLocals = 2 := hml0
  have hown : s.vm.findClass "com/example/faregraph/faregraph/search/Members" = some m.cls := findClass_of_methodNamed Bd.named
  have hnm := (name_of_methodNamed Bd.named Bd.method).1
  have X0 : Stand p l e ({ frames := 0, cells := 0, slots := 0, locals := 0 } : Room) s m #[(.ref a1), (.int p2)] below meth c s₁ [] 0 0 := Stand.of_body Bd
  have e0 : s₁.heap = h0 := by rw [← hh, Bd.state]; rfl
  have N0 := Fr.nil n0
  show own_Ends p e below s ({ frames := 0, cells := 0, slots := 0, locals := 0 } : Room).cells ({ frames := 0, cells := 0, slots := 0, locals := 0 } : Room).slots (Q5 Z a1 b2 c3 nn kk ff gg p2 rr h0 n0) (s₁.setTop (entryFrame m #[(.ref a1), (.int p2)] 2))
  rw [ef_5 m a1 p2]
  obtain ⟨E_a1, F_m, F_s, F_c, V_b, V_c, g_a1, g_bb, g_cc, ne_ab, ne_ac, ne_bc⟩ := M
  refine own_pre (B := (s₁.setTop (mkF m 1 #[.val (.ref a1), .val (.int p2)] [(.ref a1)]))) (fun t kt => ?_) ?_
  · show Steps p.tables e below (s₁.setTop (mkF m 0 _ [])) _
    refine XS.aloadN X0.here hx rfl (hb hby d5_0) rfl rfl ?_
    exact kt
  obtain ⟨T1, X1, e1, st1⟩ := getF X0 hx hZ hown (host := "") (Or.inl (hw _ (List.mem_of_getElem? (i := 14) rfl))) Via.refl e0 F_s (g := (mkF m 1 #[.val (.ref a1), .val (.int p2)] [(.ref a1)])) rfl rfl (hb hby d5_1)
  refine own_pre (B := (T1.setTop (mkF m 5 #[.val (.ref a1), .val (.int p2)] [(.int p2), (.ref c3)]))) (fun t kt => ?_) ?_
  · show Steps p.tables e below (s₁.setTop (mkF m 1 _ [(.ref a1)])) _
    refine st1 _ ?_
    show Steps p.tables e below (T1.setTop (mkF m 4 _ [(.ref c3)])) _
    refine XS.iloadN X1.here hx rfl (hb hby d5_4) rfl ?_
    exact kt
  obtain ⟨cl2, Ar2, S2, P2, H2⟩ := id V_c
  have in2 := inb_of S2 (hi : ¬ p2 < 0 ∧ p2 < nn)
  have at2 : cl2.slots[(p2).toNatClampNeg]? = some (.int rr) := (H2 _ (Nat.lt_of_not_le fun y => in2 (Or.inr y))).trans (congrArg (fun z => some (Value.int z)) hr)
  refine own_pre (B := (T1.setTop (mkF m 6 #[.val (.ref a1), .val (.int p2)] [(.int rr)]))) (fun t kt => ?_) ?_
  · show Steps p.tables e below (T1.setTop (mkF m 5 _ [(.int p2), (.ref c3)])) _
    refine X1.iaload hx (j := p2) (v := (.int rr)) (by rw [e1]; exact Ar2.1) (State.isArrayOf_alike hZ.alike Ar2.2.1) Ar2.2.2 in2 at2 (g := (mkF m 5 #[.val (.ref a1), .val (.int p2)] [(.int p2), (.ref c3)])) rfl rfl (hb hby d5_5) _ ?_
    exact kt
  exact own_fin X1 (some (.int rr)) (fun h => by rw [Bd.returns] at h; cases h) (BodyLoose.notSynchronized Bd) e1 (fun fs hr => retI X1 hx Bd.returns (hb hby d5_6) hr) ⟨rfl, N0, rfl⟩ (by decide) (by decide)
theorem own_n (p1 : Int32) : 1 ≤ ((p1 &&& (7 : Int32)) + (1 : Int32)).toInt ∧ ((p1 &&& (7 : Int32)) + (1 : Int32)).toInt ≤ 8 := by
  have e1 : (p1 &&& (7 : Int32)).toInt = p1.toInt % 2 ^ 3 := Jvm.Kit.i32_mask p1 7 (k := 3) (by decide) (by decide)
  have e : (1 : Int32).toInt = 1 := by decide
  rw [Jvm.Kit.i32_add (by omega) (by omega)]
  omega
theorem own_nz (p1 : Int32) : ((p1 &&& (7 : Int32)) + (1 : Int32)) ≠ 0 := fun q => by
  have h := own_n p1
  rw [q] at h
  have e : (0 : Int32).toInt = 0 := by decide
  omega
theorem own_rem (p1 p2 : Int32) : ¬ ((p2 &&& (2147483647 : Int32)) % ((p1 &&& (7 : Int32)) + (1 : Int32))) < 0 ∧ ((p2 &&& (2147483647 : Int32)) % ((p1 &&& (7 : Int32)) + (1 : Int32))) < ((p1 &&& (7 : Int32)) + (1 : Int32)) := by
  have h := own_n p1
  generalize ((p1 &&& (7 : Int32)) + (1 : Int32)) = nn at h ⊢
  have e1 : (p2 &&& (2147483647 : Int32)).toInt = p2.toInt % 2 ^ 31 := Jvm.Kit.i32_mask p2 2147483647 (k := 31) (by decide) (by decide)
  have e2 : ((p2 &&& (2147483647 : Int32)) % nn).toInt = (p2 &&& (2147483647 : Int32)).toInt % nn.toInt := Jvm.Kit.i32_rem_nonneg (by omega)
  refine own_rng' ?_
  rw [e2]
  exact ⟨Int.emod_nonneg _ (by omega), Int.emod_lt_of_pos _ (by omega)⟩
theorem ef_0 (m : MethodId) (x0 : Int32) (x1 : Int32) (x2 : Int32) (x3 : Int32) (x4 : Int32) : entryFrame m #[(.int x0), (.int x1), (.int x2), (.int x3), (.int x4)] maxLocals = mkF m 0 #[.val (.int x0), .val (.int x1), .val (.int x2), .val (.int x3), .val (.int x4), .unset, .unset, .unset, .unset, .unset, .unset, .unset, .unset, .unset, .unset, .unset, .unset, .unset, .unset, .unset, .unset] [] := by first | (simp [entryFrame, mkF, argsToLocals, Value.category, maxLocals]; done) | rfl
def Q0 (Z : State) (p1 p2 p3 p4 p5 : Int32) (h0 : Heap) (n0 : Nat) (v : Option Value) (h : Heap) (L : List Loc) : Prop := v = some (.int 1) ∧ Fr n0 L
set_option maxRecDepth 65536 in
set_option maxHeartbeats 40000000 in
theorem rm0 (l : Launch) (Z : State) (a0 : Array Value) (hw : ∀ d ∈ tables_1, d.before a0 Z = true) (ws : List Jvm.Cond) (p1 p2 p3 p4 p5 : Int32) (h0 : Heap) (n0 : Nat) (Z0 : n0 ≤ h0.size)  :
    MetFree l x (head1 (Jvm.Cond.code x code maxLocals ret :: ws) room_1) (fun a U => a = #[(.int p1), (.int p2), (.int p3), (.int p4), (.int p5)] ∧ Z.Warmed39 U.vm ∧ U.heap = h0) (fun _ _ _ _ _ => True) (fun _ U o U' => ∃ v L, o = .returned v ∧ Q0 Z p1 p2 p3 p4 p5 h0 n0 v U'.heap L ∧ FrameEnd U o U' L room_1.cells room_1.slots) := by
  refine MetFree.of_bodySF (plainFor_of_name pn_0) hisR ?_
  intro p e s m args below meth c s₁ Bd hml0 hP hK
  obtain ⟨rfl, hZ, hh⟩ := hP
  have hx := Bd.exec
  have hby := Bd.bytes
  have hml : c.maxLocals = 21 := hml0
  have hown : s.vm.findClass "com/example/faregraph/faregraph/search/MembersAddPinLaw" = some m.cls := findClass_of_methodNamed Bd.named
  have hnm := (name_of_methodNamed Bd.named Bd.method).1
  have X0 : Stand p l e room_1 s m #[(.int p1), (.int p2), (.int p3), (.int p4), (.int p5)] below meth c s₁ [] 0 0 := Stand.of_body Bd
  have e0 : s₁.heap = h0 := by rw [← hh, Bd.state]; rfl
  have N0 := Fr.nil n0
  show own_Ends p e below s room_1.cells room_1.slots (Q0 Z p1 p2 p3 p4 p5 h0 n0) (s₁.setTop (entryFrame m #[(.int p1), (.int p2), (.int p3), (.int p4), (.int p5)] maxLocals))
  rw [ef_0 m p1 p2 p3 p4 p5]
  have K45 : ∀ nn aa bb cc dd : Int32, 1 ≤ nn.toInt → nn.toInt ≤ 8 → (¬ aa < 0 ∧ aa < nn) → (¬ bb < 0 ∧ bb < nn) → (¬ cc < 0 ∧ cc < nn) → (¬ dd < 0 ∧ dd < nn) → own_Ends p e below s room_1.cells room_1.slots (Q0 Z p1 p2 p3 p4 p5 h0 n0) (s₁.setTop (mkF m 45 #[.val (.int p1), .val (.int p2), .val (.int p3), .val (.int p4), .val (.int p5), .val (.int nn), .val (.int aa), .val (.int bb), .val (.int cc), .val (.int dd), .unset, .unset, .unset, .unset, .unset, .unset, .unset, .unset, .unset, .unset, .unset] [])) := by
    intro nn aa bb cc dd hn1 hn8 ra rb rc rd
    have ia := own_rng ra
    have ib := own_rng rb
    have ic := own_rng rc
    have id_ := own_rng rd
    have hnn : ¬ nn < 0 := by rw [Int32.lt_iff_toInt_lt]; have e0 : (0 : Int32).toInt = 0 := (by decide); omega
    have hcap : nn.toNatClampNeg ≤ 8 := by rw [own_tn]; omega
    have J57 : ∀ eb : Int32, ((eb = 1 ∧ bb.toInt ≠ aa.toInt) ∨ (eb = 0 ∧ bb.toInt = aa.toInt)) → own_Ends p e below s room_1.cells room_1.slots (Q0 Z p1 p2 p3 p4 p5 h0 n0) (s₁.setTop (mkF m 57 #[.val (.int p1), .val (.int p2), .val (.int p3), .val (.int p4), .val (.int p5), .val (.int nn), .val (.int aa), .val (.int bb), .val (.int cc), .val (.int dd), .unset, .unset, .unset, .unset, .unset, .unset, .unset, .unset, .unset, .unset, .unset] [(.int eb)])) := by
      intro eb heb
      refine own_pre (B := (s₁.setTop (mkF m 59 #[.val (.int p1), .val (.int p2), .val (.int p3), .val (.int p4), .val (.int p5), .val (.int nn), .val (.int aa), .val (.int bb), .val (.int cc), .val (.int dd), .val (.int eb), .unset, .unset, .unset, .unset, .unset, .unset, .unset, .unset, .unset, .unset] []))) (fun t kt => ?_) ?_
      · show Steps p.tables e below (s₁.setTop (mkF m 57 _ [(.int eb)])) _
        refine XS.istore X0.here hx rfl (hb hby at_57) rfl (l' := #[.val (.int p1), .val (.int p2), .val (.int p3), .val (.int p4), .val (.int p5), .val (.int nn), .val (.int aa), .val (.int bb), .val (.int cc), .val (.int dd), .val (.int eb), .unset, .unset, .unset, .unset, .unset, .unset, .unset, .unset, .unset, .unset]) rfl ?_
        exact kt
      have J78 : ∀ ec : Int32, ((ec = 1 ∧ cc.toInt ≠ aa.toInt ∧ cc.toInt ≠ bb.toInt) ∨ (ec = 0 ∧ (cc.toInt = aa.toInt ∨ cc.toInt = bb.toInt))) → own_Ends p e below s room_1.cells room_1.slots (Q0 Z p1 p2 p3 p4 p5 h0 n0) (s₁.setTop (mkF m 78 #[.val (.int p1), .val (.int p2), .val (.int p3), .val (.int p4), .val (.int p5), .val (.int nn), .val (.int aa), .val (.int bb), .val (.int cc), .val (.int dd), .val (.int eb), .unset, .unset, .unset, .unset, .unset, .unset, .unset, .unset, .unset, .unset] [(.int ec)])) := by
        intro ec hec
        refine own_pre (B := (s₁.setTop (mkF m 80 #[.val (.int p1), .val (.int p2), .val (.int p3), .val (.int p4), .val (.int p5), .val (.int nn), .val (.int aa), .val (.int bb), .val (.int cc), .val (.int dd), .val (.int eb), .val (.int ec), .unset, .unset, .unset, .unset, .unset, .unset, .unset, .unset, .unset] []))) (fun t kt => ?_) ?_
        · show Steps p.tables e below (s₁.setTop (mkF m 78 _ [(.int ec)])) _
          refine XS.istore X0.here hx rfl (hb hby at_78) rfl (l' := #[.val (.int p1), .val (.int p2), .val (.int p3), .val (.int p4), .val (.int p5), .val (.int nn), .val (.int aa), .val (.int bb), .val (.int cc), .val (.int dd), .val (.int eb), .val (.int ec), .unset, .unset, .unset, .unset, .unset, .unset, .unset, .unset, .unset]) rfl ?_
          exact kt
        have J106 : ∀ ed : Int32, ((ed = 1 ∧ dd.toInt ≠ aa.toInt ∧ dd.toInt ≠ bb.toInt ∧ dd.toInt ≠ cc.toInt) ∨ (ed = 0 ∧ (dd.toInt = aa.toInt ∨ dd.toInt = bb.toInt ∨ dd.toInt = cc.toInt))) → own_Ends p e below s room_1.cells room_1.slots (Q0 Z p1 p2 p3 p4 p5 h0 n0) (s₁.setTop (mkF m 106 #[.val (.int p1), .val (.int p2), .val (.int p3), .val (.int p4), .val (.int p5), .val (.int nn), .val (.int aa), .val (.int bb), .val (.int cc), .val (.int dd), .val (.int eb), .val (.int ec), .unset, .unset, .unset, .unset, .unset, .unset, .unset, .unset, .unset] [(.int ed)])) := by
          intro ed hed
          refine own_pre (B := (s₁.setTop (mkF m 108 #[.val (.int p1), .val (.int p2), .val (.int p3), .val (.int p4), .val (.int p5), .val (.int nn), .val (.int aa), .val (.int bb), .val (.int cc), .val (.int dd), .val (.int eb), .val (.int ec), .val (.int ed), .unset, .unset, .unset, .unset, .unset, .unset, .unset, .unset] []))) (fun t kt => ?_) ?_
          · show Steps p.tables e below (s₁.setTop (mkF m 106 _ [(.int ed)])) _
            refine XS.istore X0.here hx rfl (hb hby at_106) rfl (l' := #[.val (.int p1), .val (.int p2), .val (.int p3), .val (.int p4), .val (.int p5), .val (.int nn), .val (.int aa), .val (.int bb), .val (.int cc), .val (.int dd), .val (.int eb), .val (.int ec), .val (.int ed), .unset, .unset, .unset, .unset, .unset, .unset, .unset, .unset]) rfl ?_
            exact kt
          rcases heb with ⟨rfl, hqeb⟩ | ⟨rfl, hqeb⟩
          · rcases hec with ⟨rfl, hqec⟩ | ⟨rfl, hqec⟩
            · rcases hed with ⟨rfl, hqed⟩ | ⟨rfl, hqed⟩
              · refine own_pre (B := (s₁.setTop (mkF m 109 #[.val (.int p1), .val (.int p2), .val (.int p3), .val (.int p4), .val (.int p5), .val (.int nn), .val (.int aa), .val (.int bb), .val (.int cc), .val (.int dd), .val (.int (1 : Int32)), .val (.int (1 : Int32)), .val (.int (1 : Int32)), .unset, .unset, .unset, .unset, .unset, .unset, .unset, .unset] [(.int (4 : Int32))]))) (fun t kt => ?_) ?_
                · show Steps p.tables e below (s₁.setTop (mkF m 108 _ [])) _
                  refine XS.iconst X0.here hx rfl (hb hby at_108) ?_
                  exact kt
                obtain ⟨T1, h1, k1, X1, e1, E1, A1, st1⟩ := newP X0 hx hZ (hw _ (List.mem_of_getElem? (i := 1) rfl)) e0 (g := (mkF m 109 #[.val (.int p1), .val (.int p2), .val (.int p3), .val (.int p4), .val (.int p5), .val (.int nn), .val (.int aa), .val (.int bb), .val (.int cc), .val (.int dd), .val (.int (1 : Int32)), .val (.int (1 : Int32)), .val (.int (1 : Int32)), .unset, .unset, .unset, .unset, .unset, .unset, .unset, .unset] [(.int (4 : Int32))])) rfl (hb hby at_109) rfl (by decide) (cap := 4) (by decide) (by decide) (by decide) (by decide)
                obtain ⟨b1, g1⟩ : ∃ z, z = h0.size := ⟨_, rfl⟩
                have g_b1 : n0 ≤ b1 := Nat.le_trans Z0 (Nat.le_of_eq g1.symm)
                have sz_b1 : h0.size ≤ b1 := Nat.le_trans (Keep.refl h0 []).1 (Nat.le_of_eq g1.symm)
                rw [← g1] at A1 st1
                have K1 := Keep.ext (Keep.refl h0 []) E1
                have V_b1 := own_Arr.new A1 (by decide) rfl
                refine own_pre (B := (T1.setTop (mkF m 122 #[.val (.int p1), .val (.int p2), .val (.int p3), .val (.int p4), .val (.int p5), .val (.int nn), .val (.int aa), .val (.int bb), .val (.int cc), .val (.int dd), .val (.int (1 : Int32)), .val (.int (1 : Int32)), .val (.int (1 : Int32)), .val (.ref b1), .val (.int (0 : Int32)), .unset, .unset, .unset, .unset, .unset, .unset] [(.int aa), (.int (0 : Int32)), (.ref b1)]))) (fun t kt => ?_) ?_
                · show Steps p.tables e below (s₁.setTop (mkF m 109 _ [(.int (4 : Int32))])) _
                  refine st1 _ ?_
                  show Steps p.tables e below (T1.setTop (mkF m 111 _ [(.ref b1)])) _
                  refine XS.astore X1.here hx rfl (hb hby at_111) rfl rfl (l' := #[.val (.int p1), .val (.int p2), .val (.int p3), .val (.int p4), .val (.int p5), .val (.int nn), .val (.int aa), .val (.int bb), .val (.int cc), .val (.int dd), .val (.int (1 : Int32)), .val (.int (1 : Int32)), .val (.int (1 : Int32)), .val (.ref b1), .unset, .unset, .unset, .unset, .unset, .unset, .unset]) rfl ?_
                  show Steps p.tables e below (T1.setTop (mkF m 113 _ [])) _
                  refine XS.iconst X1.here hx rfl (hb hby at_113) ?_
                  show Steps p.tables e below (T1.setTop (mkF m 114 _ [(.int (0 : Int32))])) _
                  refine XS.istore X1.here hx rfl (hb hby at_114) rfl (l' := #[.val (.int p1), .val (.int p2), .val (.int p3), .val (.int p4), .val (.int p5), .val (.int nn), .val (.int aa), .val (.int bb), .val (.int cc), .val (.int dd), .val (.int (1 : Int32)), .val (.int (1 : Int32)), .val (.int (1 : Int32)), .val (.ref b1), .val (.int (0 : Int32)), .unset, .unset, .unset, .unset, .unset, .unset]) rfl ?_
                  show Steps p.tables e below (T1.setTop (mkF m 116 _ [])) _
                  refine XS.aload X1.here hx rfl (hb hby at_116) rfl rfl ?_
                  show Steps p.tables e below (T1.setTop (mkF m 118 _ [(.ref b1)])) _
                  refine XS.iload X1.here hx rfl (hb hby at_118) rfl ?_
                  show Steps p.tables e below (T1.setTop (mkF m 120 _ [(.int (0 : Int32)), (.ref b1)])) _
                  refine XS.iload X1.here hx rfl (hb hby at_120) rfl ?_
                  exact kt
                obtain ⟨cl2, Ar2, S2, P2, H2⟩ := id V_b1
                have in2 := inb_of S2 (⟨by decide, by decide⟩ : ¬ (0 : Int32) < 0 ∧ (0 : Int32) < (4 : Int32))
                obtain ⟨T2, h2, X2, e2, W2, st2⟩ := stI X1 hx hZ e1 Ar2 (j := (0 : Int32)) in2 (g := (mkF m 122 #[.val (.int p1), .val (.int p2), .val (.int p3), .val (.int p4), .val (.int p5), .val (.int nn), .val (.int aa), .val (.int bb), .val (.int cc), .val (.int dd), .val (.int (1 : Int32)), .val (.int (1 : Int32)), .val (.int (1 : Int32)), .val (.ref b1), .val (.int (0 : Int32)), .unset, .unset, .unset, .unset, .unset, .unset] [(.int aa), (.int (0 : Int32)), (.ref b1)])) rfl rfl (hb hby at_122)
                have V_b1_2 := V_b1.set W2
                have N2 := Fr.snoc X2 N0 g_b1
                have K2 := Keep.wr K1 W2 (Or.inr sz_b1)
                refine own_pre (B := (T2.setTop (mkF m 140 #[.val (.int p1), .val (.int p2), .val (.int p3), .val (.int p4), .val (.int p5), .val (.int nn), .val (.int aa), .val (.int bb), .val (.int cc), .val (.int dd), .val (.int (1 : Int32)), .val (.int (1 : Int32)), .val (.int (1 : Int32)), .val (.ref b1), .val (.int ((0 : Int32) + (1 : Int32))), .unset, .unset, .unset, .unset, .unset, .unset] [(.int bb), (.int ((0 : Int32) + (1 : Int32))), (.ref b1)]))) (fun t kt => ?_) ?_
                · show Steps p.tables e below (T1.setTop (mkF m 122 _ [(.int aa), (.int (0 : Int32)), (.ref b1)])) _
                  refine st2 _ ?_
                  show Steps p.tables e below (T2.setTop (mkF m 123 _ [])) _
                  refine XS.iload X2.here hx rfl (hb hby at_123) rfl ?_
                  show Steps p.tables e below (T2.setTop (mkF m 125 _ [(.int (0 : Int32))])) _
                  refine XS.iconst X2.here hx rfl (hb hby at_125) ?_
                  show Steps p.tables e below (T2.setTop (mkF m 126 _ [(.int (1 : Int32)), (.int (0 : Int32))])) _
                  refine XS.iadd X2.here hx rfl (hb hby at_126) rfl ?_
                  show Steps p.tables e below (T2.setTop (mkF m 127 _ [(.int ((0 : Int32) + (1 : Int32)))])) _
                  refine XS.istore X2.here hx rfl (hb hby at_127) rfl (l' := #[.val (.int p1), .val (.int p2), .val (.int p3), .val (.int p4), .val (.int p5), .val (.int nn), .val (.int aa), .val (.int bb), .val (.int cc), .val (.int dd), .val (.int (1 : Int32)), .val (.int (1 : Int32)), .val (.int (1 : Int32)), .val (.ref b1), .val (.int ((0 : Int32) + (1 : Int32))), .unset, .unset, .unset, .unset, .unset, .unset]) rfl ?_
                  show Steps p.tables e below (T2.setTop (mkF m 129 _ [])) _
                  refine XS.iload X2.here hx rfl (hb hby at_129) rfl ?_
                  show Steps p.tables e below (T2.setTop (mkF m 131 _ [(.int (1 : Int32))])) _
                  refine XS.ifNo X2.here hx rfl (hb hby at_131) rfl ((if0 _ _).trans (feq ((by decide) : ¬ ((1 : Int32) = (0 : Int32)))).1) ?_
                  show Steps p.tables e below (T2.setTop (mkF m 134 _ [])) _
                  refine XS.aload X2.here hx rfl (hb hby at_134) rfl rfl ?_
                  show Steps p.tables e below (T2.setTop (mkF m 136 _ [(.ref b1)])) _
                  refine XS.iload X2.here hx rfl (hb hby at_136) rfl ?_
                  show Steps p.tables e below (T2.setTop (mkF m 138 _ [(.int ((0 : Int32) + (1 : Int32))), (.ref b1)])) _
                  refine XS.iload X2.here hx rfl (hb hby at_138) rfl ?_
                  exact kt
                obtain ⟨cl3, Ar3, S3, P3, H3⟩ := id V_b1_2
                have in3 := inb_of S3 (⟨by decide, by decide⟩ : ¬ ((0 : Int32) + (1 : Int32)) < 0 ∧ ((0 : Int32) + (1 : Int32)) < (4 : Int32))
                obtain ⟨T3, h3, X3, e3, W3, st3⟩ := stI X2 hx hZ e2 Ar3 (j := ((0 : Int32) + (1 : Int32))) in3 (g := (mkF m 140 #[.val (.int p1), .val (.int p2), .val (.int p3), .val (.int p4), .val (.int p5), .val (.int nn), .val (.int aa), .val (.int bb), .val (.int cc), .val (.int dd), .val (.int (1 : Int32)), .val (.int (1 : Int32)), .val (.int (1 : Int32)), .val (.ref b1), .val (.int ((0 : Int32) + (1 : Int32))), .unset, .unset, .unset, .unset, .unset, .unset] [(.int bb), (.int ((0 : Int32) + (1 : Int32))), (.ref b1)])) rfl rfl (hb hby at_140)
                have V_b1_3 := V_b1_2.set W3
                have N3 := Fr.snoc X3 N2 g_b1
                have K3 := Keep.wr K2 W3 (Or.inr sz_b1)
                refine own_pre (B := (T3.setTop (mkF m 158 #[.val (.int p1), .val (.int p2), .val (.int p3), .val (.int p4), .val (.int p5), .val (.int nn), .val (.int aa), .val (.int bb), .val (.int cc), .val (.int dd), .val (.int (1 : Int32)), .val (.int (1 : Int32)), .val (.int (1 : Int32)), .val (.ref b1), .val (.int (((0 : Int32) + (1 : Int32)) + (1 : Int32))), .unset, .unset, .unset, .unset, .unset, .unset] [(.int cc), (.int (((0 : Int32) + (1 : Int32)) + (1 : Int32))), (.ref b1)]))) (fun t kt => ?_) ?_
                · show Steps p.tables e below (T2.setTop (mkF m 140 _ [(.int bb), (.int ((0 : Int32) + (1 : Int32))), (.ref b1)])) _
                  refine st3 _ ?_
                  show Steps p.tables e below (T3.setTop (mkF m 141 _ [])) _
                  refine XS.iload X3.here hx rfl (hb hby at_141) rfl ?_
                  show Steps p.tables e below (T3.setTop (mkF m 143 _ [(.int ((0 : Int32) + (1 : Int32)))])) _
                  refine XS.iconst X3.here hx rfl (hb hby at_143) ?_
                  show Steps p.tables e below (T3.setTop (mkF m 144 _ [(.int (1 : Int32)), (.int ((0 : Int32) + (1 : Int32)))])) _
                  refine XS.iadd X3.here hx rfl (hb hby at_144) rfl ?_
                  show Steps p.tables e below (T3.setTop (mkF m 145 _ [(.int (((0 : Int32) + (1 : Int32)) + (1 : Int32)))])) _
                  refine XS.istore X3.here hx rfl (hb hby at_145) rfl (l' := #[.val (.int p1), .val (.int p2), .val (.int p3), .val (.int p4), .val (.int p5), .val (.int nn), .val (.int aa), .val (.int bb), .val (.int cc), .val (.int dd), .val (.int (1 : Int32)), .val (.int (1 : Int32)), .val (.int (1 : Int32)), .val (.ref b1), .val (.int (((0 : Int32) + (1 : Int32)) + (1 : Int32))), .unset, .unset, .unset, .unset, .unset, .unset]) rfl ?_
                  show Steps p.tables e below (T3.setTop (mkF m 147 _ [])) _
                  refine XS.iload X3.here hx rfl (hb hby at_147) rfl ?_
                  show Steps p.tables e below (T3.setTop (mkF m 149 _ [(.int (1 : Int32))])) _
                  refine XS.ifNo X3.here hx rfl (hb hby at_149) rfl ((if0 _ _).trans (feq ((by decide) : ¬ ((1 : Int32) = (0 : Int32)))).1) ?_
                  show Steps p.tables e below (T3.setTop (mkF m 152 _ [])) _
                  refine XS.aload X3.here hx rfl (hb hby at_152) rfl rfl ?_
                  show Steps p.tables e below (T3.setTop (mkF m 154 _ [(.ref b1)])) _
                  refine XS.iload X3.here hx rfl (hb hby at_154) rfl ?_
                  show Steps p.tables e below (T3.setTop (mkF m 156 _ [(.int (((0 : Int32) + (1 : Int32)) + (1 : Int32))), (.ref b1)])) _
                  refine XS.iload X3.here hx rfl (hb hby at_156) rfl ?_
                  exact kt
                obtain ⟨cl4, Ar4, S4, P4, H4⟩ := id V_b1_3
                have in4 := inb_of S4 (⟨by decide, by decide⟩ : ¬ (((0 : Int32) + (1 : Int32)) + (1 : Int32)) < 0 ∧ (((0 : Int32) + (1 : Int32)) + (1 : Int32)) < (4 : Int32))
                obtain ⟨T4, h4, X4, e4, W4, st4⟩ := stI X3 hx hZ e3 Ar4 (j := (((0 : Int32) + (1 : Int32)) + (1 : Int32))) in4 (g := (mkF m 158 #[.val (.int p1), .val (.int p2), .val (.int p3), .val (.int p4), .val (.int p5), .val (.int nn), .val (.int aa), .val (.int bb), .val (.int cc), .val (.int dd), .val (.int (1 : Int32)), .val (.int (1 : Int32)), .val (.int (1 : Int32)), .val (.ref b1), .val (.int (((0 : Int32) + (1 : Int32)) + (1 : Int32))), .unset, .unset, .unset, .unset, .unset, .unset] [(.int cc), (.int (((0 : Int32) + (1 : Int32)) + (1 : Int32))), (.ref b1)])) rfl rfl (hb hby at_158)
                have V_b1_4 := V_b1_3.set W4
                have N4 := Fr.snoc X4 N3 g_b1
                have K4 := Keep.wr K3 W4 (Or.inr sz_b1)
                refine own_pre (B := (T4.setTop (mkF m 176 #[.val (.int p1), .val (.int p2), .val (.int p3), .val (.int p4), .val (.int p5), .val (.int nn), .val (.int aa), .val (.int bb), .val (.int cc), .val (.int dd), .val (.int (1 : Int32)), .val (.int (1 : Int32)), .val (.int (1 : Int32)), .val (.ref b1), .val (.int ((((0 : Int32) + (1 : Int32)) + (1 : Int32)) + (1 : Int32))), .unset, .unset, .unset, .unset, .unset, .unset] [(.int dd), (.int ((((0 : Int32) + (1 : Int32)) + (1 : Int32)) + (1 : Int32))), (.ref b1)]))) (fun t kt => ?_) ?_
                · show Steps p.tables e below (T3.setTop (mkF m 158 _ [(.int cc), (.int (((0 : Int32) + (1 : Int32)) + (1 : Int32))), (.ref b1)])) _
                  refine st4 _ ?_
                  show Steps p.tables e below (T4.setTop (mkF m 159 _ [])) _
                  refine XS.iload X4.here hx rfl (hb hby at_159) rfl ?_
                  show Steps p.tables e below (T4.setTop (mkF m 161 _ [(.int (((0 : Int32) + (1 : Int32)) + (1 : Int32)))])) _
                  refine XS.iconst X4.here hx rfl (hb hby at_161) ?_
                  show Steps p.tables e below (T4.setTop (mkF m 162 _ [(.int (1 : Int32)), (.int (((0 : Int32) + (1 : Int32)) + (1 : Int32)))])) _
                  refine XS.iadd X4.here hx rfl (hb hby at_162) rfl ?_
                  show Steps p.tables e below (T4.setTop (mkF m 163 _ [(.int ((((0 : Int32) + (1 : Int32)) + (1 : Int32)) + (1 : Int32)))])) _
                  refine XS.istore X4.here hx rfl (hb hby at_163) rfl (l' := #[.val (.int p1), .val (.int p2), .val (.int p3), .val (.int p4), .val (.int p5), .val (.int nn), .val (.int aa), .val (.int bb), .val (.int cc), .val (.int dd), .val (.int (1 : Int32)), .val (.int (1 : Int32)), .val (.int (1 : Int32)), .val (.ref b1), .val (.int ((((0 : Int32) + (1 : Int32)) + (1 : Int32)) + (1 : Int32))), .unset, .unset, .unset, .unset, .unset, .unset]) rfl ?_
                  show Steps p.tables e below (T4.setTop (mkF m 165 _ [])) _
                  refine XS.iload X4.here hx rfl (hb hby at_165) rfl ?_
                  show Steps p.tables e below (T4.setTop (mkF m 167 _ [(.int (1 : Int32))])) _
                  refine XS.ifNo X4.here hx rfl (hb hby at_167) rfl ((if0 _ _).trans (feq ((by decide) : ¬ ((1 : Int32) = (0 : Int32)))).1) ?_
                  show Steps p.tables e below (T4.setTop (mkF m 170 _ [])) _
                  refine XS.aload X4.here hx rfl (hb hby at_170) rfl rfl ?_
                  show Steps p.tables e below (T4.setTop (mkF m 172 _ [(.ref b1)])) _
                  refine XS.iload X4.here hx rfl (hb hby at_172) rfl ?_
                  show Steps p.tables e below (T4.setTop (mkF m 174 _ [(.int ((((0 : Int32) + (1 : Int32)) + (1 : Int32)) + (1 : Int32))), (.ref b1)])) _
                  refine XS.iload X4.here hx rfl (hb hby at_174) rfl ?_
                  exact kt
                obtain ⟨cl5, Ar5, S5, P5, H5⟩ := id V_b1_4
                have in5 := inb_of S5 (⟨by decide, by decide⟩ : ¬ ((((0 : Int32) + (1 : Int32)) + (1 : Int32)) + (1 : Int32)) < 0 ∧ ((((0 : Int32) + (1 : Int32)) + (1 : Int32)) + (1 : Int32)) < (4 : Int32))
                obtain ⟨T5, h5, X5, e5, W5, st5⟩ := stI X4 hx hZ e4 Ar5 (j := ((((0 : Int32) + (1 : Int32)) + (1 : Int32)) + (1 : Int32))) in5 (g := (mkF m 176 #[.val (.int p1), .val (.int p2), .val (.int p3), .val (.int p4), .val (.int p5), .val (.int nn), .val (.int aa), .val (.int bb), .val (.int cc), .val (.int dd), .val (.int (1 : Int32)), .val (.int (1 : Int32)), .val (.int (1 : Int32)), .val (.ref b1), .val (.int ((((0 : Int32) + (1 : Int32)) + (1 : Int32)) + (1 : Int32))), .unset, .unset, .unset, .unset, .unset, .unset] [(.int dd), (.int ((((0 : Int32) + (1 : Int32)) + (1 : Int32)) + (1 : Int32))), (.ref b1)])) rfl rfl (hb hby at_176)
                have V_b1_5 := V_b1_4.set W5
                have N5 := Fr.snoc X5 N4 g_b1
                have K5 := Keep.wr K4 W5 (Or.inr sz_b1)
                refine own_pre (B := (T5.setTop (mkF m 183 #[.val (.int p1), .val (.int p2), .val (.int p3), .val (.int p4), .val (.int p5), .val (.int nn), .val (.int aa), .val (.int bb), .val (.int cc), .val (.int dd), .val (.int (1 : Int32)), .val (.int (1 : Int32)), .val (.int (1 : Int32)), .val (.ref b1), .val (.int (((((0 : Int32) + (1 : Int32)) + (1 : Int32)) + (1 : Int32)) + (1 : Int32))), .unset, .unset, .unset, .unset, .unset, .unset] []))) (fun t kt => ?_) ?_
                · show Steps p.tables e below (T4.setTop (mkF m 176 _ [(.int dd), (.int ((((0 : Int32) + (1 : Int32)) + (1 : Int32)) + (1 : Int32))), (.ref b1)])) _
                  refine st5 _ ?_
                  show Steps p.tables e below (T5.setTop (mkF m 177 _ [])) _
                  refine XS.iload X5.here hx rfl (hb hby at_177) rfl ?_
                  show Steps p.tables e below (T5.setTop (mkF m 179 _ [(.int ((((0 : Int32) + (1 : Int32)) + (1 : Int32)) + (1 : Int32)))])) _
                  refine XS.iconst X5.here hx rfl (hb hby at_179) ?_
                  show Steps p.tables e below (T5.setTop (mkF m 180 _ [(.int (1 : Int32)), (.int ((((0 : Int32) + (1 : Int32)) + (1 : Int32)) + (1 : Int32)))])) _
                  refine XS.iadd X5.here hx rfl (hb hby at_180) rfl ?_
                  show Steps p.tables e below (T5.setTop (mkF m 181 _ [(.int (((((0 : Int32) + (1 : Int32)) + (1 : Int32)) + (1 : Int32)) + (1 : Int32)))])) _
                  refine XS.istore X5.here hx rfl (hb hby at_181) rfl (l' := #[.val (.int p1), .val (.int p2), .val (.int p3), .val (.int p4), .val (.int p5), .val (.int nn), .val (.int aa), .val (.int bb), .val (.int cc), .val (.int dd), .val (.int (1 : Int32)), .val (.int (1 : Int32)), .val (.int (1 : Int32)), .val (.ref b1), .val (.int (((((0 : Int32) + (1 : Int32)) + (1 : Int32)) + (1 : Int32)) + (1 : Int32))), .unset, .unset, .unset, .unset, .unset, .unset]) rfl ?_
                  exact kt
                obtain ⟨T6, h6, X6, e6, E6, A6, D6, -, st6⟩ := newO X5 hx hZ hown (hw _ (List.mem_of_getElem? (i := 2) rfl)) (hw _ (List.mem_of_getElem? (i := 3) rfl)) (hw _ (List.mem_of_getElem? (i := 4) rfl)) e5 (g := (mkF m 183 #[.val (.int p1), .val (.int p2), .val (.int p3), .val (.int p4), .val (.int p5), .val (.int nn), .val (.int aa), .val (.int bb), .val (.int cc), .val (.int dd), .val (.int (1 : Int32)), .val (.int (1 : Int32)), .val (.int (1 : Int32)), .val (.ref b1), .val (.int (((((0 : Int32) + (1 : Int32)) + (1 : Int32)) + (1 : Int32)) + (1 : Int32))), .unset, .unset, .unset, .unset, .unset, .unset] [])) rfl (hb hby at_183) (by decide) (by decide)
                obtain ⟨b6, g6⟩ : ∃ z, z = h5.size := ⟨_, rfl⟩
                have ne_b1_b6 : b1 ≠ b6 := Nat.ne_of_lt (Nat.lt_of_lt_of_le V_b1_5.lt (Nat.le_of_eq g6.symm))
                have g_b6 : n0 ≤ b6 := Nat.le_trans (Nat.le_trans (Nat.le_trans (Nat.le_trans (Nat.le_trans (Nat.le_trans Z0 E1.1) (Keep.of_wr W2).1) (Keep.of_wr W3).1) (Keep.of_wr W4).1) (Keep.of_wr W5).1) (Nat.le_of_eq g6.symm)
                have sz_b6 : h0.size ≤ b6 := Nat.le_trans K5.1 (Nat.le_of_eq g6.symm)
                rw [← g6] at A6 D6 st6
                have V_b1_6 := V_b1_5.ext E6
                have K6 := Keep.ext K5 E6
                have E_b6 := A6
                have F_member_b6 : Fld Z h6 b6 "com/example/faregraph/faregraph/search/Members" "member" "[Z" .null := D6 (Or.inr (hw _ (List.mem_of_getElem? (i := 13) rfl))) (ty := (.array .boolean)) (by decide)
                have F_members_b6 : Fld Z h6 b6 "com/example/faregraph/faregraph/search/Members" "members" "[I" .null := D6 (Or.inr (hw _ (List.mem_of_getElem? (i := 15) rfl))) (ty := (.array .int)) (by decide)
                have F_count_b6 : Fld Z h6 b6 "com/example/faregraph/faregraph/search/Members" "count" "I" (.int (0 : Int32)) := D6 (Or.inl (hw _ (List.mem_of_getElem? (i := 22) rfl))) (ty := .int) (by decide)
                refine own_pre (B := (T6.setTop (mkF m 189 #[.val (.int p1), .val (.int p2), .val (.int p3), .val (.int p4), .val (.int p5), .val (.int nn), .val (.int aa), .val (.int bb), .val (.int cc), .val (.int dd), .val (.int (1 : Int32)), .val (.int (1 : Int32)), .val (.int (1 : Int32)), .val (.ref b1), .val (.int (((((0 : Int32) + (1 : Int32)) + (1 : Int32)) + (1 : Int32)) + (1 : Int32))), .unset, .unset, .unset, .unset, .unset, .unset] [(.int nn), (.ref b6), (.ref b6)]))) (fun t kt => ?_) ?_
                · show Steps p.tables e below (T5.setTop (mkF m 183 _ [])) _
                  refine st6 _ ?_
                  show Steps p.tables e below (T6.setTop (mkF m 186 _ [(.ref b6)])) _
                  refine XS.dup X6.here hx rfl (hb hby at_186) rfl rfl ?_
                  show Steps p.tables e below (T6.setTop (mkF m 187 _ [(.ref b6), (.ref b6)])) _
                  refine XS.iload X6.here hx rfl (hb hby at_187) rfl ?_
                  exact kt
                obtain ⟨_, _, ⟨T7, L7, k7, n7⟩, -, X7, ⟨Lc7, hQ7, l7, y7, z7⟩, st7⟩ := X6.specialBack hx (y := (⟨"com/example/faregraph/faregraph/search/Members", "<init>", "(I)V"⟩ : MethodName)) rfl hown (mvT hZ (hw _ (List.mem_of_getElem? (i := 5) rfl))) (mvT hZ (hw _ (List.mem_of_getElem? (i := 6) rfl))) (mvT hZ (hw _ (List.mem_of_getElem? (i := 7) rfl))) (by decide) (backOf (W := 1) (rm1 l Z a0 hw [] b6 nn h6 n0 (Nat.le_trans (Nat.le_trans (Nat.le_trans (Nat.le_trans (Nat.le_trans (Nat.le_trans Z0 E1.1) (Keep.of_wr W2).1) (Keep.of_wr W3).1) (Keep.of_wr W4).1) (Keep.of_wr W5).1) E6.1) E_b6 F_member_b6 F_members_b6 F_count_b6 g_b6 hnn hcap) hZ (hw _ (List.mem_of_getElem? (i := 7) rfl)) (hw _ (List.mem_of_getElem? (i := 4) rfl)) (by decide) (by decide)) (g := (mkF m 189 #[.val (.int p1), .val (.int p2), .val (.int p3), .val (.int p4), .val (.int p5), .val (.int nn), .val (.int aa), .val (.int bb), .val (.int cc), .val (.int dd), .val (.int (1 : Int32)), .val (.int (1 : Int32)), .val (.int (1 : Int32)), .val (.ref b1), .val (.int (((((0 : Int32) + (1 : Int32)) + (1 : Int32)) + (1 : Int32)) + (1 : Int32))), .unset, .unset, .unset, .unset, .unset, .unset] [(.int nn), (.ref b6), (.ref b6)])) rfl (by rw [hml]; rfl) (Steps.refl _) (a := b6) (argsL := [(.int nn)]) (rest := [(.ref b6)]) (lenOf pd_0 rfl) rfl (by show 2 * 0 + _ ≤ _; exact Nat.le_of_eq rfl) (hb hby at_189) (fun _ _ => ⟨rfl, e6, (by decide : 2 + 2 ≤ _), (by decide : 7 + 16 ≤ _)⟩)
                dsimp only [Pt.U, Pt.locs, Pt.cells, Pt.slots] at X7 l7 y7 z7 st7 hQ7
                subst l7 y7 z7
                obtain ⟨rfl, N7q, KK7, mb, mc, szb, szc, M7⟩ := hQ7
                have N7 := Fr.app N5 N7q
                have ne_b1_mb : b1 ≠ mb := Nat.ne_of_lt (Nat.lt_of_lt_of_le V_b1_6.lt szb)
                have ne_b1_mc : b1 ≠ mc := Nat.ne_of_lt (Nat.lt_of_lt_of_le V_b1_6.lt szc)
                have g_mb : n0 ≤ mb := Nat.le_trans (Nat.le_trans (Nat.le_trans (Nat.le_trans (Nat.le_trans (Nat.le_trans (Nat.le_trans Z0 E1.1) (Keep.of_wr W2).1) (Keep.of_wr W3).1) (Keep.of_wr W4).1) (Keep.of_wr W5).1) E6.1) szb
                have g_mc : n0 ≤ mc := Nat.le_trans (Nat.le_trans (Nat.le_trans (Nat.le_trans (Nat.le_trans (Nat.le_trans (Nat.le_trans Z0 E1.1) (Keep.of_wr W2).1) (Keep.of_wr W3).1) (Keep.of_wr W4).1) (Keep.of_wr W5).1) E6.1) szc
                have sz_mb : h0.size ≤ mb := Nat.le_trans K6.1 szb
                have sz_mc : h0.size ≤ mc := Nat.le_trans K6.1 szc
                have V_b1_7 := V_b1_6.keep KK7 (ninS ne_b1_b6 nin0)
                have E_b6_7 := E_b6.keep KK7
                have KC7 := Keep.trans K6 KK7 (allS (P := fun x => x ∈ [] ∨ h0.size ≤ x) (Or.inr sz_b6) all0)
                refine own_pre (B := (T7.setTop (mkF m 198 #[.val (.int p1), .val (.int p2), .val (.int p3), .val (.int p4), .val (.int p5), .val (.int nn), .val (.int aa), .val (.int bb), .val (.int cc), .val (.int dd), .val (.int (1 : Int32)), .val (.int (1 : Int32)), .val (.int (1 : Int32)), .val (.ref b1), .val (.int (((((0 : Int32) + (1 : Int32)) + (1 : Int32)) + (1 : Int32)) + (1 : Int32))), .val (.ref b6), .unset, .unset, .unset, .unset, .unset] [(.int aa), (.ref b6)]))) (fun t kt => ?_) ?_
                · refine st7.trans ?_
                  show Steps p.tables e below (T7.setTop (mkF m 192 _ [(.ref b6)])) _
                  refine XS.astore X7.here hx rfl (hb hby at_192) rfl rfl (l' := #[.val (.int p1), .val (.int p2), .val (.int p3), .val (.int p4), .val (.int p5), .val (.int nn), .val (.int aa), .val (.int bb), .val (.int cc), .val (.int dd), .val (.int (1 : Int32)), .val (.int (1 : Int32)), .val (.int (1 : Int32)), .val (.ref b1), .val (.int (((((0 : Int32) + (1 : Int32)) + (1 : Int32)) + (1 : Int32)) + (1 : Int32))), .val (.ref b6), .unset, .unset, .unset, .unset, .unset]) rfl ?_
                  show Steps p.tables e below (T7.setTop (mkF m 194 _ [])) _
                  refine XS.aload X7.here hx rfl (hb hby at_194) rfl rfl ?_
                  show Steps p.tables e below (T7.setTop (mkF m 196 _ [(.ref b6)])) _
                  refine XS.iload X7.here hx rfl (hb hby at_196) rfl ?_
                  exact kt
                have hk0 : ¬ (0 : Int32) < 0 ∧ (0 : Int32) < nn := own_rng' (by have e : ((0 : Int32)).toInt = 0 := (by decide); omega)
                have hf_aa : (fun _ => (0 : Int32)) (aa).toNatClampNeg = 0 := by
                  simp only [own_upd, own_tn]
                obtain ⟨cq8, kq8, q8a, q8b, q8c⟩ := isOf hZ rfl M7.1
                obtain ⟨_, _, ⟨T8, L8, k8, n8⟩, -, X8, ⟨Lc8, hQ8, l8, y8, z8⟩, st8⟩ := X7.virtualBack hx (y := (⟨"com/example/faregraph/faregraph/search/Members", "add", "(I)Z"⟩ : MethodName)) (z := (⟨"com/example/faregraph/faregraph/search/Members", "add", "(I)Z"⟩ : MethodName)) hown (mvT hZ (hw _ (List.mem_of_getElem? (i := 16) rfl))) (mvT hZ (hw _ (List.mem_of_getElem? (i := 17) rfl))) (notFace_of_selects (args := #[]) (mvT hZ (hw _ (List.mem_of_getElem? (i := 19) rfl)))) (mvT hZ (hw _ (List.mem_of_getElem? (i := 19) rfl))) (mvT hZ (hw _ (List.mem_of_getElem? (i := 18) rfl))) (by decide) (backOf (W := 0) (rm3n l Z a0 hw [] b6 mb mc nn (0 : Int32) (fun _ => (0 : Int32)) (fun _ => (0 : Int32)) aa T7.heap n0 (Nat.le_trans (Nat.le_trans (Nat.le_trans (Nat.le_trans (Nat.le_trans (Nat.le_trans (Nat.le_trans Z0 E1.1) (Keep.of_wr W2).1) (Keep.of_wr W3).1) (Keep.of_wr W4).1) (Keep.of_wr W5).1) E6.1) KK7.1) M7 ra hk0 hf_aa) hZ (hw _ (List.mem_of_getElem? (i := 20) rfl)) (hw _ (List.mem_of_getElem? (i := 4) rfl)) (by decide) (by decide)) q8a q8c (g := (mkF m 198 #[.val (.int p1), .val (.int p2), .val (.int p3), .val (.int p4), .val (.int p5), .val (.int nn), .val (.int aa), .val (.int bb), .val (.int cc), .val (.int dd), .val (.int (1 : Int32)), .val (.int (1 : Int32)), .val (.int (1 : Int32)), .val (.ref b1), .val (.int (((((0 : Int32) + (1 : Int32)) + (1 : Int32)) + (1 : Int32)) + (1 : Int32))), .val (.ref b6), .unset, .unset, .unset, .unset, .unset] [(.int aa), (.ref b6)])) rfl (by rw [hml]; rfl) (Steps.refl _) (argsL := [(.int aa)]) (rest := []) (lenOf pd_2 rfl) rfl (by show 2 * 0 + _ ≤ _; exact Nat.le_of_eq rfl) (hb hby at_198) (fun _ _ => ⟨rfl, rfl, (by decide : 4 + 0 ≤ _), (by decide : 23 + 0 ≤ _)⟩)
                dsimp only [Pt.U, Pt.locs, Pt.cells, Pt.slots] at X8 l8 y8 z8 st8 hQ8
                subst l8 y8 z8
                obtain ⟨rfl, N8q, KK8, M8⟩ := hQ8
                have N8 := Fr.app N7 N8q
                have V_b1_8 := V_b1_7.keep KK8 (ninS ne_b1_b6 (ninS ne_b1_mb (ninS ne_b1_mc nin0)))
                have E_b6_8 := E_b6_7.keep KK8
                have KC8 := Keep.trans KC7 KK8 (allS (P := fun x => x ∈ [] ∨ h0.size ≤ x) (Or.inr sz_b6) (allS (P := fun x => x ∈ [] ∨ h0.size ≤ x) (Or.inr sz_mb) (allS (P := fun x => x ∈ [] ∨ h0.size ≤ x) (Or.inr sz_mc) all0)))
                refine own_pre (B := (T8.setTop (mkF m 207 #[.val (.int p1), .val (.int p2), .val (.int p3), .val (.int p4), .val (.int p5), .val (.int nn), .val (.int aa), .val (.int bb), .val (.int cc), .val (.int dd), .val (.int (1 : Int32)), .val (.int (1 : Int32)), .val (.int (1 : Int32)), .val (.ref b1), .val (.int (((((0 : Int32) + (1 : Int32)) + (1 : Int32)) + (1 : Int32)) + (1 : Int32))), .val (.ref b6), .val (.int (1 : Int32)), .unset, .unset, .unset, .unset] [(.int bb), (.ref b6)]))) (fun t kt => ?_) ?_
                · refine st8.trans ?_
                  show Steps p.tables e below (T8.setTop (mkF m 201 _ [(.int (1 : Int32))])) _
                  refine XS.istore X8.here hx rfl (hb hby at_201) rfl (l' := #[.val (.int p1), .val (.int p2), .val (.int p3), .val (.int p4), .val (.int p5), .val (.int nn), .val (.int aa), .val (.int bb), .val (.int cc), .val (.int dd), .val (.int (1 : Int32)), .val (.int (1 : Int32)), .val (.int (1 : Int32)), .val (.ref b1), .val (.int (((((0 : Int32) + (1 : Int32)) + (1 : Int32)) + (1 : Int32)) + (1 : Int32))), .val (.ref b6), .val (.int (1 : Int32)), .unset, .unset, .unset, .unset]) rfl ?_
                  show Steps p.tables e below (T8.setTop (mkF m 203 _ [])) _
                  refine XS.aload X8.here hx rfl (hb hby at_203) rfl rfl ?_
                  show Steps p.tables e below (T8.setTop (mkF m 205 _ [(.ref b6)])) _
                  refine XS.iload X8.here hx rfl (hb hby at_205) rfl ?_
                  exact kt
                have hk1 : ¬ ((0 : Int32) + (1 : Int32)) < 0 ∧ ((0 : Int32) + (1 : Int32)) < nn := own_rng' (by have e : (((0 : Int32) + (1 : Int32))).toInt = 1 := (by decide); omega)
                have hf_bb : (own_upd (fun _ => (0 : Int32)) (aa).toNatClampNeg 1) (bb).toNatClampNeg = 0 := by
                  simp only [own_upd, own_tn]
                  repeat' split
                  all_goals first | rfl | (exfalso; omega)
                obtain ⟨cq9, kq9, q9a, q9b, q9c⟩ := isOf hZ rfl M8.1
                obtain ⟨_, _, ⟨T9, L9, k9, n9⟩, -, X9, ⟨Lc9, hQ9, l9, y9, z9⟩, st9⟩ := X8.virtualBack hx (y := (⟨"com/example/faregraph/faregraph/search/Members", "add", "(I)Z"⟩ : MethodName)) (z := (⟨"com/example/faregraph/faregraph/search/Members", "add", "(I)Z"⟩ : MethodName)) hown (mvT hZ (hw _ (List.mem_of_getElem? (i := 16) rfl))) (mvT hZ (hw _ (List.mem_of_getElem? (i := 17) rfl))) (notFace_of_selects (args := #[]) (mvT hZ (hw _ (List.mem_of_getElem? (i := 19) rfl)))) (mvT hZ (hw _ (List.mem_of_getElem? (i := 19) rfl))) (mvT hZ (hw _ (List.mem_of_getElem? (i := 18) rfl))) (by decide) (backOf (W := 0) (rm3n l Z a0 hw [] b6 mb mc nn ((0 : Int32) + (1 : Int32)) (own_upd (fun _ => (0 : Int32)) (aa).toNatClampNeg 1) (own_upd (fun _ => (0 : Int32)) ((0 : Int32)).toNatClampNeg aa) bb T8.heap n0 (Nat.le_trans (Nat.le_trans (Nat.le_trans (Nat.le_trans (Nat.le_trans (Nat.le_trans (Nat.le_trans (Nat.le_trans Z0 E1.1) (Keep.of_wr W2).1) (Keep.of_wr W3).1) (Keep.of_wr W4).1) (Keep.of_wr W5).1) E6.1) KK7.1) KK8.1) M8 rb hk1 hf_bb) hZ (hw _ (List.mem_of_getElem? (i := 20) rfl)) (hw _ (List.mem_of_getElem? (i := 4) rfl)) (by decide) (by decide)) q9a q9c (g := (mkF m 207 #[.val (.int p1), .val (.int p2), .val (.int p3), .val (.int p4), .val (.int p5), .val (.int nn), .val (.int aa), .val (.int bb), .val (.int cc), .val (.int dd), .val (.int (1 : Int32)), .val (.int (1 : Int32)), .val (.int (1 : Int32)), .val (.ref b1), .val (.int (((((0 : Int32) + (1 : Int32)) + (1 : Int32)) + (1 : Int32)) + (1 : Int32))), .val (.ref b6), .val (.int (1 : Int32)), .unset, .unset, .unset, .unset] [(.int bb), (.ref b6)])) rfl (by rw [hml]; rfl) (Steps.refl _) (argsL := [(.int bb)]) (rest := []) (lenOf pd_2 rfl) rfl (by show 2 * 0 + _ ≤ _; exact Nat.le_of_eq rfl) (hb hby at_207) (fun _ _ => ⟨rfl, rfl, (by decide : 4 + 0 ≤ _), (by decide : 23 + 0 ≤ _)⟩)
                dsimp only [Pt.U, Pt.locs, Pt.cells, Pt.slots] at X9 l9 y9 z9 st9 hQ9
                subst l9 y9 z9
                obtain ⟨rfl, N9q, KK9, M9⟩ := hQ9
                have N9 := Fr.app N8 N9q
                have V_b1_9 := V_b1_8.keep KK9 (ninS ne_b1_b6 (ninS ne_b1_mb (ninS ne_b1_mc nin0)))
                have E_b6_9 := E_b6_8.keep KK9
                have KC9 := Keep.trans KC8 KK9 (allS (P := fun x => x ∈ [] ∨ h0.size ≤ x) (Or.inr sz_b6) (allS (P := fun x => x ∈ [] ∨ h0.size ≤ x) (Or.inr sz_mb) (allS (P := fun x => x ∈ [] ∨ h0.size ≤ x) (Or.inr sz_mc) all0)))
                refine own_pre (B := (T9.setTop (mkF m 216 #[.val (.int p1), .val (.int p2), .val (.int p3), .val (.int p4), .val (.int p5), .val (.int nn), .val (.int aa), .val (.int bb), .val (.int cc), .val (.int dd), .val (.int (1 : Int32)), .val (.int (1 : Int32)), .val (.int (1 : Int32)), .val (.ref b1), .val (.int (((((0 : Int32) + (1 : Int32)) + (1 : Int32)) + (1 : Int32)) + (1 : Int32))), .val (.ref b6), .val (.int (1 : Int32)), .val (.int (1 : Int32)), .unset, .unset, .unset] [(.int cc), (.ref b6)]))) (fun t kt => ?_) ?_
                · refine st9.trans ?_
                  show Steps p.tables e below (T9.setTop (mkF m 210 _ [(.int (1 : Int32))])) _
                  refine XS.istore X9.here hx rfl (hb hby at_210) rfl (l' := #[.val (.int p1), .val (.int p2), .val (.int p3), .val (.int p4), .val (.int p5), .val (.int nn), .val (.int aa), .val (.int bb), .val (.int cc), .val (.int dd), .val (.int (1 : Int32)), .val (.int (1 : Int32)), .val (.int (1 : Int32)), .val (.ref b1), .val (.int (((((0 : Int32) + (1 : Int32)) + (1 : Int32)) + (1 : Int32)) + (1 : Int32))), .val (.ref b6), .val (.int (1 : Int32)), .val (.int (1 : Int32)), .unset, .unset, .unset]) rfl ?_
                  show Steps p.tables e below (T9.setTop (mkF m 212 _ [])) _
                  refine XS.aload X9.here hx rfl (hb hby at_212) rfl rfl ?_
                  show Steps p.tables e below (T9.setTop (mkF m 214 _ [(.ref b6)])) _
                  refine XS.iload X9.here hx rfl (hb hby at_214) rfl ?_
                  exact kt
                have hk2 : ¬ (((0 : Int32) + (1 : Int32)) + (1 : Int32)) < 0 ∧ (((0 : Int32) + (1 : Int32)) + (1 : Int32)) < nn := own_rng' (by have e : ((((0 : Int32) + (1 : Int32)) + (1 : Int32))).toInt = 2 := (by decide); omega)
                have hf_cc : (own_upd (own_upd (fun _ => (0 : Int32)) (aa).toNatClampNeg 1) (bb).toNatClampNeg 1) (cc).toNatClampNeg = 0 := by
                  simp only [own_upd, own_tn]
                  repeat' split
                  all_goals first | rfl | (exfalso; omega)
                obtain ⟨cq10, kq10, q10a, q10b, q10c⟩ := isOf hZ rfl M9.1
                obtain ⟨_, _, ⟨T10, L10, k10, n10⟩, -, X10, ⟨Lc10, hQ10, l10, y10, z10⟩, st10⟩ := X9.virtualBack hx (y := (⟨"com/example/faregraph/faregraph/search/Members", "add", "(I)Z"⟩ : MethodName)) (z := (⟨"com/example/faregraph/faregraph/search/Members", "add", "(I)Z"⟩ : MethodName)) hown (mvT hZ (hw _ (List.mem_of_getElem? (i := 16) rfl))) (mvT hZ (hw _ (List.mem_of_getElem? (i := 17) rfl))) (notFace_of_selects (args := #[]) (mvT hZ (hw _ (List.mem_of_getElem? (i := 19) rfl)))) (mvT hZ (hw _ (List.mem_of_getElem? (i := 19) rfl))) (mvT hZ (hw _ (List.mem_of_getElem? (i := 18) rfl))) (by decide) (backOf (W := 0) (rm3n l Z a0 hw [] b6 mb mc nn (((0 : Int32) + (1 : Int32)) + (1 : Int32)) (own_upd (own_upd (fun _ => (0 : Int32)) (aa).toNatClampNeg 1) (bb).toNatClampNeg 1) (own_upd (own_upd (fun _ => (0 : Int32)) ((0 : Int32)).toNatClampNeg aa) (((0 : Int32) + (1 : Int32))).toNatClampNeg bb) cc T9.heap n0 (Nat.le_trans (Nat.le_trans (Nat.le_trans (Nat.le_trans (Nat.le_trans (Nat.le_trans (Nat.le_trans (Nat.le_trans (Nat.le_trans Z0 E1.1) (Keep.of_wr W2).1) (Keep.of_wr W3).1) (Keep.of_wr W4).1) (Keep.of_wr W5).1) E6.1) KK7.1) KK8.1) KK9.1) M9 rc hk2 hf_cc) hZ (hw _ (List.mem_of_getElem? (i := 20) rfl)) (hw _ (List.mem_of_getElem? (i := 4) rfl)) (by decide) (by decide)) q10a q10c (g := (mkF m 216 #[.val (.int p1), .val (.int p2), .val (.int p3), .val (.int p4), .val (.int p5), .val (.int nn), .val (.int aa), .val (.int bb), .val (.int cc), .val (.int dd), .val (.int (1 : Int32)), .val (.int (1 : Int32)), .val (.int (1 : Int32)), .val (.ref b1), .val (.int (((((0 : Int32) + (1 : Int32)) + (1 : Int32)) + (1 : Int32)) + (1 : Int32))), .val (.ref b6), .val (.int (1 : Int32)), .val (.int (1 : Int32)), .unset, .unset, .unset] [(.int cc), (.ref b6)])) rfl (by rw [hml]; rfl) (Steps.refl _) (argsL := [(.int cc)]) (rest := []) (lenOf pd_2 rfl) rfl (by show 2 * 0 + _ ≤ _; exact Nat.le_of_eq rfl) (hb hby at_216) (fun _ _ => ⟨rfl, rfl, (by decide : 4 + 0 ≤ _), (by decide : 23 + 0 ≤ _)⟩)
                dsimp only [Pt.U, Pt.locs, Pt.cells, Pt.slots] at X10 l10 y10 z10 st10 hQ10
                subst l10 y10 z10
                obtain ⟨rfl, N10q, KK10, M10⟩ := hQ10
                have N10 := Fr.app N9 N10q
                have V_b1_10 := V_b1_9.keep KK10 (ninS ne_b1_b6 (ninS ne_b1_mb (ninS ne_b1_mc nin0)))
                have E_b6_10 := E_b6_9.keep KK10
                have KC10 := Keep.trans KC9 KK10 (allS (P := fun x => x ∈ [] ∨ h0.size ≤ x) (Or.inr sz_b6) (allS (P := fun x => x ∈ [] ∨ h0.size ≤ x) (Or.inr sz_mb) (allS (P := fun x => x ∈ [] ∨ h0.size ≤ x) (Or.inr sz_mc) all0)))
                refine own_pre (B := (T10.setTop (mkF m 225 #[.val (.int p1), .val (.int p2), .val (.int p3), .val (.int p4), .val (.int p5), .val (.int nn), .val (.int aa), .val (.int bb), .val (.int cc), .val (.int dd), .val (.int (1 : Int32)), .val (.int (1 : Int32)), .val (.int (1 : Int32)), .val (.ref b1), .val (.int (((((0 : Int32) + (1 : Int32)) + (1 : Int32)) + (1 : Int32)) + (1 : Int32))), .val (.ref b6), .val (.int (1 : Int32)), .val (.int (1 : Int32)), .val (.int (1 : Int32)), .unset, .unset] [(.int dd), (.ref b6)]))) (fun t kt => ?_) ?_
                · refine st10.trans ?_
                  show Steps p.tables e below (T10.setTop (mkF m 219 _ [(.int (1 : Int32))])) _
                  refine XS.istore X10.here hx rfl (hb hby at_219) rfl (l' := #[.val (.int p1), .val (.int p2), .val (.int p3), .val (.int p4), .val (.int p5), .val (.int nn), .val (.int aa), .val (.int bb), .val (.int cc), .val (.int dd), .val (.int (1 : Int32)), .val (.int (1 : Int32)), .val (.int (1 : Int32)), .val (.ref b1), .val (.int (((((0 : Int32) + (1 : Int32)) + (1 : Int32)) + (1 : Int32)) + (1 : Int32))), .val (.ref b6), .val (.int (1 : Int32)), .val (.int (1 : Int32)), .val (.int (1 : Int32)), .unset, .unset]) rfl ?_
                  show Steps p.tables e below (T10.setTop (mkF m 221 _ [])) _
                  refine XS.aload X10.here hx rfl (hb hby at_221) rfl rfl ?_
                  show Steps p.tables e below (T10.setTop (mkF m 223 _ [(.ref b6)])) _
                  refine XS.iload X10.here hx rfl (hb hby at_223) rfl ?_
                  exact kt
                have hk3 : ¬ ((((0 : Int32) + (1 : Int32)) + (1 : Int32)) + (1 : Int32)) < 0 ∧ ((((0 : Int32) + (1 : Int32)) + (1 : Int32)) + (1 : Int32)) < nn := own_rng' (by have e : (((((0 : Int32) + (1 : Int32)) + (1 : Int32)) + (1 : Int32))).toInt = 3 := (by decide); omega)
                have hf_dd : (own_upd (own_upd (own_upd (fun _ => (0 : Int32)) (aa).toNatClampNeg 1) (bb).toNatClampNeg 1) (cc).toNatClampNeg 1) (dd).toNatClampNeg = 0 := by
                  simp only [own_upd, own_tn]
                  repeat' split
                  all_goals first | rfl | (exfalso; omega)
                obtain ⟨cq11, kq11, q11a, q11b, q11c⟩ := isOf hZ rfl M10.1
                obtain ⟨_, _, ⟨T11, L11, k11, n11⟩, -, X11, ⟨Lc11, hQ11, l11, y11, z11⟩, st11⟩ := X10.virtualBack hx (y := (⟨"com/example/faregraph/faregraph/search/Members", "add", "(I)Z"⟩ : MethodName)) (z := (⟨"com/example/faregraph/faregraph/search/Members", "add", "(I)Z"⟩ : MethodName)) hown (mvT hZ (hw _ (List.mem_of_getElem? (i := 16) rfl))) (mvT hZ (hw _ (List.mem_of_getElem? (i := 17) rfl))) (notFace_of_selects (args := #[]) (mvT hZ (hw _ (List.mem_of_getElem? (i := 19) rfl)))) (mvT hZ (hw _ (List.mem_of_getElem? (i := 19) rfl))) (mvT hZ (hw _ (List.mem_of_getElem? (i := 18) rfl))) (by decide) (backOf (W := 0) (rm3n l Z a0 hw [] b6 mb mc nn ((((0 : Int32) + (1 : Int32)) + (1 : Int32)) + (1 : Int32)) (own_upd (own_upd (own_upd (fun _ => (0 : Int32)) (aa).toNatClampNeg 1) (bb).toNatClampNeg 1) (cc).toNatClampNeg 1) (own_upd (own_upd (own_upd (fun _ => (0 : Int32)) ((0 : Int32)).toNatClampNeg aa) (((0 : Int32) + (1 : Int32))).toNatClampNeg bb) ((((0 : Int32) + (1 : Int32)) + (1 : Int32))).toNatClampNeg cc) dd T10.heap n0 (Nat.le_trans (Nat.le_trans (Nat.le_trans (Nat.le_trans (Nat.le_trans (Nat.le_trans (Nat.le_trans (Nat.le_trans (Nat.le_trans (Nat.le_trans Z0 E1.1) (Keep.of_wr W2).1) (Keep.of_wr W3).1) (Keep.of_wr W4).1) (Keep.of_wr W5).1) E6.1) KK7.1) KK8.1) KK9.1) KK10.1) M10 rd hk3 hf_dd) hZ (hw _ (List.mem_of_getElem? (i := 20) rfl)) (hw _ (List.mem_of_getElem? (i := 4) rfl)) (by decide) (by decide)) q11a q11c (g := (mkF m 225 #[.val (.int p1), .val (.int p2), .val (.int p3), .val (.int p4), .val (.int p5), .val (.int nn), .val (.int aa), .val (.int bb), .val (.int cc), .val (.int dd), .val (.int (1 : Int32)), .val (.int (1 : Int32)), .val (.int (1 : Int32)), .val (.ref b1), .val (.int (((((0 : Int32) + (1 : Int32)) + (1 : Int32)) + (1 : Int32)) + (1 : Int32))), .val (.ref b6), .val (.int (1 : Int32)), .val (.int (1 : Int32)), .val (.int (1 : Int32)), .unset, .unset] [(.int dd), (.ref b6)])) rfl (by rw [hml]; rfl) (Steps.refl _) (argsL := [(.int dd)]) (rest := []) (lenOf pd_2 rfl) rfl (by show 2 * 0 + _ ≤ _; exact Nat.le_of_eq rfl) (hb hby at_225) (fun _ _ => ⟨rfl, rfl, (by decide : 4 + 0 ≤ _), (by decide : 23 + 0 ≤ _)⟩)
                dsimp only [Pt.U, Pt.locs, Pt.cells, Pt.slots] at X11 l11 y11 z11 st11 hQ11
                subst l11 y11 z11
                obtain ⟨rfl, N11q, KK11, M11⟩ := hQ11
                have N11 := Fr.app N10 N11q
                have V_b1_11 := V_b1_10.keep KK11 (ninS ne_b1_b6 (ninS ne_b1_mb (ninS ne_b1_mc nin0)))
                have E_b6_11 := E_b6_10.keep KK11
                have KC11 := Keep.trans KC10 KK11 (allS (P := fun x => x ∈ [] ∨ h0.size ≤ x) (Or.inr sz_b6) (allS (P := fun x => x ∈ [] ∨ h0.size ≤ x) (Or.inr sz_mb) (allS (P := fun x => x ∈ [] ∨ h0.size ≤ x) (Or.inr sz_mc) all0)))
                refine own_pre (B := (T11.setTop (mkF m 260 #[.val (.int p1), .val (.int p2), .val (.int p3), .val (.int p4), .val (.int p5), .val (.int nn), .val (.int aa), .val (.int bb), .val (.int cc), .val (.int dd), .val (.int (1 : Int32)), .val (.int (1 : Int32)), .val (.int (1 : Int32)), .val (.ref b1), .val (.int (((((0 : Int32) + (1 : Int32)) + (1 : Int32)) + (1 : Int32)) + (1 : Int32))), .val (.ref b6), .val (.int (1 : Int32)), .val (.int (1 : Int32)), .val (.int (1 : Int32)), .val (.int (1 : Int32)), .unset] [(.ref b6)]))) (fun t kt => ?_) ?_
                · refine st11.trans ?_
                  show Steps p.tables e below (T11.setTop (mkF m 228 _ [(.int (1 : Int32))])) _
                  refine XS.istore X11.here hx rfl (hb hby at_228) rfl (l' := #[.val (.int p1), .val (.int p2), .val (.int p3), .val (.int p4), .val (.int p5), .val (.int nn), .val (.int aa), .val (.int bb), .val (.int cc), .val (.int dd), .val (.int (1 : Int32)), .val (.int (1 : Int32)), .val (.int (1 : Int32)), .val (.ref b1), .val (.int (((((0 : Int32) + (1 : Int32)) + (1 : Int32)) + (1 : Int32)) + (1 : Int32))), .val (.ref b6), .val (.int (1 : Int32)), .val (.int (1 : Int32)), .val (.int (1 : Int32)), .val (.int (1 : Int32)), .unset]) rfl ?_
                  show Steps p.tables e below (T11.setTop (mkF m 230 _ [])) _
                  refine XS.iload X11.here hx rfl (hb hby at_230) rfl ?_
                  show Steps p.tables e below (T11.setTop (mkF m 232 _ [(.int (1 : Int32))])) _
                  refine XS.ifNo X11.here hx rfl (hb hby at_232) rfl ((if0 _ _).trans (feq ((by decide) : ¬ ((1 : Int32) = (0 : Int32)))).1) ?_
                  show Steps p.tables e below (T11.setTop (mkF m 235 _ [])) _
                  refine XS.iload X11.here hx rfl (hb hby at_235) rfl ?_
                  show Steps p.tables e below (T11.setTop (mkF m 237 _ [(.int (1 : Int32))])) _
                  refine XS.iload X11.here hx rfl (hb hby at_237) rfl ?_
                  show Steps p.tables e below (T11.setTop (mkF m 239 _ [(.int (1 : Int32)), (.int (1 : Int32))])) _
                  refine XS.icmpNo X11.here hx rfl (hb hby at_239) rfl (teq (rfl : (1 : Int32) = (1 : Int32))).2 ?_
                  show Steps p.tables e below (T11.setTop (mkF m 242 _ [])) _
                  refine XS.iload X11.here hx rfl (hb hby at_242) rfl ?_
                  show Steps p.tables e below (T11.setTop (mkF m 244 _ [(.int (1 : Int32))])) _
                  refine XS.iload X11.here hx rfl (hb hby at_244) rfl ?_
                  show Steps p.tables e below (T11.setTop (mkF m 246 _ [(.int (1 : Int32)), (.int (1 : Int32))])) _
                  refine XS.icmpNo X11.here hx rfl (hb hby at_246) rfl (teq (rfl : (1 : Int32) = (1 : Int32))).2 ?_
                  show Steps p.tables e below (T11.setTop (mkF m 249 _ [])) _
                  refine XS.iload X11.here hx rfl (hb hby at_249) rfl ?_
                  show Steps p.tables e below (T11.setTop (mkF m 251 _ [(.int (1 : Int32))])) _
                  refine XS.iload X11.here hx rfl (hb hby at_251) rfl ?_
                  show Steps p.tables e below (T11.setTop (mkF m 253 _ [(.int (1 : Int32)), (.int (1 : Int32))])) _
                  refine XS.icmpYes X11.here hx rfl (pc0 := 253) (pc' := 258) rfl (hb hby at_253) rfl (teq (rfl : (1 : Int32) = (1 : Int32))).1 (by decide) (by decide) ?_
                  show Steps p.tables e below (T11.setTop (mkF m 258 _ [])) _
                  refine XS.aload X11.here hx rfl (hb hby at_258) rfl rfl ?_
                  exact kt
                obtain ⟨cq12, kq12, q12a, q12b, q12c⟩ := isOf hZ rfl M11.1
                obtain ⟨_, _, ⟨T12, L12, k12, n12⟩, -, X12, ⟨Lc12, hQ12, l12, y12, z12⟩, st12⟩ := X11.virtualBack hx (y := (⟨"com/example/faregraph/faregraph/search/Members", "count", "()I"⟩ : MethodName)) (z := (⟨"com/example/faregraph/faregraph/search/Members", "count", "()I"⟩ : MethodName)) hown (mvT hZ (hw _ (List.mem_of_getElem? (i := 23) rfl))) (mvT hZ (hw _ (List.mem_of_getElem? (i := 24) rfl))) (notFace_of_selects (args := #[]) (mvT hZ (hw _ (List.mem_of_getElem? (i := 26) rfl)))) (mvT hZ (hw _ (List.mem_of_getElem? (i := 26) rfl))) (mvT hZ (hw _ (List.mem_of_getElem? (i := 25) rfl))) (by decide) (backOf (W := 0) (rm4 l Z a0 hw [] b6 mb mc nn (((((0 : Int32) + (1 : Int32)) + (1 : Int32)) + (1 : Int32)) + (1 : Int32)) (own_upd (own_upd (own_upd (own_upd (fun _ => (0 : Int32)) (aa).toNatClampNeg 1) (bb).toNatClampNeg 1) (cc).toNatClampNeg 1) (dd).toNatClampNeg 1) (own_upd (own_upd (own_upd (own_upd (fun _ => (0 : Int32)) ((0 : Int32)).toNatClampNeg aa) (((0 : Int32) + (1 : Int32))).toNatClampNeg bb) ((((0 : Int32) + (1 : Int32)) + (1 : Int32))).toNatClampNeg cc) (((((0 : Int32) + (1 : Int32)) + (1 : Int32)) + (1 : Int32))).toNatClampNeg dd) T11.heap n0 (Nat.le_trans (Nat.le_trans (Nat.le_trans (Nat.le_trans (Nat.le_trans (Nat.le_trans (Nat.le_trans (Nat.le_trans (Nat.le_trans (Nat.le_trans (Nat.le_trans Z0 E1.1) (Keep.of_wr W2).1) (Keep.of_wr W3).1) (Keep.of_wr W4).1) (Keep.of_wr W5).1) E6.1) KK7.1) KK8.1) KK9.1) KK10.1) KK11.1) M11) hZ (hw _ (List.mem_of_getElem? (i := 27) rfl)) (hw _ (List.mem_of_getElem? (i := 4) rfl)) (by decide) (by decide)) q12a q12c (g := (mkF m 260 #[.val (.int p1), .val (.int p2), .val (.int p3), .val (.int p4), .val (.int p5), .val (.int nn), .val (.int aa), .val (.int bb), .val (.int cc), .val (.int dd), .val (.int (1 : Int32)), .val (.int (1 : Int32)), .val (.int (1 : Int32)), .val (.ref b1), .val (.int (((((0 : Int32) + (1 : Int32)) + (1 : Int32)) + (1 : Int32)) + (1 : Int32))), .val (.ref b6), .val (.int (1 : Int32)), .val (.int (1 : Int32)), .val (.int (1 : Int32)), .val (.int (1 : Int32)), .unset] [(.ref b6)])) rfl (by rw [hml]; rfl) (Steps.refl _) (argsL := []) (rest := []) (lenOf pd_3 rfl) rfl (by show 2 * 0 + _ ≤ _; exact Nat.le_of_eq rfl) (hb hby at_260) (fun _ _ => ⟨rfl, rfl, (by decide : 4 + 0 ≤ _), (by decide : 23 + 0 ≤ _)⟩)
                dsimp only [Pt.U, Pt.locs, Pt.cells, Pt.slots] at X12 l12 y12 z12 st12 hQ12
                subst l12 y12 z12
                obtain ⟨rfl, N12q, e12⟩ := hQ12
                have N12 := Fr.app N11 N12q
                refine own_pre (B := (T12.setTop (mkF m 273 #[.val (.int p1), .val (.int p2), .val (.int p3), .val (.int p4), .val (.int p5), .val (.int nn), .val (.int aa), .val (.int bb), .val (.int cc), .val (.int dd), .val (.int (1 : Int32)), .val (.int (1 : Int32)), .val (.int (1 : Int32)), .val (.ref b1), .val (.int (((((0 : Int32) + (1 : Int32)) + (1 : Int32)) + (1 : Int32)) + (1 : Int32))), .val (.ref b6), .val (.int (1 : Int32)), .val (.int (1 : Int32)), .val (.int (1 : Int32)), .val (.int (1 : Int32)), .unset] [(.int (0 : Int32)), (.ref b6)]))) (fun t kt => ?_) ?_
                · refine st12.trans ?_
                  show Steps p.tables e below (T12.setTop (mkF m 263 _ [(.int (((((0 : Int32) + (1 : Int32)) + (1 : Int32)) + (1 : Int32)) + (1 : Int32)))])) _
                  refine XS.iload X12.here hx rfl (hb hby at_263) rfl ?_
                  show Steps p.tables e below (T12.setTop (mkF m 265 _ [(.int (((((0 : Int32) + (1 : Int32)) + (1 : Int32)) + (1 : Int32)) + (1 : Int32))), (.int (((((0 : Int32) + (1 : Int32)) + (1 : Int32)) + (1 : Int32)) + (1 : Int32)))])) _
                  refine XS.icmpYes X12.here hx rfl (pc0 := 265) (pc' := 270) rfl (hb hby at_265) rfl (teq (rfl : (((((0 : Int32) + (1 : Int32)) + (1 : Int32)) + (1 : Int32)) + (1 : Int32)) = (((((0 : Int32) + (1 : Int32)) + (1 : Int32)) + (1 : Int32)) + (1 : Int32)))).1 (by decide) (by decide) ?_
                  show Steps p.tables e below (T12.setTop (mkF m 270 _ [])) _
                  refine XS.aload X12.here hx rfl (hb hby at_270) rfl rfl ?_
                  show Steps p.tables e below (T12.setTop (mkF m 272 _ [(.ref b6)])) _
                  refine XS.iconst X12.here hx rfl (hb hby at_272) ?_
                  exact kt
                have pg13 : (own_upd (own_upd (own_upd (own_upd (fun _ => (0 : Int32)) ((0 : Int32)).toNatClampNeg aa) (((0 : Int32) + (1 : Int32))).toNatClampNeg bb) ((((0 : Int32) + (1 : Int32)) + (1 : Int32))).toNatClampNeg cc) (((((0 : Int32) + (1 : Int32)) + (1 : Int32)) + (1 : Int32))).toNatClampNeg dd) ((0 : Int32)).toNatClampNeg = aa := ((own_upd_ne (by decide)).trans ((own_upd_ne (by decide)).trans ((own_upd_ne (by decide)).trans (own_upd_hit (by decide)))))
                obtain ⟨cq13, kq13, q13a, q13b, q13c⟩ := isOf hZ e12 M11.1
                obtain ⟨_, _, ⟨T13, L13, k13, n13⟩, -, X13, ⟨Lc13, hQ13, l13, y13, z13⟩, st13⟩ := X12.virtualBack hx (y := (⟨"com/example/faregraph/faregraph/search/Members", "get", "(I)I"⟩ : MethodName)) (z := (⟨"com/example/faregraph/faregraph/search/Members", "get", "(I)I"⟩ : MethodName)) hown (mvT hZ (hw _ (List.mem_of_getElem? (i := 28) rfl))) (mvT hZ (hw _ (List.mem_of_getElem? (i := 29) rfl))) (notFace_of_selects (args := #[]) (mvT hZ (hw _ (List.mem_of_getElem? (i := 31) rfl)))) (mvT hZ (hw _ (List.mem_of_getElem? (i := 31) rfl))) (mvT hZ (hw _ (List.mem_of_getElem? (i := 30) rfl))) (by decide) (backOf (W := 0) (rm5 l Z a0 hw [] b6 mb mc nn (((((0 : Int32) + (1 : Int32)) + (1 : Int32)) + (1 : Int32)) + (1 : Int32)) (own_upd (own_upd (own_upd (own_upd (fun _ => (0 : Int32)) (aa).toNatClampNeg 1) (bb).toNatClampNeg 1) (cc).toNatClampNeg 1) (dd).toNatClampNeg 1) (own_upd (own_upd (own_upd (own_upd (fun _ => (0 : Int32)) ((0 : Int32)).toNatClampNeg aa) (((0 : Int32) + (1 : Int32))).toNatClampNeg bb) ((((0 : Int32) + (1 : Int32)) + (1 : Int32))).toNatClampNeg cc) (((((0 : Int32) + (1 : Int32)) + (1 : Int32)) + (1 : Int32))).toNatClampNeg dd) (0 : Int32) aa T11.heap n0 (Nat.le_trans (Nat.le_trans (Nat.le_trans (Nat.le_trans (Nat.le_trans (Nat.le_trans (Nat.le_trans (Nat.le_trans (Nat.le_trans (Nat.le_trans (Nat.le_trans Z0 E1.1) (Keep.of_wr W2).1) (Keep.of_wr W3).1) (Keep.of_wr W4).1) (Keep.of_wr W5).1) E6.1) KK7.1) KK8.1) KK9.1) KK10.1) KK11.1) M11 (own_rng' (by have e : ((0 : Int32)).toInt = 0 := (by decide); omega)) pg13) hZ (hw _ (List.mem_of_getElem? (i := 32) rfl)) (hw _ (List.mem_of_getElem? (i := 4) rfl)) (by decide) (by decide)) q13a q13c (g := (mkF m 273 #[.val (.int p1), .val (.int p2), .val (.int p3), .val (.int p4), .val (.int p5), .val (.int nn), .val (.int aa), .val (.int bb), .val (.int cc), .val (.int dd), .val (.int (1 : Int32)), .val (.int (1 : Int32)), .val (.int (1 : Int32)), .val (.ref b1), .val (.int (((((0 : Int32) + (1 : Int32)) + (1 : Int32)) + (1 : Int32)) + (1 : Int32))), .val (.ref b6), .val (.int (1 : Int32)), .val (.int (1 : Int32)), .val (.int (1 : Int32)), .val (.int (1 : Int32)), .unset] [(.int (0 : Int32)), (.ref b6)])) rfl (by rw [hml]; rfl) (Steps.refl _) (argsL := [(.int (0 : Int32))]) (rest := []) (lenOf pd_4 rfl) rfl (by show 2 * 0 + _ ≤ _; exact Nat.le_of_eq rfl) (hb hby at_273) (fun _ _ => ⟨rfl, e12, (by decide : 4 + 0 ≤ _), (by decide : 23 + 0 ≤ _)⟩)
                dsimp only [Pt.U, Pt.locs, Pt.cells, Pt.slots] at X13 l13 y13 z13 st13 hQ13
                subst l13 y13 z13
                obtain ⟨rfl, N13q, e13⟩ := hQ13
                have N13 := Fr.app N12 N13q
                refine own_pre (B := (T13.setTop (mkF m 279 #[.val (.int p1), .val (.int p2), .val (.int p3), .val (.int p4), .val (.int p5), .val (.int nn), .val (.int aa), .val (.int bb), .val (.int cc), .val (.int dd), .val (.int (1 : Int32)), .val (.int (1 : Int32)), .val (.int (1 : Int32)), .val (.ref b1), .val (.int (((((0 : Int32) + (1 : Int32)) + (1 : Int32)) + (1 : Int32)) + (1 : Int32))), .val (.ref b6), .val (.int (1 : Int32)), .val (.int (1 : Int32)), .val (.int (1 : Int32)), .val (.int (1 : Int32)), .unset] [(.int (0 : Int32)), (.ref b1), (.int aa)]))) (fun t kt => ?_) ?_
                · refine st13.trans ?_
                  show Steps p.tables e below (T13.setTop (mkF m 276 _ [(.int aa)])) _
                  refine XS.aload X13.here hx rfl (hb hby at_276) rfl rfl ?_
                  show Steps p.tables e below (T13.setTop (mkF m 278 _ [(.ref b1), (.int aa)])) _
                  refine XS.iconst X13.here hx rfl (hb hby at_278) ?_
                  exact kt
                have pe15 : (own_upd (own_upd (own_upd (own_upd (fun _ => (0 : Int32)) ((0 : Int32)).toNatClampNeg aa) (((0 : Int32) + (1 : Int32))).toNatClampNeg bb) ((((0 : Int32) + (1 : Int32)) + (1 : Int32))).toNatClampNeg cc) (((((0 : Int32) + (1 : Int32)) + (1 : Int32)) + (1 : Int32))).toNatClampNeg dd) ((0 : Int32)).toNatClampNeg = aa := ((own_upd_ne (by decide)).trans ((own_upd_ne (by decide)).trans ((own_upd_ne (by decide)).trans (own_upd_hit (by decide)))))
                obtain ⟨cl14, Ar14, S14, P14, H14⟩ := id V_b1_11
                have in14 := inb_of S14 (⟨by decide, by decide⟩ : ¬ (0 : Int32) < 0 ∧ (0 : Int32) < (4 : Int32))
                have at14 : cl14.slots[((0 : Int32)).toNatClampNeg]? = some (.int aa) := (H14 _ (Nat.lt_of_not_le fun y => in14 (Or.inr y))).trans (congrArg (fun z => some (Value.int z)) pe15)
                refine own_pre (B := (T13.setTop (mkF m 304 #[.val (.int p1), .val (.int p2), .val (.int p3), .val (.int p4), .val (.int p5), .val (.int nn), .val (.int aa), .val (.int bb), .val (.int cc), .val (.int dd), .val (.int (1 : Int32)), .val (.int (1 : Int32)), .val (.int (1 : Int32)), .val (.ref b1), .val (.int (((((0 : Int32) + (1 : Int32)) + (1 : Int32)) + (1 : Int32)) + (1 : Int32))), .val (.ref b6), .val (.int (1 : Int32)), .val (.int (1 : Int32)), .val (.int (1 : Int32)), .val (.int (1 : Int32)), .val (.int (1 : Int32))] [(.int (1 : Int32)), (.ref b6)]))) (fun t kt => ?_) ?_
                · show Steps p.tables e below (T13.setTop (mkF m 279 _ [(.int (0 : Int32)), (.ref b1), (.int aa)])) _
                  refine X13.iaload hx (j := (0 : Int32)) (v := (.int aa)) (by rw [e13]; exact Ar14.1) (State.isArrayOf_alike hZ.alike Ar14.2.1) Ar14.2.2 in14 at14 (g := (mkF m 279 #[.val (.int p1), .val (.int p2), .val (.int p3), .val (.int p4), .val (.int p5), .val (.int nn), .val (.int aa), .val (.int bb), .val (.int cc), .val (.int dd), .val (.int (1 : Int32)), .val (.int (1 : Int32)), .val (.int (1 : Int32)), .val (.ref b1), .val (.int (((((0 : Int32) + (1 : Int32)) + (1 : Int32)) + (1 : Int32)) + (1 : Int32))), .val (.ref b6), .val (.int (1 : Int32)), .val (.int (1 : Int32)), .val (.int (1 : Int32)), .val (.int (1 : Int32)), .unset] [(.int (0 : Int32)), (.ref b1), (.int aa)])) rfl rfl (hb hby at_279) _ ?_
                  show Steps p.tables e below (T13.setTop (mkF m 280 _ [(.int aa), (.int aa)])) _
                  refine XS.icmpNo X13.here hx rfl (hb hby at_280) rfl (teq (rfl : aa = aa)).2 ?_
                  show Steps p.tables e below (T13.setTop (mkF m 283 _ [])) _
                  refine XS.iconst X13.here hx rfl (hb hby at_283) ?_
                  show Steps p.tables e below (T13.setTop (mkF m 284 _ [(.int (1 : Int32))])) _
                  refine XS.goto X13.here hx rfl (pc0 := 284) (pc' := 288) rfl (hb hby at_284) (by decide) (by decide) ?_
                  show Steps p.tables e below (T13.setTop (mkF m 288 _ [(.int (1 : Int32))])) _
                  refine XS.istore X13.here hx rfl (hb hby at_288) rfl (l' := #[.val (.int p1), .val (.int p2), .val (.int p3), .val (.int p4), .val (.int p5), .val (.int nn), .val (.int aa), .val (.int bb), .val (.int cc), .val (.int dd), .val (.int (1 : Int32)), .val (.int (1 : Int32)), .val (.int (1 : Int32)), .val (.ref b1), .val (.int (((((0 : Int32) + (1 : Int32)) + (1 : Int32)) + (1 : Int32)) + (1 : Int32))), .val (.ref b6), .val (.int (1 : Int32)), .val (.int (1 : Int32)), .val (.int (1 : Int32)), .val (.int (1 : Int32)), .val (.int (1 : Int32))]) rfl ?_
                  show Steps p.tables e below (T13.setTop (mkF m 290 _ [])) _
                  refine XS.iload X13.here hx rfl (hb hby at_290) rfl ?_
                  show Steps p.tables e below (T13.setTop (mkF m 292 _ [(.int (((((0 : Int32) + (1 : Int32)) + (1 : Int32)) + (1 : Int32)) + (1 : Int32)))])) _
                  refine XS.iconst X13.here hx rfl (hb hby at_292) ?_
                  show Steps p.tables e below (T13.setTop (mkF m 293 _ [(.int (1 : Int32)), (.int (((((0 : Int32) + (1 : Int32)) + (1 : Int32)) + (1 : Int32)) + (1 : Int32)))])) _
                  refine XS.icmpNo X13.here hx rfl (hb hby at_293) rfl (tlt ((by decide) : (1 : Int32) < (((((0 : Int32) + (1 : Int32)) + (1 : Int32)) + (1 : Int32)) + (1 : Int32)))).2.2.2 ?_
                  show Steps p.tables e below (T13.setTop (mkF m 296 _ [])) _
                  refine XS.iload X13.here hx rfl (hb hby at_296) rfl ?_
                  show Steps p.tables e below (T13.setTop (mkF m 298 _ [(.int (1 : Int32))])) _
                  refine XS.ifNo X13.here hx rfl (hb hby at_298) rfl ((if0 _ _).trans (feq ((by decide) : ¬ ((1 : Int32) = (0 : Int32)))).1) ?_
                  show Steps p.tables e below (T13.setTop (mkF m 301 _ [])) _
                  refine XS.aload X13.here hx rfl (hb hby at_301) rfl rfl ?_
                  show Steps p.tables e below (T13.setTop (mkF m 303 _ [(.ref b6)])) _
                  refine XS.iconst X13.here hx rfl (hb hby at_303) ?_
                  exact kt
                have pg16 : (own_upd (own_upd (own_upd (own_upd (fun _ => (0 : Int32)) ((0 : Int32)).toNatClampNeg aa) (((0 : Int32) + (1 : Int32))).toNatClampNeg bb) ((((0 : Int32) + (1 : Int32)) + (1 : Int32))).toNatClampNeg cc) (((((0 : Int32) + (1 : Int32)) + (1 : Int32)) + (1 : Int32))).toNatClampNeg dd) ((1 : Int32)).toNatClampNeg = bb := ((own_upd_ne (by decide)).trans ((own_upd_ne (by decide)).trans (own_upd_hit (by decide))))
                obtain ⟨cq16, kq16, q16a, q16b, q16c⟩ := isOf hZ e13 M11.1
                obtain ⟨_, _, ⟨T16, L16, k16, n16⟩, -, X16, ⟨Lc16, hQ16, l16, y16, z16⟩, st16⟩ := X13.virtualBack hx (y := (⟨"com/example/faregraph/faregraph/search/Members", "get", "(I)I"⟩ : MethodName)) (z := (⟨"com/example/faregraph/faregraph/search/Members", "get", "(I)I"⟩ : MethodName)) hown (mvT hZ (hw _ (List.mem_of_getElem? (i := 28) rfl))) (mvT hZ (hw _ (List.mem_of_getElem? (i := 29) rfl))) (notFace_of_selects (args := #[]) (mvT hZ (hw _ (List.mem_of_getElem? (i := 31) rfl)))) (mvT hZ (hw _ (List.mem_of_getElem? (i := 31) rfl))) (mvT hZ (hw _ (List.mem_of_getElem? (i := 30) rfl))) (by decide) (backOf (W := 0) (rm5 l Z a0 hw [] b6 mb mc nn (((((0 : Int32) + (1 : Int32)) + (1 : Int32)) + (1 : Int32)) + (1 : Int32)) (own_upd (own_upd (own_upd (own_upd (fun _ => (0 : Int32)) (aa).toNatClampNeg 1) (bb).toNatClampNeg 1) (cc).toNatClampNeg 1) (dd).toNatClampNeg 1) (own_upd (own_upd (own_upd (own_upd (fun _ => (0 : Int32)) ((0 : Int32)).toNatClampNeg aa) (((0 : Int32) + (1 : Int32))).toNatClampNeg bb) ((((0 : Int32) + (1 : Int32)) + (1 : Int32))).toNatClampNeg cc) (((((0 : Int32) + (1 : Int32)) + (1 : Int32)) + (1 : Int32))).toNatClampNeg dd) (1 : Int32) bb T11.heap n0 (Nat.le_trans (Nat.le_trans (Nat.le_trans (Nat.le_trans (Nat.le_trans (Nat.le_trans (Nat.le_trans (Nat.le_trans (Nat.le_trans (Nat.le_trans (Nat.le_trans Z0 E1.1) (Keep.of_wr W2).1) (Keep.of_wr W3).1) (Keep.of_wr W4).1) (Keep.of_wr W5).1) E6.1) KK7.1) KK8.1) KK9.1) KK10.1) KK11.1) M11 (own_rng' (by have e : ((1 : Int32)).toInt = 1 := (by decide); omega)) pg16) hZ (hw _ (List.mem_of_getElem? (i := 32) rfl)) (hw _ (List.mem_of_getElem? (i := 4) rfl)) (by decide) (by decide)) q16a q16c (g := (mkF m 304 #[.val (.int p1), .val (.int p2), .val (.int p3), .val (.int p4), .val (.int p5), .val (.int nn), .val (.int aa), .val (.int bb), .val (.int cc), .val (.int dd), .val (.int (1 : Int32)), .val (.int (1 : Int32)), .val (.int (1 : Int32)), .val (.ref b1), .val (.int (((((0 : Int32) + (1 : Int32)) + (1 : Int32)) + (1 : Int32)) + (1 : Int32))), .val (.ref b6), .val (.int (1 : Int32)), .val (.int (1 : Int32)), .val (.int (1 : Int32)), .val (.int (1 : Int32)), .val (.int (1 : Int32))] [(.int (1 : Int32)), (.ref b6)])) rfl (by rw [hml]; rfl) (Steps.refl _) (argsL := [(.int (1 : Int32))]) (rest := []) (lenOf pd_4 rfl) rfl (by show 2 * 0 + _ ≤ _; exact Nat.le_of_eq rfl) (hb hby at_304) (fun _ _ => ⟨rfl, e13, (by decide : 4 + 0 ≤ _), (by decide : 23 + 0 ≤ _)⟩)
                dsimp only [Pt.U, Pt.locs, Pt.cells, Pt.slots] at X16 l16 y16 z16 st16 hQ16
                subst l16 y16 z16
                obtain ⟨rfl, N16q, e16⟩ := hQ16
                have N16 := Fr.app N13 N16q
                refine own_pre (B := (T16.setTop (mkF m 310 #[.val (.int p1), .val (.int p2), .val (.int p3), .val (.int p4), .val (.int p5), .val (.int nn), .val (.int aa), .val (.int bb), .val (.int cc), .val (.int dd), .val (.int (1 : Int32)), .val (.int (1 : Int32)), .val (.int (1 : Int32)), .val (.ref b1), .val (.int (((((0 : Int32) + (1 : Int32)) + (1 : Int32)) + (1 : Int32)) + (1 : Int32))), .val (.ref b6), .val (.int (1 : Int32)), .val (.int (1 : Int32)), .val (.int (1 : Int32)), .val (.int (1 : Int32)), .val (.int (1 : Int32))] [(.int (1 : Int32)), (.ref b1), (.int bb)]))) (fun t kt => ?_) ?_
                · refine st16.trans ?_
                  show Steps p.tables e below (T16.setTop (mkF m 307 _ [(.int bb)])) _
                  refine XS.aload X16.here hx rfl (hb hby at_307) rfl rfl ?_
                  show Steps p.tables e below (T16.setTop (mkF m 309 _ [(.ref b1), (.int bb)])) _
                  refine XS.iconst X16.here hx rfl (hb hby at_309) ?_
                  exact kt
                have pe18 : (own_upd (own_upd (own_upd (own_upd (fun _ => (0 : Int32)) ((0 : Int32)).toNatClampNeg aa) (((0 : Int32) + (1 : Int32))).toNatClampNeg bb) ((((0 : Int32) + (1 : Int32)) + (1 : Int32))).toNatClampNeg cc) (((((0 : Int32) + (1 : Int32)) + (1 : Int32)) + (1 : Int32))).toNatClampNeg dd) ((1 : Int32)).toNatClampNeg = bb := ((own_upd_ne (by decide)).trans ((own_upd_ne (by decide)).trans (own_upd_hit (by decide))))
                obtain ⟨cl17, Ar17, S17, P17, H17⟩ := id V_b1_11
                have in17 := inb_of S17 (⟨by decide, by decide⟩ : ¬ (1 : Int32) < 0 ∧ (1 : Int32) < (4 : Int32))
                have at17 : cl17.slots[((1 : Int32)).toNatClampNeg]? = some (.int bb) := (H17 _ (Nat.lt_of_not_le fun y => in17 (Or.inr y))).trans (congrArg (fun z => some (Value.int z)) pe18)
                refine own_pre (B := (T16.setTop (mkF m 335 #[.val (.int p1), .val (.int p2), .val (.int p3), .val (.int p4), .val (.int p5), .val (.int nn), .val (.int aa), .val (.int bb), .val (.int cc), .val (.int dd), .val (.int (1 : Int32)), .val (.int (1 : Int32)), .val (.int (1 : Int32)), .val (.ref b1), .val (.int (((((0 : Int32) + (1 : Int32)) + (1 : Int32)) + (1 : Int32)) + (1 : Int32))), .val (.ref b6), .val (.int (1 : Int32)), .val (.int (1 : Int32)), .val (.int (1 : Int32)), .val (.int (1 : Int32)), .val (.int (1 : Int32))] [(.int (2 : Int32)), (.ref b6)]))) (fun t kt => ?_) ?_
                · show Steps p.tables e below (T16.setTop (mkF m 310 _ [(.int (1 : Int32)), (.ref b1), (.int bb)])) _
                  refine X16.iaload hx (j := (1 : Int32)) (v := (.int bb)) (by rw [e16]; exact Ar17.1) (State.isArrayOf_alike hZ.alike Ar17.2.1) Ar17.2.2 in17 at17 (g := (mkF m 310 #[.val (.int p1), .val (.int p2), .val (.int p3), .val (.int p4), .val (.int p5), .val (.int nn), .val (.int aa), .val (.int bb), .val (.int cc), .val (.int dd), .val (.int (1 : Int32)), .val (.int (1 : Int32)), .val (.int (1 : Int32)), .val (.ref b1), .val (.int (((((0 : Int32) + (1 : Int32)) + (1 : Int32)) + (1 : Int32)) + (1 : Int32))), .val (.ref b6), .val (.int (1 : Int32)), .val (.int (1 : Int32)), .val (.int (1 : Int32)), .val (.int (1 : Int32)), .val (.int (1 : Int32))] [(.int (1 : Int32)), (.ref b1), (.int bb)])) rfl rfl (hb hby at_310) _ ?_
                  show Steps p.tables e below (T16.setTop (mkF m 311 _ [(.int bb), (.int bb)])) _
                  refine XS.icmpNo X16.here hx rfl (hb hby at_311) rfl (teq (rfl : bb = bb)).2 ?_
                  show Steps p.tables e below (T16.setTop (mkF m 314 _ [])) _
                  refine XS.iconst X16.here hx rfl (hb hby at_314) ?_
                  show Steps p.tables e below (T16.setTop (mkF m 315 _ [(.int (1 : Int32))])) _
                  refine XS.goto X16.here hx rfl (pc0 := 315) (pc' := 319) rfl (hb hby at_315) (by decide) (by decide) ?_
                  show Steps p.tables e below (T16.setTop (mkF m 319 _ [(.int (1 : Int32))])) _
                  refine XS.istore X16.here hx rfl (hb hby at_319) rfl (l' := #[.val (.int p1), .val (.int p2), .val (.int p3), .val (.int p4), .val (.int p5), .val (.int nn), .val (.int aa), .val (.int bb), .val (.int cc), .val (.int dd), .val (.int (1 : Int32)), .val (.int (1 : Int32)), .val (.int (1 : Int32)), .val (.ref b1), .val (.int (((((0 : Int32) + (1 : Int32)) + (1 : Int32)) + (1 : Int32)) + (1 : Int32))), .val (.ref b6), .val (.int (1 : Int32)), .val (.int (1 : Int32)), .val (.int (1 : Int32)), .val (.int (1 : Int32)), .val (.int (1 : Int32))]) rfl ?_
                  show Steps p.tables e below (T16.setTop (mkF m 321 _ [])) _
                  refine XS.iload X16.here hx rfl (hb hby at_321) rfl ?_
                  show Steps p.tables e below (T16.setTop (mkF m 323 _ [(.int (((((0 : Int32) + (1 : Int32)) + (1 : Int32)) + (1 : Int32)) + (1 : Int32)))])) _
                  refine XS.iconst X16.here hx rfl (hb hby at_323) ?_
                  show Steps p.tables e below (T16.setTop (mkF m 324 _ [(.int (2 : Int32)), (.int (((((0 : Int32) + (1 : Int32)) + (1 : Int32)) + (1 : Int32)) + (1 : Int32)))])) _
                  refine XS.icmpNo X16.here hx rfl (hb hby at_324) rfl (tlt ((by decide) : (2 : Int32) < (((((0 : Int32) + (1 : Int32)) + (1 : Int32)) + (1 : Int32)) + (1 : Int32)))).2.2.2 ?_
                  show Steps p.tables e below (T16.setTop (mkF m 327 _ [])) _
                  refine XS.iload X16.here hx rfl (hb hby at_327) rfl ?_
                  show Steps p.tables e below (T16.setTop (mkF m 329 _ [(.int (1 : Int32))])) _
                  refine XS.ifNo X16.here hx rfl (hb hby at_329) rfl ((if0 _ _).trans (feq ((by decide) : ¬ ((1 : Int32) = (0 : Int32)))).1) ?_
                  show Steps p.tables e below (T16.setTop (mkF m 332 _ [])) _
                  refine XS.aload X16.here hx rfl (hb hby at_332) rfl rfl ?_
                  show Steps p.tables e below (T16.setTop (mkF m 334 _ [(.ref b6)])) _
                  refine XS.iconst X16.here hx rfl (hb hby at_334) ?_
                  exact kt
                have pg19 : (own_upd (own_upd (own_upd (own_upd (fun _ => (0 : Int32)) ((0 : Int32)).toNatClampNeg aa) (((0 : Int32) + (1 : Int32))).toNatClampNeg bb) ((((0 : Int32) + (1 : Int32)) + (1 : Int32))).toNatClampNeg cc) (((((0 : Int32) + (1 : Int32)) + (1 : Int32)) + (1 : Int32))).toNatClampNeg dd) ((2 : Int32)).toNatClampNeg = cc := ((own_upd_ne (by decide)).trans (own_upd_hit (by decide)))
                obtain ⟨cq19, kq19, q19a, q19b, q19c⟩ := isOf hZ e16 M11.1
                obtain ⟨_, _, ⟨T19, L19, k19, n19⟩, -, X19, ⟨Lc19, hQ19, l19, y19, z19⟩, st19⟩ := X16.virtualBack hx (y := (⟨"com/example/faregraph/faregraph/search/Members", "get", "(I)I"⟩ : MethodName)) (z := (⟨"com/example/faregraph/faregraph/search/Members", "get", "(I)I"⟩ : MethodName)) hown (mvT hZ (hw _ (List.mem_of_getElem? (i := 28) rfl))) (mvT hZ (hw _ (List.mem_of_getElem? (i := 29) rfl))) (notFace_of_selects (args := #[]) (mvT hZ (hw _ (List.mem_of_getElem? (i := 31) rfl)))) (mvT hZ (hw _ (List.mem_of_getElem? (i := 31) rfl))) (mvT hZ (hw _ (List.mem_of_getElem? (i := 30) rfl))) (by decide) (backOf (W := 0) (rm5 l Z a0 hw [] b6 mb mc nn (((((0 : Int32) + (1 : Int32)) + (1 : Int32)) + (1 : Int32)) + (1 : Int32)) (own_upd (own_upd (own_upd (own_upd (fun _ => (0 : Int32)) (aa).toNatClampNeg 1) (bb).toNatClampNeg 1) (cc).toNatClampNeg 1) (dd).toNatClampNeg 1) (own_upd (own_upd (own_upd (own_upd (fun _ => (0 : Int32)) ((0 : Int32)).toNatClampNeg aa) (((0 : Int32) + (1 : Int32))).toNatClampNeg bb) ((((0 : Int32) + (1 : Int32)) + (1 : Int32))).toNatClampNeg cc) (((((0 : Int32) + (1 : Int32)) + (1 : Int32)) + (1 : Int32))).toNatClampNeg dd) (2 : Int32) cc T11.heap n0 (Nat.le_trans (Nat.le_trans (Nat.le_trans (Nat.le_trans (Nat.le_trans (Nat.le_trans (Nat.le_trans (Nat.le_trans (Nat.le_trans (Nat.le_trans (Nat.le_trans Z0 E1.1) (Keep.of_wr W2).1) (Keep.of_wr W3).1) (Keep.of_wr W4).1) (Keep.of_wr W5).1) E6.1) KK7.1) KK8.1) KK9.1) KK10.1) KK11.1) M11 (own_rng' (by have e : ((2 : Int32)).toInt = 2 := (by decide); omega)) pg19) hZ (hw _ (List.mem_of_getElem? (i := 32) rfl)) (hw _ (List.mem_of_getElem? (i := 4) rfl)) (by decide) (by decide)) q19a q19c (g := (mkF m 335 #[.val (.int p1), .val (.int p2), .val (.int p3), .val (.int p4), .val (.int p5), .val (.int nn), .val (.int aa), .val (.int bb), .val (.int cc), .val (.int dd), .val (.int (1 : Int32)), .val (.int (1 : Int32)), .val (.int (1 : Int32)), .val (.ref b1), .val (.int (((((0 : Int32) + (1 : Int32)) + (1 : Int32)) + (1 : Int32)) + (1 : Int32))), .val (.ref b6), .val (.int (1 : Int32)), .val (.int (1 : Int32)), .val (.int (1 : Int32)), .val (.int (1 : Int32)), .val (.int (1 : Int32))] [(.int (2 : Int32)), (.ref b6)])) rfl (by rw [hml]; rfl) (Steps.refl _) (argsL := [(.int (2 : Int32))]) (rest := []) (lenOf pd_4 rfl) rfl (by show 2 * 0 + _ ≤ _; exact Nat.le_of_eq rfl) (hb hby at_335) (fun _ _ => ⟨rfl, e16, (by decide : 4 + 0 ≤ _), (by decide : 23 + 0 ≤ _)⟩)
                dsimp only [Pt.U, Pt.locs, Pt.cells, Pt.slots] at X19 l19 y19 z19 st19 hQ19
                subst l19 y19 z19
                obtain ⟨rfl, N19q, e19⟩ := hQ19
                have N19 := Fr.app N16 N19q
                refine own_pre (B := (T19.setTop (mkF m 341 #[.val (.int p1), .val (.int p2), .val (.int p3), .val (.int p4), .val (.int p5), .val (.int nn), .val (.int aa), .val (.int bb), .val (.int cc), .val (.int dd), .val (.int (1 : Int32)), .val (.int (1 : Int32)), .val (.int (1 : Int32)), .val (.ref b1), .val (.int (((((0 : Int32) + (1 : Int32)) + (1 : Int32)) + (1 : Int32)) + (1 : Int32))), .val (.ref b6), .val (.int (1 : Int32)), .val (.int (1 : Int32)), .val (.int (1 : Int32)), .val (.int (1 : Int32)), .val (.int (1 : Int32))] [(.int (2 : Int32)), (.ref b1), (.int cc)]))) (fun t kt => ?_) ?_
                · refine st19.trans ?_
                  show Steps p.tables e below (T19.setTop (mkF m 338 _ [(.int cc)])) _
                  refine XS.aload X19.here hx rfl (hb hby at_338) rfl rfl ?_
                  show Steps p.tables e below (T19.setTop (mkF m 340 _ [(.ref b1), (.int cc)])) _
                  refine XS.iconst X19.here hx rfl (hb hby at_340) ?_
                  exact kt
                have pe21 : (own_upd (own_upd (own_upd (own_upd (fun _ => (0 : Int32)) ((0 : Int32)).toNatClampNeg aa) (((0 : Int32) + (1 : Int32))).toNatClampNeg bb) ((((0 : Int32) + (1 : Int32)) + (1 : Int32))).toNatClampNeg cc) (((((0 : Int32) + (1 : Int32)) + (1 : Int32)) + (1 : Int32))).toNatClampNeg dd) ((2 : Int32)).toNatClampNeg = cc := ((own_upd_ne (by decide)).trans (own_upd_hit (by decide)))
                obtain ⟨cl20, Ar20, S20, P20, H20⟩ := id V_b1_11
                have in20 := inb_of S20 (⟨by decide, by decide⟩ : ¬ (2 : Int32) < 0 ∧ (2 : Int32) < (4 : Int32))
                have at20 : cl20.slots[((2 : Int32)).toNatClampNeg]? = some (.int cc) := (H20 _ (Nat.lt_of_not_le fun y => in20 (Or.inr y))).trans (congrArg (fun z => some (Value.int z)) pe21)
                refine own_pre (B := (T19.setTop (mkF m 366 #[.val (.int p1), .val (.int p2), .val (.int p3), .val (.int p4), .val (.int p5), .val (.int nn), .val (.int aa), .val (.int bb), .val (.int cc), .val (.int dd), .val (.int (1 : Int32)), .val (.int (1 : Int32)), .val (.int (1 : Int32)), .val (.ref b1), .val (.int (((((0 : Int32) + (1 : Int32)) + (1 : Int32)) + (1 : Int32)) + (1 : Int32))), .val (.ref b6), .val (.int (1 : Int32)), .val (.int (1 : Int32)), .val (.int (1 : Int32)), .val (.int (1 : Int32)), .val (.int (1 : Int32))] [(.int (3 : Int32)), (.ref b6)]))) (fun t kt => ?_) ?_
                · show Steps p.tables e below (T19.setTop (mkF m 341 _ [(.int (2 : Int32)), (.ref b1), (.int cc)])) _
                  refine X19.iaload hx (j := (2 : Int32)) (v := (.int cc)) (by rw [e19]; exact Ar20.1) (State.isArrayOf_alike hZ.alike Ar20.2.1) Ar20.2.2 in20 at20 (g := (mkF m 341 #[.val (.int p1), .val (.int p2), .val (.int p3), .val (.int p4), .val (.int p5), .val (.int nn), .val (.int aa), .val (.int bb), .val (.int cc), .val (.int dd), .val (.int (1 : Int32)), .val (.int (1 : Int32)), .val (.int (1 : Int32)), .val (.ref b1), .val (.int (((((0 : Int32) + (1 : Int32)) + (1 : Int32)) + (1 : Int32)) + (1 : Int32))), .val (.ref b6), .val (.int (1 : Int32)), .val (.int (1 : Int32)), .val (.int (1 : Int32)), .val (.int (1 : Int32)), .val (.int (1 : Int32))] [(.int (2 : Int32)), (.ref b1), (.int cc)])) rfl rfl (hb hby at_341) _ ?_
                  show Steps p.tables e below (T19.setTop (mkF m 342 _ [(.int cc), (.int cc)])) _
                  refine XS.icmpNo X19.here hx rfl (hb hby at_342) rfl (teq (rfl : cc = cc)).2 ?_
                  show Steps p.tables e below (T19.setTop (mkF m 345 _ [])) _
                  refine XS.iconst X19.here hx rfl (hb hby at_345) ?_
                  show Steps p.tables e below (T19.setTop (mkF m 346 _ [(.int (1 : Int32))])) _
                  refine XS.goto X19.here hx rfl (pc0 := 346) (pc' := 350) rfl (hb hby at_346) (by decide) (by decide) ?_
                  show Steps p.tables e below (T19.setTop (mkF m 350 _ [(.int (1 : Int32))])) _
                  refine XS.istore X19.here hx rfl (hb hby at_350) rfl (l' := #[.val (.int p1), .val (.int p2), .val (.int p3), .val (.int p4), .val (.int p5), .val (.int nn), .val (.int aa), .val (.int bb), .val (.int cc), .val (.int dd), .val (.int (1 : Int32)), .val (.int (1 : Int32)), .val (.int (1 : Int32)), .val (.ref b1), .val (.int (((((0 : Int32) + (1 : Int32)) + (1 : Int32)) + (1 : Int32)) + (1 : Int32))), .val (.ref b6), .val (.int (1 : Int32)), .val (.int (1 : Int32)), .val (.int (1 : Int32)), .val (.int (1 : Int32)), .val (.int (1 : Int32))]) rfl ?_
                  show Steps p.tables e below (T19.setTop (mkF m 352 _ [])) _
                  refine XS.iload X19.here hx rfl (hb hby at_352) rfl ?_
                  show Steps p.tables e below (T19.setTop (mkF m 354 _ [(.int (((((0 : Int32) + (1 : Int32)) + (1 : Int32)) + (1 : Int32)) + (1 : Int32)))])) _
                  refine XS.iconst X19.here hx rfl (hb hby at_354) ?_
                  show Steps p.tables e below (T19.setTop (mkF m 355 _ [(.int (3 : Int32)), (.int (((((0 : Int32) + (1 : Int32)) + (1 : Int32)) + (1 : Int32)) + (1 : Int32)))])) _
                  refine XS.icmpNo X19.here hx rfl (hb hby at_355) rfl (tlt ((by decide) : (3 : Int32) < (((((0 : Int32) + (1 : Int32)) + (1 : Int32)) + (1 : Int32)) + (1 : Int32)))).2.2.2 ?_
                  show Steps p.tables e below (T19.setTop (mkF m 358 _ [])) _
                  refine XS.iload X19.here hx rfl (hb hby at_358) rfl ?_
                  show Steps p.tables e below (T19.setTop (mkF m 360 _ [(.int (1 : Int32))])) _
                  refine XS.ifNo X19.here hx rfl (hb hby at_360) rfl ((if0 _ _).trans (feq ((by decide) : ¬ ((1 : Int32) = (0 : Int32)))).1) ?_
                  show Steps p.tables e below (T19.setTop (mkF m 363 _ [])) _
                  refine XS.aload X19.here hx rfl (hb hby at_363) rfl rfl ?_
                  show Steps p.tables e below (T19.setTop (mkF m 365 _ [(.ref b6)])) _
                  refine XS.iconst X19.here hx rfl (hb hby at_365) ?_
                  exact kt
                have pg22 : (own_upd (own_upd (own_upd (own_upd (fun _ => (0 : Int32)) ((0 : Int32)).toNatClampNeg aa) (((0 : Int32) + (1 : Int32))).toNatClampNeg bb) ((((0 : Int32) + (1 : Int32)) + (1 : Int32))).toNatClampNeg cc) (((((0 : Int32) + (1 : Int32)) + (1 : Int32)) + (1 : Int32))).toNatClampNeg dd) ((3 : Int32)).toNatClampNeg = dd := (own_upd_hit (by decide))
                obtain ⟨cq22, kq22, q22a, q22b, q22c⟩ := isOf hZ e19 M11.1
                obtain ⟨_, _, ⟨T22, L22, k22, n22⟩, -, X22, ⟨Lc22, hQ22, l22, y22, z22⟩, st22⟩ := X19.virtualBack hx (y := (⟨"com/example/faregraph/faregraph/search/Members", "get", "(I)I"⟩ : MethodName)) (z := (⟨"com/example/faregraph/faregraph/search/Members", "get", "(I)I"⟩ : MethodName)) hown (mvT hZ (hw _ (List.mem_of_getElem? (i := 28) rfl))) (mvT hZ (hw _ (List.mem_of_getElem? (i := 29) rfl))) (notFace_of_selects (args := #[]) (mvT hZ (hw _ (List.mem_of_getElem? (i := 31) rfl)))) (mvT hZ (hw _ (List.mem_of_getElem? (i := 31) rfl))) (mvT hZ (hw _ (List.mem_of_getElem? (i := 30) rfl))) (by decide) (backOf (W := 0) (rm5 l Z a0 hw [] b6 mb mc nn (((((0 : Int32) + (1 : Int32)) + (1 : Int32)) + (1 : Int32)) + (1 : Int32)) (own_upd (own_upd (own_upd (own_upd (fun _ => (0 : Int32)) (aa).toNatClampNeg 1) (bb).toNatClampNeg 1) (cc).toNatClampNeg 1) (dd).toNatClampNeg 1) (own_upd (own_upd (own_upd (own_upd (fun _ => (0 : Int32)) ((0 : Int32)).toNatClampNeg aa) (((0 : Int32) + (1 : Int32))).toNatClampNeg bb) ((((0 : Int32) + (1 : Int32)) + (1 : Int32))).toNatClampNeg cc) (((((0 : Int32) + (1 : Int32)) + (1 : Int32)) + (1 : Int32))).toNatClampNeg dd) (3 : Int32) dd T11.heap n0 (Nat.le_trans (Nat.le_trans (Nat.le_trans (Nat.le_trans (Nat.le_trans (Nat.le_trans (Nat.le_trans (Nat.le_trans (Nat.le_trans (Nat.le_trans (Nat.le_trans Z0 E1.1) (Keep.of_wr W2).1) (Keep.of_wr W3).1) (Keep.of_wr W4).1) (Keep.of_wr W5).1) E6.1) KK7.1) KK8.1) KK9.1) KK10.1) KK11.1) M11 (own_rng' (by have e : ((3 : Int32)).toInt = 3 := (by decide); omega)) pg22) hZ (hw _ (List.mem_of_getElem? (i := 32) rfl)) (hw _ (List.mem_of_getElem? (i := 4) rfl)) (by decide) (by decide)) q22a q22c (g := (mkF m 366 #[.val (.int p1), .val (.int p2), .val (.int p3), .val (.int p4), .val (.int p5), .val (.int nn), .val (.int aa), .val (.int bb), .val (.int cc), .val (.int dd), .val (.int (1 : Int32)), .val (.int (1 : Int32)), .val (.int (1 : Int32)), .val (.ref b1), .val (.int (((((0 : Int32) + (1 : Int32)) + (1 : Int32)) + (1 : Int32)) + (1 : Int32))), .val (.ref b6), .val (.int (1 : Int32)), .val (.int (1 : Int32)), .val (.int (1 : Int32)), .val (.int (1 : Int32)), .val (.int (1 : Int32))] [(.int (3 : Int32)), (.ref b6)])) rfl (by rw [hml]; rfl) (Steps.refl _) (argsL := [(.int (3 : Int32))]) (rest := []) (lenOf pd_4 rfl) rfl (by show 2 * 0 + _ ≤ _; exact Nat.le_of_eq rfl) (hb hby at_366) (fun _ _ => ⟨rfl, e19, (by decide : 4 + 0 ≤ _), (by decide : 23 + 0 ≤ _)⟩)
                dsimp only [Pt.U, Pt.locs, Pt.cells, Pt.slots] at X22 l22 y22 z22 st22 hQ22
                subst l22 y22 z22
                obtain ⟨rfl, N22q, e22⟩ := hQ22
                have N22 := Fr.app N19 N22q
                refine own_pre (B := (T22.setTop (mkF m 372 #[.val (.int p1), .val (.int p2), .val (.int p3), .val (.int p4), .val (.int p5), .val (.int nn), .val (.int aa), .val (.int bb), .val (.int cc), .val (.int dd), .val (.int (1 : Int32)), .val (.int (1 : Int32)), .val (.int (1 : Int32)), .val (.ref b1), .val (.int (((((0 : Int32) + (1 : Int32)) + (1 : Int32)) + (1 : Int32)) + (1 : Int32))), .val (.ref b6), .val (.int (1 : Int32)), .val (.int (1 : Int32)), .val (.int (1 : Int32)), .val (.int (1 : Int32)), .val (.int (1 : Int32))] [(.int (3 : Int32)), (.ref b1), (.int dd)]))) (fun t kt => ?_) ?_
                · refine st22.trans ?_
                  show Steps p.tables e below (T22.setTop (mkF m 369 _ [(.int dd)])) _
                  refine XS.aload X22.here hx rfl (hb hby at_369) rfl rfl ?_
                  show Steps p.tables e below (T22.setTop (mkF m 371 _ [(.ref b1), (.int dd)])) _
                  refine XS.iconst X22.here hx rfl (hb hby at_371) ?_
                  exact kt
                have pe24 : (own_upd (own_upd (own_upd (own_upd (fun _ => (0 : Int32)) ((0 : Int32)).toNatClampNeg aa) (((0 : Int32) + (1 : Int32))).toNatClampNeg bb) ((((0 : Int32) + (1 : Int32)) + (1 : Int32))).toNatClampNeg cc) (((((0 : Int32) + (1 : Int32)) + (1 : Int32)) + (1 : Int32))).toNatClampNeg dd) ((3 : Int32)).toNatClampNeg = dd := (own_upd_hit (by decide))
                obtain ⟨cl23, Ar23, S23, P23, H23⟩ := id V_b1_11
                have in23 := inb_of S23 (⟨by decide, by decide⟩ : ¬ (3 : Int32) < 0 ∧ (3 : Int32) < (4 : Int32))
                have at23 : cl23.slots[((3 : Int32)).toNatClampNeg]? = some (.int dd) := (H23 _ (Nat.lt_of_not_le fun y => in23 (Or.inr y))).trans (congrArg (fun z => some (Value.int z)) pe24)
                refine own_pre (B := (T22.setTop (mkF m 385 #[.val (.int p1), .val (.int p2), .val (.int p3), .val (.int p4), .val (.int p5), .val (.int nn), .val (.int aa), .val (.int bb), .val (.int cc), .val (.int dd), .val (.int (1 : Int32)), .val (.int (1 : Int32)), .val (.int (1 : Int32)), .val (.ref b1), .val (.int (((((0 : Int32) + (1 : Int32)) + (1 : Int32)) + (1 : Int32)) + (1 : Int32))), .val (.ref b6), .val (.int (1 : Int32)), .val (.int (1 : Int32)), .val (.int (1 : Int32)), .val (.int (1 : Int32)), .val (.int (1 : Int32))] [(.int (1 : Int32))]))) (fun t kt => ?_) ?_
                · show Steps p.tables e below (T22.setTop (mkF m 372 _ [(.int (3 : Int32)), (.ref b1), (.int dd)])) _
                  refine X22.iaload hx (j := (3 : Int32)) (v := (.int dd)) (by rw [e22]; exact Ar23.1) (State.isArrayOf_alike hZ.alike Ar23.2.1) Ar23.2.2 in23 at23 (g := (mkF m 372 #[.val (.int p1), .val (.int p2), .val (.int p3), .val (.int p4), .val (.int p5), .val (.int nn), .val (.int aa), .val (.int bb), .val (.int cc), .val (.int dd), .val (.int (1 : Int32)), .val (.int (1 : Int32)), .val (.int (1 : Int32)), .val (.ref b1), .val (.int (((((0 : Int32) + (1 : Int32)) + (1 : Int32)) + (1 : Int32)) + (1 : Int32))), .val (.ref b6), .val (.int (1 : Int32)), .val (.int (1 : Int32)), .val (.int (1 : Int32)), .val (.int (1 : Int32)), .val (.int (1 : Int32))] [(.int (3 : Int32)), (.ref b1), (.int dd)])) rfl rfl (hb hby at_372) _ ?_
                  show Steps p.tables e below (T22.setTop (mkF m 373 _ [(.int dd), (.int dd)])) _
                  refine XS.icmpNo X22.here hx rfl (hb hby at_373) rfl (teq (rfl : dd = dd)).2 ?_
                  show Steps p.tables e below (T22.setTop (mkF m 376 _ [])) _
                  refine XS.iconst X22.here hx rfl (hb hby at_376) ?_
                  show Steps p.tables e below (T22.setTop (mkF m 377 _ [(.int (1 : Int32))])) _
                  refine XS.goto X22.here hx rfl (pc0 := 377) (pc' := 381) rfl (hb hby at_377) (by decide) (by decide) ?_
                  show Steps p.tables e below (T22.setTop (mkF m 381 _ [(.int (1 : Int32))])) _
                  refine XS.istore X22.here hx rfl (hb hby at_381) rfl (l' := #[.val (.int p1), .val (.int p2), .val (.int p3), .val (.int p4), .val (.int p5), .val (.int nn), .val (.int aa), .val (.int bb), .val (.int cc), .val (.int dd), .val (.int (1 : Int32)), .val (.int (1 : Int32)), .val (.int (1 : Int32)), .val (.ref b1), .val (.int (((((0 : Int32) + (1 : Int32)) + (1 : Int32)) + (1 : Int32)) + (1 : Int32))), .val (.ref b6), .val (.int (1 : Int32)), .val (.int (1 : Int32)), .val (.int (1 : Int32)), .val (.int (1 : Int32)), .val (.int (1 : Int32))]) rfl ?_
                  show Steps p.tables e below (T22.setTop (mkF m 383 _ [])) _
                  refine XS.iload X22.here hx rfl (hb hby at_383) rfl ?_
                  exact kt
                exact own_fin X22 (some (.int (1 : Int32))) (fun h => by rw [Bd.returns] at h; cases h) (BodyLoose.notSynchronized Bd) e22 (fun fs hr => retN X22 hx (t := .boolean) Bd.returns (by simp) (hb hby at_385) hr) ⟨rfl, N22⟩ (by decide) (by decide)
              · refine own_pre (B := (s₁.setTop (mkF m 109 #[.val (.int p1), .val (.int p2), .val (.int p3), .val (.int p4), .val (.int p5), .val (.int nn), .val (.int aa), .val (.int bb), .val (.int cc), .val (.int dd), .val (.int (1 : Int32)), .val (.int (1 : Int32)), .val (.int (0 : Int32)), .unset, .unset, .unset, .unset, .unset, .unset, .unset, .unset] [(.int (4 : Int32))]))) (fun t kt => ?_) ?_
                · show Steps p.tables e below (s₁.setTop (mkF m 108 _ [])) _
                  refine XS.iconst X0.here hx rfl (hb hby at_108) ?_
                  exact kt
                obtain ⟨T25, h25, k25, X25, e25, E25, A25, st25⟩ := newP X0 hx hZ (hw _ (List.mem_of_getElem? (i := 1) rfl)) e0 (g := (mkF m 109 #[.val (.int p1), .val (.int p2), .val (.int p3), .val (.int p4), .val (.int p5), .val (.int nn), .val (.int aa), .val (.int bb), .val (.int cc), .val (.int dd), .val (.int (1 : Int32)), .val (.int (1 : Int32)), .val (.int (0 : Int32)), .unset, .unset, .unset, .unset, .unset, .unset, .unset, .unset] [(.int (4 : Int32))])) rfl (hb hby at_109) rfl (by decide) (cap := 4) (by decide) (by decide) (by decide) (by decide)
                obtain ⟨b25, g25⟩ : ∃ z, z = h0.size := ⟨_, rfl⟩
                have g_b25 : n0 ≤ b25 := Nat.le_trans Z0 (Nat.le_of_eq g25.symm)
                have sz_b25 : h0.size ≤ b25 := Nat.le_trans (Keep.refl h0 []).1 (Nat.le_of_eq g25.symm)
                rw [← g25] at A25 st25
                have K25 := Keep.ext (Keep.refl h0 []) E25
                have V_b25 := own_Arr.new A25 (by decide) rfl
                refine own_pre (B := (T25.setTop (mkF m 122 #[.val (.int p1), .val (.int p2), .val (.int p3), .val (.int p4), .val (.int p5), .val (.int nn), .val (.int aa), .val (.int bb), .val (.int cc), .val (.int dd), .val (.int (1 : Int32)), .val (.int (1 : Int32)), .val (.int (0 : Int32)), .val (.ref b25), .val (.int (0 : Int32)), .unset, .unset, .unset, .unset, .unset, .unset] [(.int aa), (.int (0 : Int32)), (.ref b25)]))) (fun t kt => ?_) ?_
                · show Steps p.tables e below (s₁.setTop (mkF m 109 _ [(.int (4 : Int32))])) _
                  refine st25 _ ?_
                  show Steps p.tables e below (T25.setTop (mkF m 111 _ [(.ref b25)])) _
                  refine XS.astore X25.here hx rfl (hb hby at_111) rfl rfl (l' := #[.val (.int p1), .val (.int p2), .val (.int p3), .val (.int p4), .val (.int p5), .val (.int nn), .val (.int aa), .val (.int bb), .val (.int cc), .val (.int dd), .val (.int (1 : Int32)), .val (.int (1 : Int32)), .val (.int (0 : Int32)), .val (.ref b25), .unset, .unset, .unset, .unset, .unset, .unset, .unset]) rfl ?_
                  show Steps p.tables e below (T25.setTop (mkF m 113 _ [])) _
                  refine XS.iconst X25.here hx rfl (hb hby at_113) ?_
                  show Steps p.tables e below (T25.setTop (mkF m 114 _ [(.int (0 : Int32))])) _
                  refine XS.istore X25.here hx rfl (hb hby at_114) rfl (l' := #[.val (.int p1), .val (.int p2), .val (.int p3), .val (.int p4), .val (.int p5), .val (.int nn), .val (.int aa), .val (.int bb), .val (.int cc), .val (.int dd), .val (.int (1 : Int32)), .val (.int (1 : Int32)), .val (.int (0 : Int32)), .val (.ref b25), .val (.int (0 : Int32)), .unset, .unset, .unset, .unset, .unset, .unset]) rfl ?_
                  show Steps p.tables e below (T25.setTop (mkF m 116 _ [])) _
                  refine XS.aload X25.here hx rfl (hb hby at_116) rfl rfl ?_
                  show Steps p.tables e below (T25.setTop (mkF m 118 _ [(.ref b25)])) _
                  refine XS.iload X25.here hx rfl (hb hby at_118) rfl ?_
                  show Steps p.tables e below (T25.setTop (mkF m 120 _ [(.int (0 : Int32)), (.ref b25)])) _
                  refine XS.iload X25.here hx rfl (hb hby at_120) rfl ?_
                  exact kt
                obtain ⟨cl26, Ar26, S26, P26, H26⟩ := id V_b25
                have in26 := inb_of S26 (⟨by decide, by decide⟩ : ¬ (0 : Int32) < 0 ∧ (0 : Int32) < (4 : Int32))
                obtain ⟨T26, h26, X26, e26, W26, st26⟩ := stI X25 hx hZ e25 Ar26 (j := (0 : Int32)) in26 (g := (mkF m 122 #[.val (.int p1), .val (.int p2), .val (.int p3), .val (.int p4), .val (.int p5), .val (.int nn), .val (.int aa), .val (.int bb), .val (.int cc), .val (.int dd), .val (.int (1 : Int32)), .val (.int (1 : Int32)), .val (.int (0 : Int32)), .val (.ref b25), .val (.int (0 : Int32)), .unset, .unset, .unset, .unset, .unset, .unset] [(.int aa), (.int (0 : Int32)), (.ref b25)])) rfl rfl (hb hby at_122)
                have V_b25_26 := V_b25.set W26
                have N26 := Fr.snoc X26 N0 g_b25
                have K26 := Keep.wr K25 W26 (Or.inr sz_b25)
                refine own_pre (B := (T26.setTop (mkF m 140 #[.val (.int p1), .val (.int p2), .val (.int p3), .val (.int p4), .val (.int p5), .val (.int nn), .val (.int aa), .val (.int bb), .val (.int cc), .val (.int dd), .val (.int (1 : Int32)), .val (.int (1 : Int32)), .val (.int (0 : Int32)), .val (.ref b25), .val (.int ((0 : Int32) + (1 : Int32))), .unset, .unset, .unset, .unset, .unset, .unset] [(.int bb), (.int ((0 : Int32) + (1 : Int32))), (.ref b25)]))) (fun t kt => ?_) ?_
                · show Steps p.tables e below (T25.setTop (mkF m 122 _ [(.int aa), (.int (0 : Int32)), (.ref b25)])) _
                  refine st26 _ ?_
                  show Steps p.tables e below (T26.setTop (mkF m 123 _ [])) _
                  refine XS.iload X26.here hx rfl (hb hby at_123) rfl ?_
                  show Steps p.tables e below (T26.setTop (mkF m 125 _ [(.int (0 : Int32))])) _
                  refine XS.iconst X26.here hx rfl (hb hby at_125) ?_
                  show Steps p.tables e below (T26.setTop (mkF m 126 _ [(.int (1 : Int32)), (.int (0 : Int32))])) _
                  refine XS.iadd X26.here hx rfl (hb hby at_126) rfl ?_
                  show Steps p.tables e below (T26.setTop (mkF m 127 _ [(.int ((0 : Int32) + (1 : Int32)))])) _
                  refine XS.istore X26.here hx rfl (hb hby at_127) rfl (l' := #[.val (.int p1), .val (.int p2), .val (.int p3), .val (.int p4), .val (.int p5), .val (.int nn), .val (.int aa), .val (.int bb), .val (.int cc), .val (.int dd), .val (.int (1 : Int32)), .val (.int (1 : Int32)), .val (.int (0 : Int32)), .val (.ref b25), .val (.int ((0 : Int32) + (1 : Int32))), .unset, .unset, .unset, .unset, .unset, .unset]) rfl ?_
                  show Steps p.tables e below (T26.setTop (mkF m 129 _ [])) _
                  refine XS.iload X26.here hx rfl (hb hby at_129) rfl ?_
                  show Steps p.tables e below (T26.setTop (mkF m 131 _ [(.int (1 : Int32))])) _
                  refine XS.ifNo X26.here hx rfl (hb hby at_131) rfl ((if0 _ _).trans (feq ((by decide) : ¬ ((1 : Int32) = (0 : Int32)))).1) ?_
                  show Steps p.tables e below (T26.setTop (mkF m 134 _ [])) _
                  refine XS.aload X26.here hx rfl (hb hby at_134) rfl rfl ?_
                  show Steps p.tables e below (T26.setTop (mkF m 136 _ [(.ref b25)])) _
                  refine XS.iload X26.here hx rfl (hb hby at_136) rfl ?_
                  show Steps p.tables e below (T26.setTop (mkF m 138 _ [(.int ((0 : Int32) + (1 : Int32))), (.ref b25)])) _
                  refine XS.iload X26.here hx rfl (hb hby at_138) rfl ?_
                  exact kt
                obtain ⟨cl27, Ar27, S27, P27, H27⟩ := id V_b25_26
                have in27 := inb_of S27 (⟨by decide, by decide⟩ : ¬ ((0 : Int32) + (1 : Int32)) < 0 ∧ ((0 : Int32) + (1 : Int32)) < (4 : Int32))
                obtain ⟨T27, h27, X27, e27, W27, st27⟩ := stI X26 hx hZ e26 Ar27 (j := ((0 : Int32) + (1 : Int32))) in27 (g := (mkF m 140 #[.val (.int p1), .val (.int p2), .val (.int p3), .val (.int p4), .val (.int p5), .val (.int nn), .val (.int aa), .val (.int bb), .val (.int cc), .val (.int dd), .val (.int (1 : Int32)), .val (.int (1 : Int32)), .val (.int (0 : Int32)), .val (.ref b25), .val (.int ((0 : Int32) + (1 : Int32))), .unset, .unset, .unset, .unset, .unset, .unset] [(.int bb), (.int ((0 : Int32) + (1 : Int32))), (.ref b25)])) rfl rfl (hb hby at_140)
                have V_b25_27 := V_b25_26.set W27
                have N27 := Fr.snoc X27 N26 g_b25
                have K27 := Keep.wr K26 W27 (Or.inr sz_b25)
                refine own_pre (B := (T27.setTop (mkF m 158 #[.val (.int p1), .val (.int p2), .val (.int p3), .val (.int p4), .val (.int p5), .val (.int nn), .val (.int aa), .val (.int bb), .val (.int cc), .val (.int dd), .val (.int (1 : Int32)), .val (.int (1 : Int32)), .val (.int (0 : Int32)), .val (.ref b25), .val (.int (((0 : Int32) + (1 : Int32)) + (1 : Int32))), .unset, .unset, .unset, .unset, .unset, .unset] [(.int cc), (.int (((0 : Int32) + (1 : Int32)) + (1 : Int32))), (.ref b25)]))) (fun t kt => ?_) ?_
                · show Steps p.tables e below (T26.setTop (mkF m 140 _ [(.int bb), (.int ((0 : Int32) + (1 : Int32))), (.ref b25)])) _
                  refine st27 _ ?_
                  show Steps p.tables e below (T27.setTop (mkF m 141 _ [])) _
                  refine XS.iload X27.here hx rfl (hb hby at_141) rfl ?_
                  show Steps p.tables e below (T27.setTop (mkF m 143 _ [(.int ((0 : Int32) + (1 : Int32)))])) _
                  refine XS.iconst X27.here hx rfl (hb hby at_143) ?_
                  show Steps p.tables e below (T27.setTop (mkF m 144 _ [(.int (1 : Int32)), (.int ((0 : Int32) + (1 : Int32)))])) _
                  refine XS.iadd X27.here hx rfl (hb hby at_144) rfl ?_
                  show Steps p.tables e below (T27.setTop (mkF m 145 _ [(.int (((0 : Int32) + (1 : Int32)) + (1 : Int32)))])) _
                  refine XS.istore X27.here hx rfl (hb hby at_145) rfl (l' := #[.val (.int p1), .val (.int p2), .val (.int p3), .val (.int p4), .val (.int p5), .val (.int nn), .val (.int aa), .val (.int bb), .val (.int cc), .val (.int dd), .val (.int (1 : Int32)), .val (.int (1 : Int32)), .val (.int (0 : Int32)), .val (.ref b25), .val (.int (((0 : Int32) + (1 : Int32)) + (1 : Int32))), .unset, .unset, .unset, .unset, .unset, .unset]) rfl ?_
                  show Steps p.tables e below (T27.setTop (mkF m 147 _ [])) _
                  refine XS.iload X27.here hx rfl (hb hby at_147) rfl ?_
                  show Steps p.tables e below (T27.setTop (mkF m 149 _ [(.int (1 : Int32))])) _
                  refine XS.ifNo X27.here hx rfl (hb hby at_149) rfl ((if0 _ _).trans (feq ((by decide) : ¬ ((1 : Int32) = (0 : Int32)))).1) ?_
                  show Steps p.tables e below (T27.setTop (mkF m 152 _ [])) _
                  refine XS.aload X27.here hx rfl (hb hby at_152) rfl rfl ?_
                  show Steps p.tables e below (T27.setTop (mkF m 154 _ [(.ref b25)])) _
                  refine XS.iload X27.here hx rfl (hb hby at_154) rfl ?_
                  show Steps p.tables e below (T27.setTop (mkF m 156 _ [(.int (((0 : Int32) + (1 : Int32)) + (1 : Int32))), (.ref b25)])) _
                  refine XS.iload X27.here hx rfl (hb hby at_156) rfl ?_
                  exact kt
                obtain ⟨cl28, Ar28, S28, P28, H28⟩ := id V_b25_27
                have in28 := inb_of S28 (⟨by decide, by decide⟩ : ¬ (((0 : Int32) + (1 : Int32)) + (1 : Int32)) < 0 ∧ (((0 : Int32) + (1 : Int32)) + (1 : Int32)) < (4 : Int32))
                obtain ⟨T28, h28, X28, e28, W28, st28⟩ := stI X27 hx hZ e27 Ar28 (j := (((0 : Int32) + (1 : Int32)) + (1 : Int32))) in28 (g := (mkF m 158 #[.val (.int p1), .val (.int p2), .val (.int p3), .val (.int p4), .val (.int p5), .val (.int nn), .val (.int aa), .val (.int bb), .val (.int cc), .val (.int dd), .val (.int (1 : Int32)), .val (.int (1 : Int32)), .val (.int (0 : Int32)), .val (.ref b25), .val (.int (((0 : Int32) + (1 : Int32)) + (1 : Int32))), .unset, .unset, .unset, .unset, .unset, .unset] [(.int cc), (.int (((0 : Int32) + (1 : Int32)) + (1 : Int32))), (.ref b25)])) rfl rfl (hb hby at_158)
                have V_b25_28 := V_b25_27.set W28
                have N28 := Fr.snoc X28 N27 g_b25
                have K28 := Keep.wr K27 W28 (Or.inr sz_b25)
                refine own_pre (B := (T28.setTop (mkF m 183 #[.val (.int p1), .val (.int p2), .val (.int p3), .val (.int p4), .val (.int p5), .val (.int nn), .val (.int aa), .val (.int bb), .val (.int cc), .val (.int dd), .val (.int (1 : Int32)), .val (.int (1 : Int32)), .val (.int (0 : Int32)), .val (.ref b25), .val (.int ((((0 : Int32) + (1 : Int32)) + (1 : Int32)) + (1 : Int32))), .unset, .unset, .unset, .unset, .unset, .unset] []))) (fun t kt => ?_) ?_
                · show Steps p.tables e below (T27.setTop (mkF m 158 _ [(.int cc), (.int (((0 : Int32) + (1 : Int32)) + (1 : Int32))), (.ref b25)])) _
                  refine st28 _ ?_
                  show Steps p.tables e below (T28.setTop (mkF m 159 _ [])) _
                  refine XS.iload X28.here hx rfl (hb hby at_159) rfl ?_
                  show Steps p.tables e below (T28.setTop (mkF m 161 _ [(.int (((0 : Int32) + (1 : Int32)) + (1 : Int32)))])) _
                  refine XS.iconst X28.here hx rfl (hb hby at_161) ?_
                  show Steps p.tables e below (T28.setTop (mkF m 162 _ [(.int (1 : Int32)), (.int (((0 : Int32) + (1 : Int32)) + (1 : Int32)))])) _
                  refine XS.iadd X28.here hx rfl (hb hby at_162) rfl ?_
                  show Steps p.tables e below (T28.setTop (mkF m 163 _ [(.int ((((0 : Int32) + (1 : Int32)) + (1 : Int32)) + (1 : Int32)))])) _
                  refine XS.istore X28.here hx rfl (hb hby at_163) rfl (l' := #[.val (.int p1), .val (.int p2), .val (.int p3), .val (.int p4), .val (.int p5), .val (.int nn), .val (.int aa), .val (.int bb), .val (.int cc), .val (.int dd), .val (.int (1 : Int32)), .val (.int (1 : Int32)), .val (.int (0 : Int32)), .val (.ref b25), .val (.int ((((0 : Int32) + (1 : Int32)) + (1 : Int32)) + (1 : Int32))), .unset, .unset, .unset, .unset, .unset, .unset]) rfl ?_
                  show Steps p.tables e below (T28.setTop (mkF m 165 _ [])) _
                  refine XS.iload X28.here hx rfl (hb hby at_165) rfl ?_
                  show Steps p.tables e below (T28.setTop (mkF m 167 _ [(.int (0 : Int32))])) _
                  refine XS.ifYes X28.here hx rfl (pc0 := 167) (pc' := 183) rfl (hb hby at_167) rfl ((if0 _ _).trans (teq (rfl : (0 : Int32) = (0 : Int32))).1) (by decide) (by decide) ?_
                  exact kt
                obtain ⟨T29, h29, X29, e29, E29, A29, D29, -, st29⟩ := newO X28 hx hZ hown (hw _ (List.mem_of_getElem? (i := 2) rfl)) (hw _ (List.mem_of_getElem? (i := 3) rfl)) (hw _ (List.mem_of_getElem? (i := 4) rfl)) e28 (g := (mkF m 183 #[.val (.int p1), .val (.int p2), .val (.int p3), .val (.int p4), .val (.int p5), .val (.int nn), .val (.int aa), .val (.int bb), .val (.int cc), .val (.int dd), .val (.int (1 : Int32)), .val (.int (1 : Int32)), .val (.int (0 : Int32)), .val (.ref b25), .val (.int ((((0 : Int32) + (1 : Int32)) + (1 : Int32)) + (1 : Int32))), .unset, .unset, .unset, .unset, .unset, .unset] [])) rfl (hb hby at_183) (by decide) (by decide)
                obtain ⟨b29, g29⟩ : ∃ z, z = h28.size := ⟨_, rfl⟩
                have ne_b25_b29 : b25 ≠ b29 := Nat.ne_of_lt (Nat.lt_of_lt_of_le V_b25_28.lt (Nat.le_of_eq g29.symm))
                have g_b29 : n0 ≤ b29 := Nat.le_trans (Nat.le_trans (Nat.le_trans (Nat.le_trans (Nat.le_trans Z0 E25.1) (Keep.of_wr W26).1) (Keep.of_wr W27).1) (Keep.of_wr W28).1) (Nat.le_of_eq g29.symm)
                have sz_b29 : h0.size ≤ b29 := Nat.le_trans K28.1 (Nat.le_of_eq g29.symm)
                rw [← g29] at A29 D29 st29
                have V_b25_29 := V_b25_28.ext E29
                have K29 := Keep.ext K28 E29
                have E_b29 := A29
                have F_member_b29 : Fld Z h29 b29 "com/example/faregraph/faregraph/search/Members" "member" "[Z" .null := D29 (Or.inr (hw _ (List.mem_of_getElem? (i := 13) rfl))) (ty := (.array .boolean)) (by decide)
                have F_members_b29 : Fld Z h29 b29 "com/example/faregraph/faregraph/search/Members" "members" "[I" .null := D29 (Or.inr (hw _ (List.mem_of_getElem? (i := 15) rfl))) (ty := (.array .int)) (by decide)
                have F_count_b29 : Fld Z h29 b29 "com/example/faregraph/faregraph/search/Members" "count" "I" (.int (0 : Int32)) := D29 (Or.inl (hw _ (List.mem_of_getElem? (i := 22) rfl))) (ty := .int) (by decide)
                refine own_pre (B := (T29.setTop (mkF m 189 #[.val (.int p1), .val (.int p2), .val (.int p3), .val (.int p4), .val (.int p5), .val (.int nn), .val (.int aa), .val (.int bb), .val (.int cc), .val (.int dd), .val (.int (1 : Int32)), .val (.int (1 : Int32)), .val (.int (0 : Int32)), .val (.ref b25), .val (.int ((((0 : Int32) + (1 : Int32)) + (1 : Int32)) + (1 : Int32))), .unset, .unset, .unset, .unset, .unset, .unset] [(.int nn), (.ref b29), (.ref b29)]))) (fun t kt => ?_) ?_
                · show Steps p.tables e below (T28.setTop (mkF m 183 _ [])) _
                  refine st29 _ ?_
                  show Steps p.tables e below (T29.setTop (mkF m 186 _ [(.ref b29)])) _
                  refine XS.dup X29.here hx rfl (hb hby at_186) rfl rfl ?_
                  show Steps p.tables e below (T29.setTop (mkF m 187 _ [(.ref b29), (.ref b29)])) _
                  refine XS.iload X29.here hx rfl (hb hby at_187) rfl ?_
                  exact kt
                obtain ⟨_, _, ⟨T30, L30, k30, n30⟩, -, X30, ⟨Lc30, hQ30, l30, y30, z30⟩, st30⟩ := X29.specialBack hx (y := (⟨"com/example/faregraph/faregraph/search/Members", "<init>", "(I)V"⟩ : MethodName)) rfl hown (mvT hZ (hw _ (List.mem_of_getElem? (i := 5) rfl))) (mvT hZ (hw _ (List.mem_of_getElem? (i := 6) rfl))) (mvT hZ (hw _ (List.mem_of_getElem? (i := 7) rfl))) (by decide) (backOf (W := 1) (rm1 l Z a0 hw [] b29 nn h29 n0 (Nat.le_trans (Nat.le_trans (Nat.le_trans (Nat.le_trans (Nat.le_trans Z0 E25.1) (Keep.of_wr W26).1) (Keep.of_wr W27).1) (Keep.of_wr W28).1) E29.1) E_b29 F_member_b29 F_members_b29 F_count_b29 g_b29 hnn hcap) hZ (hw _ (List.mem_of_getElem? (i := 7) rfl)) (hw _ (List.mem_of_getElem? (i := 4) rfl)) (by decide) (by decide)) (g := (mkF m 189 #[.val (.int p1), .val (.int p2), .val (.int p3), .val (.int p4), .val (.int p5), .val (.int nn), .val (.int aa), .val (.int bb), .val (.int cc), .val (.int dd), .val (.int (1 : Int32)), .val (.int (1 : Int32)), .val (.int (0 : Int32)), .val (.ref b25), .val (.int ((((0 : Int32) + (1 : Int32)) + (1 : Int32)) + (1 : Int32))), .unset, .unset, .unset, .unset, .unset, .unset] [(.int nn), (.ref b29), (.ref b29)])) rfl (by rw [hml]; rfl) (Steps.refl _) (a := b29) (argsL := [(.int nn)]) (rest := [(.ref b29)]) (lenOf pd_0 rfl) rfl (by show 2 * 0 + _ ≤ _; exact Nat.le_of_eq rfl) (hb hby at_189) (fun _ _ => ⟨rfl, e29, (by decide : 2 + 2 ≤ _), (by decide : 7 + 16 ≤ _)⟩)
                dsimp only [Pt.U, Pt.locs, Pt.cells, Pt.slots] at X30 l30 y30 z30 st30 hQ30
                subst l30 y30 z30
                obtain ⟨rfl, N30q, KK30, mb, mc, szb, szc, M30⟩ := hQ30
                have N30 := Fr.app N28 N30q
                have ne_b25_mb : b25 ≠ mb := Nat.ne_of_lt (Nat.lt_of_lt_of_le V_b25_29.lt szb)
                have ne_b25_mc : b25 ≠ mc := Nat.ne_of_lt (Nat.lt_of_lt_of_le V_b25_29.lt szc)
                have g_mb : n0 ≤ mb := Nat.le_trans (Nat.le_trans (Nat.le_trans (Nat.le_trans (Nat.le_trans (Nat.le_trans Z0 E25.1) (Keep.of_wr W26).1) (Keep.of_wr W27).1) (Keep.of_wr W28).1) E29.1) szb
                have g_mc : n0 ≤ mc := Nat.le_trans (Nat.le_trans (Nat.le_trans (Nat.le_trans (Nat.le_trans (Nat.le_trans Z0 E25.1) (Keep.of_wr W26).1) (Keep.of_wr W27).1) (Keep.of_wr W28).1) E29.1) szc
                have sz_mb : h0.size ≤ mb := Nat.le_trans K29.1 szb
                have sz_mc : h0.size ≤ mc := Nat.le_trans K29.1 szc
                have V_b25_30 := V_b25_29.keep KK30 (ninS ne_b25_b29 nin0)
                have E_b29_30 := E_b29.keep KK30
                have KC30 := Keep.trans K29 KK30 (allS (P := fun x => x ∈ [] ∨ h0.size ≤ x) (Or.inr sz_b29) all0)
                refine own_pre (B := (T30.setTop (mkF m 198 #[.val (.int p1), .val (.int p2), .val (.int p3), .val (.int p4), .val (.int p5), .val (.int nn), .val (.int aa), .val (.int bb), .val (.int cc), .val (.int dd), .val (.int (1 : Int32)), .val (.int (1 : Int32)), .val (.int (0 : Int32)), .val (.ref b25), .val (.int ((((0 : Int32) + (1 : Int32)) + (1 : Int32)) + (1 : Int32))), .val (.ref b29), .unset, .unset, .unset, .unset, .unset] [(.int aa), (.ref b29)]))) (fun t kt => ?_) ?_
                · refine st30.trans ?_
                  show Steps p.tables e below (T30.setTop (mkF m 192 _ [(.ref b29)])) _
                  refine XS.astore X30.here hx rfl (hb hby at_192) rfl rfl (l' := #[.val (.int p1), .val (.int p2), .val (.int p3), .val (.int p4), .val (.int p5), .val (.int nn), .val (.int aa), .val (.int bb), .val (.int cc), .val (.int dd), .val (.int (1 : Int32)), .val (.int (1 : Int32)), .val (.int (0 : Int32)), .val (.ref b25), .val (.int ((((0 : Int32) + (1 : Int32)) + (1 : Int32)) + (1 : Int32))), .val (.ref b29), .unset, .unset, .unset, .unset, .unset]) rfl ?_
                  show Steps p.tables e below (T30.setTop (mkF m 194 _ [])) _
                  refine XS.aload X30.here hx rfl (hb hby at_194) rfl rfl ?_
                  show Steps p.tables e below (T30.setTop (mkF m 196 _ [(.ref b29)])) _
                  refine XS.iload X30.here hx rfl (hb hby at_196) rfl ?_
                  exact kt
                have hk0 : ¬ (0 : Int32) < 0 ∧ (0 : Int32) < nn := own_rng' (by have e : ((0 : Int32)).toInt = 0 := (by decide); omega)
                have hf_aa : (fun _ => (0 : Int32)) (aa).toNatClampNeg = 0 := by
                  simp only [own_upd, own_tn]
                obtain ⟨cq31, kq31, q31a, q31b, q31c⟩ := isOf hZ rfl M30.1
                obtain ⟨_, _, ⟨T31, L31, k31, n31⟩, -, X31, ⟨Lc31, hQ31, l31, y31, z31⟩, st31⟩ := X30.virtualBack hx (y := (⟨"com/example/faregraph/faregraph/search/Members", "add", "(I)Z"⟩ : MethodName)) (z := (⟨"com/example/faregraph/faregraph/search/Members", "add", "(I)Z"⟩ : MethodName)) hown (mvT hZ (hw _ (List.mem_of_getElem? (i := 16) rfl))) (mvT hZ (hw _ (List.mem_of_getElem? (i := 17) rfl))) (notFace_of_selects (args := #[]) (mvT hZ (hw _ (List.mem_of_getElem? (i := 19) rfl)))) (mvT hZ (hw _ (List.mem_of_getElem? (i := 19) rfl))) (mvT hZ (hw _ (List.mem_of_getElem? (i := 18) rfl))) (by decide) (backOf (W := 0) (rm3n l Z a0 hw [] b29 mb mc nn (0 : Int32) (fun _ => (0 : Int32)) (fun _ => (0 : Int32)) aa T30.heap n0 (Nat.le_trans (Nat.le_trans (Nat.le_trans (Nat.le_trans (Nat.le_trans (Nat.le_trans Z0 E25.1) (Keep.of_wr W26).1) (Keep.of_wr W27).1) (Keep.of_wr W28).1) E29.1) KK30.1) M30 ra hk0 hf_aa) hZ (hw _ (List.mem_of_getElem? (i := 20) rfl)) (hw _ (List.mem_of_getElem? (i := 4) rfl)) (by decide) (by decide)) q31a q31c (g := (mkF m 198 #[.val (.int p1), .val (.int p2), .val (.int p3), .val (.int p4), .val (.int p5), .val (.int nn), .val (.int aa), .val (.int bb), .val (.int cc), .val (.int dd), .val (.int (1 : Int32)), .val (.int (1 : Int32)), .val (.int (0 : Int32)), .val (.ref b25), .val (.int ((((0 : Int32) + (1 : Int32)) + (1 : Int32)) + (1 : Int32))), .val (.ref b29), .unset, .unset, .unset, .unset, .unset] [(.int aa), (.ref b29)])) rfl (by rw [hml]; rfl) (Steps.refl _) (argsL := [(.int aa)]) (rest := []) (lenOf pd_2 rfl) rfl (by show 2 * 0 + _ ≤ _; exact Nat.le_of_eq rfl) (hb hby at_198) (fun _ _ => ⟨rfl, rfl, (by decide : 4 + 0 ≤ _), (by decide : 23 + 0 ≤ _)⟩)
                dsimp only [Pt.U, Pt.locs, Pt.cells, Pt.slots] at X31 l31 y31 z31 st31 hQ31
                subst l31 y31 z31
                obtain ⟨rfl, N31q, KK31, M31⟩ := hQ31
                have N31 := Fr.app N30 N31q
                have V_b25_31 := V_b25_30.keep KK31 (ninS ne_b25_b29 (ninS ne_b25_mb (ninS ne_b25_mc nin0)))
                have E_b29_31 := E_b29_30.keep KK31
                have KC31 := Keep.trans KC30 KK31 (allS (P := fun x => x ∈ [] ∨ h0.size ≤ x) (Or.inr sz_b29) (allS (P := fun x => x ∈ [] ∨ h0.size ≤ x) (Or.inr sz_mb) (allS (P := fun x => x ∈ [] ∨ h0.size ≤ x) (Or.inr sz_mc) all0)))
                refine own_pre (B := (T31.setTop (mkF m 207 #[.val (.int p1), .val (.int p2), .val (.int p3), .val (.int p4), .val (.int p5), .val (.int nn), .val (.int aa), .val (.int bb), .val (.int cc), .val (.int dd), .val (.int (1 : Int32)), .val (.int (1 : Int32)), .val (.int (0 : Int32)), .val (.ref b25), .val (.int ((((0 : Int32) + (1 : Int32)) + (1 : Int32)) + (1 : Int32))), .val (.ref b29), .val (.int (1 : Int32)), .unset, .unset, .unset, .unset] [(.int bb), (.ref b29)]))) (fun t kt => ?_) ?_
                · refine st31.trans ?_
                  show Steps p.tables e below (T31.setTop (mkF m 201 _ [(.int (1 : Int32))])) _
                  refine XS.istore X31.here hx rfl (hb hby at_201) rfl (l' := #[.val (.int p1), .val (.int p2), .val (.int p3), .val (.int p4), .val (.int p5), .val (.int nn), .val (.int aa), .val (.int bb), .val (.int cc), .val (.int dd), .val (.int (1 : Int32)), .val (.int (1 : Int32)), .val (.int (0 : Int32)), .val (.ref b25), .val (.int ((((0 : Int32) + (1 : Int32)) + (1 : Int32)) + (1 : Int32))), .val (.ref b29), .val (.int (1 : Int32)), .unset, .unset, .unset, .unset]) rfl ?_
                  show Steps p.tables e below (T31.setTop (mkF m 203 _ [])) _
                  refine XS.aload X31.here hx rfl (hb hby at_203) rfl rfl ?_
                  show Steps p.tables e below (T31.setTop (mkF m 205 _ [(.ref b29)])) _
                  refine XS.iload X31.here hx rfl (hb hby at_205) rfl ?_
                  exact kt
                have hk1 : ¬ ((0 : Int32) + (1 : Int32)) < 0 ∧ ((0 : Int32) + (1 : Int32)) < nn := own_rng' (by have e : (((0 : Int32) + (1 : Int32))).toInt = 1 := (by decide); omega)
                have hf_bb : (own_upd (fun _ => (0 : Int32)) (aa).toNatClampNeg 1) (bb).toNatClampNeg = 0 := by
                  simp only [own_upd, own_tn]
                  repeat' split
                  all_goals first | rfl | (exfalso; omega)
                obtain ⟨cq32, kq32, q32a, q32b, q32c⟩ := isOf hZ rfl M31.1
                obtain ⟨_, _, ⟨T32, L32, k32, n32⟩, -, X32, ⟨Lc32, hQ32, l32, y32, z32⟩, st32⟩ := X31.virtualBack hx (y := (⟨"com/example/faregraph/faregraph/search/Members", "add", "(I)Z"⟩ : MethodName)) (z := (⟨"com/example/faregraph/faregraph/search/Members", "add", "(I)Z"⟩ : MethodName)) hown (mvT hZ (hw _ (List.mem_of_getElem? (i := 16) rfl))) (mvT hZ (hw _ (List.mem_of_getElem? (i := 17) rfl))) (notFace_of_selects (args := #[]) (mvT hZ (hw _ (List.mem_of_getElem? (i := 19) rfl)))) (mvT hZ (hw _ (List.mem_of_getElem? (i := 19) rfl))) (mvT hZ (hw _ (List.mem_of_getElem? (i := 18) rfl))) (by decide) (backOf (W := 0) (rm3n l Z a0 hw [] b29 mb mc nn ((0 : Int32) + (1 : Int32)) (own_upd (fun _ => (0 : Int32)) (aa).toNatClampNeg 1) (own_upd (fun _ => (0 : Int32)) ((0 : Int32)).toNatClampNeg aa) bb T31.heap n0 (Nat.le_trans (Nat.le_trans (Nat.le_trans (Nat.le_trans (Nat.le_trans (Nat.le_trans (Nat.le_trans Z0 E25.1) (Keep.of_wr W26).1) (Keep.of_wr W27).1) (Keep.of_wr W28).1) E29.1) KK30.1) KK31.1) M31 rb hk1 hf_bb) hZ (hw _ (List.mem_of_getElem? (i := 20) rfl)) (hw _ (List.mem_of_getElem? (i := 4) rfl)) (by decide) (by decide)) q32a q32c (g := (mkF m 207 #[.val (.int p1), .val (.int p2), .val (.int p3), .val (.int p4), .val (.int p5), .val (.int nn), .val (.int aa), .val (.int bb), .val (.int cc), .val (.int dd), .val (.int (1 : Int32)), .val (.int (1 : Int32)), .val (.int (0 : Int32)), .val (.ref b25), .val (.int ((((0 : Int32) + (1 : Int32)) + (1 : Int32)) + (1 : Int32))), .val (.ref b29), .val (.int (1 : Int32)), .unset, .unset, .unset, .unset] [(.int bb), (.ref b29)])) rfl (by rw [hml]; rfl) (Steps.refl _) (argsL := [(.int bb)]) (rest := []) (lenOf pd_2 rfl) rfl (by show 2 * 0 + _ ≤ _; exact Nat.le_of_eq rfl) (hb hby at_207) (fun _ _ => ⟨rfl, rfl, (by decide : 4 + 0 ≤ _), (by decide : 23 + 0 ≤ _)⟩)
                dsimp only [Pt.U, Pt.locs, Pt.cells, Pt.slots] at X32 l32 y32 z32 st32 hQ32
                subst l32 y32 z32
                obtain ⟨rfl, N32q, KK32, M32⟩ := hQ32
                have N32 := Fr.app N31 N32q
                have V_b25_32 := V_b25_31.keep KK32 (ninS ne_b25_b29 (ninS ne_b25_mb (ninS ne_b25_mc nin0)))
                have E_b29_32 := E_b29_31.keep KK32
                have KC32 := Keep.trans KC31 KK32 (allS (P := fun x => x ∈ [] ∨ h0.size ≤ x) (Or.inr sz_b29) (allS (P := fun x => x ∈ [] ∨ h0.size ≤ x) (Or.inr sz_mb) (allS (P := fun x => x ∈ [] ∨ h0.size ≤ x) (Or.inr sz_mc) all0)))
                refine own_pre (B := (T32.setTop (mkF m 216 #[.val (.int p1), .val (.int p2), .val (.int p3), .val (.int p4), .val (.int p5), .val (.int nn), .val (.int aa), .val (.int bb), .val (.int cc), .val (.int dd), .val (.int (1 : Int32)), .val (.int (1 : Int32)), .val (.int (0 : Int32)), .val (.ref b25), .val (.int ((((0 : Int32) + (1 : Int32)) + (1 : Int32)) + (1 : Int32))), .val (.ref b29), .val (.int (1 : Int32)), .val (.int (1 : Int32)), .unset, .unset, .unset] [(.int cc), (.ref b29)]))) (fun t kt => ?_) ?_
                · refine st32.trans ?_
                  show Steps p.tables e below (T32.setTop (mkF m 210 _ [(.int (1 : Int32))])) _
                  refine XS.istore X32.here hx rfl (hb hby at_210) rfl (l' := #[.val (.int p1), .val (.int p2), .val (.int p3), .val (.int p4), .val (.int p5), .val (.int nn), .val (.int aa), .val (.int bb), .val (.int cc), .val (.int dd), .val (.int (1 : Int32)), .val (.int (1 : Int32)), .val (.int (0 : Int32)), .val (.ref b25), .val (.int ((((0 : Int32) + (1 : Int32)) + (1 : Int32)) + (1 : Int32))), .val (.ref b29), .val (.int (1 : Int32)), .val (.int (1 : Int32)), .unset, .unset, .unset]) rfl ?_
                  show Steps p.tables e below (T32.setTop (mkF m 212 _ [])) _
                  refine XS.aload X32.here hx rfl (hb hby at_212) rfl rfl ?_
                  show Steps p.tables e below (T32.setTop (mkF m 214 _ [(.ref b29)])) _
                  refine XS.iload X32.here hx rfl (hb hby at_214) rfl ?_
                  exact kt
                have hk2 : ¬ (((0 : Int32) + (1 : Int32)) + (1 : Int32)) < 0 ∧ (((0 : Int32) + (1 : Int32)) + (1 : Int32)) < nn := own_rng' (by have e : ((((0 : Int32) + (1 : Int32)) + (1 : Int32))).toInt = 2 := (by decide); omega)
                have hf_cc : (own_upd (own_upd (fun _ => (0 : Int32)) (aa).toNatClampNeg 1) (bb).toNatClampNeg 1) (cc).toNatClampNeg = 0 := by
                  simp only [own_upd, own_tn]
                  repeat' split
                  all_goals first | rfl | (exfalso; omega)
                obtain ⟨cq33, kq33, q33a, q33b, q33c⟩ := isOf hZ rfl M32.1
                obtain ⟨_, _, ⟨T33, L33, k33, n33⟩, -, X33, ⟨Lc33, hQ33, l33, y33, z33⟩, st33⟩ := X32.virtualBack hx (y := (⟨"com/example/faregraph/faregraph/search/Members", "add", "(I)Z"⟩ : MethodName)) (z := (⟨"com/example/faregraph/faregraph/search/Members", "add", "(I)Z"⟩ : MethodName)) hown (mvT hZ (hw _ (List.mem_of_getElem? (i := 16) rfl))) (mvT hZ (hw _ (List.mem_of_getElem? (i := 17) rfl))) (notFace_of_selects (args := #[]) (mvT hZ (hw _ (List.mem_of_getElem? (i := 19) rfl)))) (mvT hZ (hw _ (List.mem_of_getElem? (i := 19) rfl))) (mvT hZ (hw _ (List.mem_of_getElem? (i := 18) rfl))) (by decide) (backOf (W := 0) (rm3n l Z a0 hw [] b29 mb mc nn (((0 : Int32) + (1 : Int32)) + (1 : Int32)) (own_upd (own_upd (fun _ => (0 : Int32)) (aa).toNatClampNeg 1) (bb).toNatClampNeg 1) (own_upd (own_upd (fun _ => (0 : Int32)) ((0 : Int32)).toNatClampNeg aa) (((0 : Int32) + (1 : Int32))).toNatClampNeg bb) cc T32.heap n0 (Nat.le_trans (Nat.le_trans (Nat.le_trans (Nat.le_trans (Nat.le_trans (Nat.le_trans (Nat.le_trans (Nat.le_trans Z0 E25.1) (Keep.of_wr W26).1) (Keep.of_wr W27).1) (Keep.of_wr W28).1) E29.1) KK30.1) KK31.1) KK32.1) M32 rc hk2 hf_cc) hZ (hw _ (List.mem_of_getElem? (i := 20) rfl)) (hw _ (List.mem_of_getElem? (i := 4) rfl)) (by decide) (by decide)) q33a q33c (g := (mkF m 216 #[.val (.int p1), .val (.int p2), .val (.int p3), .val (.int p4), .val (.int p5), .val (.int nn), .val (.int aa), .val (.int bb), .val (.int cc), .val (.int dd), .val (.int (1 : Int32)), .val (.int (1 : Int32)), .val (.int (0 : Int32)), .val (.ref b25), .val (.int ((((0 : Int32) + (1 : Int32)) + (1 : Int32)) + (1 : Int32))), .val (.ref b29), .val (.int (1 : Int32)), .val (.int (1 : Int32)), .unset, .unset, .unset] [(.int cc), (.ref b29)])) rfl (by rw [hml]; rfl) (Steps.refl _) (argsL := [(.int cc)]) (rest := []) (lenOf pd_2 rfl) rfl (by show 2 * 0 + _ ≤ _; exact Nat.le_of_eq rfl) (hb hby at_216) (fun _ _ => ⟨rfl, rfl, (by decide : 4 + 0 ≤ _), (by decide : 23 + 0 ≤ _)⟩)
                dsimp only [Pt.U, Pt.locs, Pt.cells, Pt.slots] at X33 l33 y33 z33 st33 hQ33
                subst l33 y33 z33
                obtain ⟨rfl, N33q, KK33, M33⟩ := hQ33
                have N33 := Fr.app N32 N33q
                have V_b25_33 := V_b25_32.keep KK33 (ninS ne_b25_b29 (ninS ne_b25_mb (ninS ne_b25_mc nin0)))
                have E_b29_33 := E_b29_32.keep KK33
                have KC33 := Keep.trans KC32 KK33 (allS (P := fun x => x ∈ [] ∨ h0.size ≤ x) (Or.inr sz_b29) (allS (P := fun x => x ∈ [] ∨ h0.size ≤ x) (Or.inr sz_mb) (allS (P := fun x => x ∈ [] ∨ h0.size ≤ x) (Or.inr sz_mc) all0)))
                refine own_pre (B := (T33.setTop (mkF m 225 #[.val (.int p1), .val (.int p2), .val (.int p3), .val (.int p4), .val (.int p5), .val (.int nn), .val (.int aa), .val (.int bb), .val (.int cc), .val (.int dd), .val (.int (1 : Int32)), .val (.int (1 : Int32)), .val (.int (0 : Int32)), .val (.ref b25), .val (.int ((((0 : Int32) + (1 : Int32)) + (1 : Int32)) + (1 : Int32))), .val (.ref b29), .val (.int (1 : Int32)), .val (.int (1 : Int32)), .val (.int (1 : Int32)), .unset, .unset] [(.int dd), (.ref b29)]))) (fun t kt => ?_) ?_
                · refine st33.trans ?_
                  show Steps p.tables e below (T33.setTop (mkF m 219 _ [(.int (1 : Int32))])) _
                  refine XS.istore X33.here hx rfl (hb hby at_219) rfl (l' := #[.val (.int p1), .val (.int p2), .val (.int p3), .val (.int p4), .val (.int p5), .val (.int nn), .val (.int aa), .val (.int bb), .val (.int cc), .val (.int dd), .val (.int (1 : Int32)), .val (.int (1 : Int32)), .val (.int (0 : Int32)), .val (.ref b25), .val (.int ((((0 : Int32) + (1 : Int32)) + (1 : Int32)) + (1 : Int32))), .val (.ref b29), .val (.int (1 : Int32)), .val (.int (1 : Int32)), .val (.int (1 : Int32)), .unset, .unset]) rfl ?_
                  show Steps p.tables e below (T33.setTop (mkF m 221 _ [])) _
                  refine XS.aload X33.here hx rfl (hb hby at_221) rfl rfl ?_
                  show Steps p.tables e below (T33.setTop (mkF m 223 _ [(.ref b29)])) _
                  refine XS.iload X33.here hx rfl (hb hby at_223) rfl ?_
                  exact kt
                have hf_dd : (own_upd (own_upd (own_upd (fun _ => (0 : Int32)) (aa).toNatClampNeg 1) (bb).toNatClampNeg 1) (cc).toNatClampNeg 1) (dd).toNatClampNeg = 1 := by
                  simp only [own_upd, own_tn]
                  repeat' split
                  all_goals first | rfl | (exfalso; omega)
                obtain ⟨cq34, kq34, q34a, q34b, q34c⟩ := isOf hZ rfl M33.1
                obtain ⟨_, _, ⟨T34, L34, k34, n34⟩, -, X34, ⟨Lc34, hQ34, l34, y34, z34⟩, st34⟩ := X33.virtualBack hx (y := (⟨"com/example/faregraph/faregraph/search/Members", "add", "(I)Z"⟩ : MethodName)) (z := (⟨"com/example/faregraph/faregraph/search/Members", "add", "(I)Z"⟩ : MethodName)) hown (mvT hZ (hw _ (List.mem_of_getElem? (i := 16) rfl))) (mvT hZ (hw _ (List.mem_of_getElem? (i := 17) rfl))) (notFace_of_selects (args := #[]) (mvT hZ (hw _ (List.mem_of_getElem? (i := 19) rfl)))) (mvT hZ (hw _ (List.mem_of_getElem? (i := 19) rfl))) (mvT hZ (hw _ (List.mem_of_getElem? (i := 18) rfl))) (by decide) (backOf (W := 0) (rm3y l Z a0 hw [] b29 mb mc nn ((((0 : Int32) + (1 : Int32)) + (1 : Int32)) + (1 : Int32)) (own_upd (own_upd (own_upd (fun _ => (0 : Int32)) (aa).toNatClampNeg 1) (bb).toNatClampNeg 1) (cc).toNatClampNeg 1) (own_upd (own_upd (own_upd (fun _ => (0 : Int32)) ((0 : Int32)).toNatClampNeg aa) (((0 : Int32) + (1 : Int32))).toNatClampNeg bb) ((((0 : Int32) + (1 : Int32)) + (1 : Int32))).toNatClampNeg cc) dd T33.heap n0 (Nat.le_trans (Nat.le_trans (Nat.le_trans (Nat.le_trans (Nat.le_trans (Nat.le_trans (Nat.le_trans (Nat.le_trans (Nat.le_trans Z0 E25.1) (Keep.of_wr W26).1) (Keep.of_wr W27).1) (Keep.of_wr W28).1) E29.1) KK30.1) KK31.1) KK32.1) KK33.1) M33 rd hf_dd) hZ (hw _ (List.mem_of_getElem? (i := 20) rfl)) (hw _ (List.mem_of_getElem? (i := 4) rfl)) (by decide) (by decide)) q34a q34c (g := (mkF m 225 #[.val (.int p1), .val (.int p2), .val (.int p3), .val (.int p4), .val (.int p5), .val (.int nn), .val (.int aa), .val (.int bb), .val (.int cc), .val (.int dd), .val (.int (1 : Int32)), .val (.int (1 : Int32)), .val (.int (0 : Int32)), .val (.ref b25), .val (.int ((((0 : Int32) + (1 : Int32)) + (1 : Int32)) + (1 : Int32))), .val (.ref b29), .val (.int (1 : Int32)), .val (.int (1 : Int32)), .val (.int (1 : Int32)), .unset, .unset] [(.int dd), (.ref b29)])) rfl (by rw [hml]; rfl) (Steps.refl _) (argsL := [(.int dd)]) (rest := []) (lenOf pd_2 rfl) rfl (by show 2 * 0 + _ ≤ _; exact Nat.le_of_eq rfl) (hb hby at_225) (fun _ _ => ⟨rfl, rfl, (by decide : 4 + 0 ≤ _), (by decide : 23 + 0 ≤ _)⟩)
                dsimp only [Pt.U, Pt.locs, Pt.cells, Pt.slots] at X34 l34 y34 z34 st34 hQ34
                subst l34 y34 z34
                obtain ⟨rfl, N34q, e34⟩ := hQ34
                have N34 := Fr.app N33 N34q
                refine own_pre (B := (T34.setTop (mkF m 260 #[.val (.int p1), .val (.int p2), .val (.int p3), .val (.int p4), .val (.int p5), .val (.int nn), .val (.int aa), .val (.int bb), .val (.int cc), .val (.int dd), .val (.int (1 : Int32)), .val (.int (1 : Int32)), .val (.int (0 : Int32)), .val (.ref b25), .val (.int ((((0 : Int32) + (1 : Int32)) + (1 : Int32)) + (1 : Int32))), .val (.ref b29), .val (.int (1 : Int32)), .val (.int (1 : Int32)), .val (.int (1 : Int32)), .val (.int (0 : Int32)), .unset] [(.ref b29)]))) (fun t kt => ?_) ?_
                · refine st34.trans ?_
                  show Steps p.tables e below (T34.setTop (mkF m 228 _ [(.int (0 : Int32))])) _
                  refine XS.istore X34.here hx rfl (hb hby at_228) rfl (l' := #[.val (.int p1), .val (.int p2), .val (.int p3), .val (.int p4), .val (.int p5), .val (.int nn), .val (.int aa), .val (.int bb), .val (.int cc), .val (.int dd), .val (.int (1 : Int32)), .val (.int (1 : Int32)), .val (.int (0 : Int32)), .val (.ref b25), .val (.int ((((0 : Int32) + (1 : Int32)) + (1 : Int32)) + (1 : Int32))), .val (.ref b29), .val (.int (1 : Int32)), .val (.int (1 : Int32)), .val (.int (1 : Int32)), .val (.int (0 : Int32)), .unset]) rfl ?_
                  show Steps p.tables e below (T34.setTop (mkF m 230 _ [])) _
                  refine XS.iload X34.here hx rfl (hb hby at_230) rfl ?_
                  show Steps p.tables e below (T34.setTop (mkF m 232 _ [(.int (1 : Int32))])) _
                  refine XS.ifNo X34.here hx rfl (hb hby at_232) rfl ((if0 _ _).trans (feq ((by decide) : ¬ ((1 : Int32) = (0 : Int32)))).1) ?_
                  show Steps p.tables e below (T34.setTop (mkF m 235 _ [])) _
                  refine XS.iload X34.here hx rfl (hb hby at_235) rfl ?_
                  show Steps p.tables e below (T34.setTop (mkF m 237 _ [(.int (1 : Int32))])) _
                  refine XS.iload X34.here hx rfl (hb hby at_237) rfl ?_
                  show Steps p.tables e below (T34.setTop (mkF m 239 _ [(.int (1 : Int32)), (.int (1 : Int32))])) _
                  refine XS.icmpNo X34.here hx rfl (hb hby at_239) rfl (teq (rfl : (1 : Int32) = (1 : Int32))).2 ?_
                  show Steps p.tables e below (T34.setTop (mkF m 242 _ [])) _
                  refine XS.iload X34.here hx rfl (hb hby at_242) rfl ?_
                  show Steps p.tables e below (T34.setTop (mkF m 244 _ [(.int (1 : Int32))])) _
                  refine XS.iload X34.here hx rfl (hb hby at_244) rfl ?_
                  show Steps p.tables e below (T34.setTop (mkF m 246 _ [(.int (1 : Int32)), (.int (1 : Int32))])) _
                  refine XS.icmpNo X34.here hx rfl (hb hby at_246) rfl (teq (rfl : (1 : Int32) = (1 : Int32))).2 ?_
                  show Steps p.tables e below (T34.setTop (mkF m 249 _ [])) _
                  refine XS.iload X34.here hx rfl (hb hby at_249) rfl ?_
                  show Steps p.tables e below (T34.setTop (mkF m 251 _ [(.int (0 : Int32))])) _
                  refine XS.iload X34.here hx rfl (hb hby at_251) rfl ?_
                  show Steps p.tables e below (T34.setTop (mkF m 253 _ [(.int (0 : Int32)), (.int (0 : Int32))])) _
                  refine XS.icmpYes X34.here hx rfl (pc0 := 253) (pc' := 258) rfl (hb hby at_253) rfl (teq (rfl : (0 : Int32) = (0 : Int32))).1 (by decide) (by decide) ?_
                  show Steps p.tables e below (T34.setTop (mkF m 258 _ [])) _
                  refine XS.aload X34.here hx rfl (hb hby at_258) rfl rfl ?_
                  exact kt
                obtain ⟨cq35, kq35, q35a, q35b, q35c⟩ := isOf hZ e34 M33.1
                obtain ⟨_, _, ⟨T35, L35, k35, n35⟩, -, X35, ⟨Lc35, hQ35, l35, y35, z35⟩, st35⟩ := X34.virtualBack hx (y := (⟨"com/example/faregraph/faregraph/search/Members", "count", "()I"⟩ : MethodName)) (z := (⟨"com/example/faregraph/faregraph/search/Members", "count", "()I"⟩ : MethodName)) hown (mvT hZ (hw _ (List.mem_of_getElem? (i := 23) rfl))) (mvT hZ (hw _ (List.mem_of_getElem? (i := 24) rfl))) (notFace_of_selects (args := #[]) (mvT hZ (hw _ (List.mem_of_getElem? (i := 26) rfl)))) (mvT hZ (hw _ (List.mem_of_getElem? (i := 26) rfl))) (mvT hZ (hw _ (List.mem_of_getElem? (i := 25) rfl))) (by decide) (backOf (W := 0) (rm4 l Z a0 hw [] b29 mb mc nn ((((0 : Int32) + (1 : Int32)) + (1 : Int32)) + (1 : Int32)) (own_upd (own_upd (own_upd (fun _ => (0 : Int32)) (aa).toNatClampNeg 1) (bb).toNatClampNeg 1) (cc).toNatClampNeg 1) (own_upd (own_upd (own_upd (fun _ => (0 : Int32)) ((0 : Int32)).toNatClampNeg aa) (((0 : Int32) + (1 : Int32))).toNatClampNeg bb) ((((0 : Int32) + (1 : Int32)) + (1 : Int32))).toNatClampNeg cc) T33.heap n0 (Nat.le_trans (Nat.le_trans (Nat.le_trans (Nat.le_trans (Nat.le_trans (Nat.le_trans (Nat.le_trans (Nat.le_trans (Nat.le_trans Z0 E25.1) (Keep.of_wr W26).1) (Keep.of_wr W27).1) (Keep.of_wr W28).1) E29.1) KK30.1) KK31.1) KK32.1) KK33.1) M33) hZ (hw _ (List.mem_of_getElem? (i := 27) rfl)) (hw _ (List.mem_of_getElem? (i := 4) rfl)) (by decide) (by decide)) q35a q35c (g := (mkF m 260 #[.val (.int p1), .val (.int p2), .val (.int p3), .val (.int p4), .val (.int p5), .val (.int nn), .val (.int aa), .val (.int bb), .val (.int cc), .val (.int dd), .val (.int (1 : Int32)), .val (.int (1 : Int32)), .val (.int (0 : Int32)), .val (.ref b25), .val (.int ((((0 : Int32) + (1 : Int32)) + (1 : Int32)) + (1 : Int32))), .val (.ref b29), .val (.int (1 : Int32)), .val (.int (1 : Int32)), .val (.int (1 : Int32)), .val (.int (0 : Int32)), .unset] [(.ref b29)])) rfl (by rw [hml]; rfl) (Steps.refl _) (argsL := []) (rest := []) (lenOf pd_3 rfl) rfl (by show 2 * 0 + _ ≤ _; exact Nat.le_of_eq rfl) (hb hby at_260) (fun _ _ => ⟨rfl, e34, (by decide : 4 + 0 ≤ _), (by decide : 23 + 0 ≤ _)⟩)
                dsimp only [Pt.U, Pt.locs, Pt.cells, Pt.slots] at X35 l35 y35 z35 st35 hQ35
                subst l35 y35 z35
                obtain ⟨rfl, N35q, e35⟩ := hQ35
                have N35 := Fr.app N34 N35q
                refine own_pre (B := (T35.setTop (mkF m 273 #[.val (.int p1), .val (.int p2), .val (.int p3), .val (.int p4), .val (.int p5), .val (.int nn), .val (.int aa), .val (.int bb), .val (.int cc), .val (.int dd), .val (.int (1 : Int32)), .val (.int (1 : Int32)), .val (.int (0 : Int32)), .val (.ref b25), .val (.int ((((0 : Int32) + (1 : Int32)) + (1 : Int32)) + (1 : Int32))), .val (.ref b29), .val (.int (1 : Int32)), .val (.int (1 : Int32)), .val (.int (1 : Int32)), .val (.int (0 : Int32)), .unset] [(.int (0 : Int32)), (.ref b29)]))) (fun t kt => ?_) ?_
                · refine st35.trans ?_
                  show Steps p.tables e below (T35.setTop (mkF m 263 _ [(.int ((((0 : Int32) + (1 : Int32)) + (1 : Int32)) + (1 : Int32)))])) _
                  refine XS.iload X35.here hx rfl (hb hby at_263) rfl ?_
                  show Steps p.tables e below (T35.setTop (mkF m 265 _ [(.int ((((0 : Int32) + (1 : Int32)) + (1 : Int32)) + (1 : Int32))), (.int ((((0 : Int32) + (1 : Int32)) + (1 : Int32)) + (1 : Int32)))])) _
                  refine XS.icmpYes X35.here hx rfl (pc0 := 265) (pc' := 270) rfl (hb hby at_265) rfl (teq (rfl : ((((0 : Int32) + (1 : Int32)) + (1 : Int32)) + (1 : Int32)) = ((((0 : Int32) + (1 : Int32)) + (1 : Int32)) + (1 : Int32)))).1 (by decide) (by decide) ?_
                  show Steps p.tables e below (T35.setTop (mkF m 270 _ [])) _
                  refine XS.aload X35.here hx rfl (hb hby at_270) rfl rfl ?_
                  show Steps p.tables e below (T35.setTop (mkF m 272 _ [(.ref b29)])) _
                  refine XS.iconst X35.here hx rfl (hb hby at_272) ?_
                  exact kt
                have pg36 : (own_upd (own_upd (own_upd (fun _ => (0 : Int32)) ((0 : Int32)).toNatClampNeg aa) (((0 : Int32) + (1 : Int32))).toNatClampNeg bb) ((((0 : Int32) + (1 : Int32)) + (1 : Int32))).toNatClampNeg cc) ((0 : Int32)).toNatClampNeg = aa := ((own_upd_ne (by decide)).trans ((own_upd_ne (by decide)).trans (own_upd_hit (by decide))))
                obtain ⟨cq36, kq36, q36a, q36b, q36c⟩ := isOf hZ e35 M33.1
                obtain ⟨_, _, ⟨T36, L36, k36, n36⟩, -, X36, ⟨Lc36, hQ36, l36, y36, z36⟩, st36⟩ := X35.virtualBack hx (y := (⟨"com/example/faregraph/faregraph/search/Members", "get", "(I)I"⟩ : MethodName)) (z := (⟨"com/example/faregraph/faregraph/search/Members", "get", "(I)I"⟩ : MethodName)) hown (mvT hZ (hw _ (List.mem_of_getElem? (i := 28) rfl))) (mvT hZ (hw _ (List.mem_of_getElem? (i := 29) rfl))) (notFace_of_selects (args := #[]) (mvT hZ (hw _ (List.mem_of_getElem? (i := 31) rfl)))) (mvT hZ (hw _ (List.mem_of_getElem? (i := 31) rfl))) (mvT hZ (hw _ (List.mem_of_getElem? (i := 30) rfl))) (by decide) (backOf (W := 0) (rm5 l Z a0 hw [] b29 mb mc nn ((((0 : Int32) + (1 : Int32)) + (1 : Int32)) + (1 : Int32)) (own_upd (own_upd (own_upd (fun _ => (0 : Int32)) (aa).toNatClampNeg 1) (bb).toNatClampNeg 1) (cc).toNatClampNeg 1) (own_upd (own_upd (own_upd (fun _ => (0 : Int32)) ((0 : Int32)).toNatClampNeg aa) (((0 : Int32) + (1 : Int32))).toNatClampNeg bb) ((((0 : Int32) + (1 : Int32)) + (1 : Int32))).toNatClampNeg cc) (0 : Int32) aa T33.heap n0 (Nat.le_trans (Nat.le_trans (Nat.le_trans (Nat.le_trans (Nat.le_trans (Nat.le_trans (Nat.le_trans (Nat.le_trans (Nat.le_trans Z0 E25.1) (Keep.of_wr W26).1) (Keep.of_wr W27).1) (Keep.of_wr W28).1) E29.1) KK30.1) KK31.1) KK32.1) KK33.1) M33 (own_rng' (by have e : ((0 : Int32)).toInt = 0 := (by decide); omega)) pg36) hZ (hw _ (List.mem_of_getElem? (i := 32) rfl)) (hw _ (List.mem_of_getElem? (i := 4) rfl)) (by decide) (by decide)) q36a q36c (g := (mkF m 273 #[.val (.int p1), .val (.int p2), .val (.int p3), .val (.int p4), .val (.int p5), .val (.int nn), .val (.int aa), .val (.int bb), .val (.int cc), .val (.int dd), .val (.int (1 : Int32)), .val (.int (1 : Int32)), .val (.int (0 : Int32)), .val (.ref b25), .val (.int ((((0 : Int32) + (1 : Int32)) + (1 : Int32)) + (1 : Int32))), .val (.ref b29), .val (.int (1 : Int32)), .val (.int (1 : Int32)), .val (.int (1 : Int32)), .val (.int (0 : Int32)), .unset] [(.int (0 : Int32)), (.ref b29)])) rfl (by rw [hml]; rfl) (Steps.refl _) (argsL := [(.int (0 : Int32))]) (rest := []) (lenOf pd_4 rfl) rfl (by show 2 * 0 + _ ≤ _; exact Nat.le_of_eq rfl) (hb hby at_273) (fun _ _ => ⟨rfl, e35, (by decide : 4 + 0 ≤ _), (by decide : 23 + 0 ≤ _)⟩)
                dsimp only [Pt.U, Pt.locs, Pt.cells, Pt.slots] at X36 l36 y36 z36 st36 hQ36
                subst l36 y36 z36
                obtain ⟨rfl, N36q, e36⟩ := hQ36
                have N36 := Fr.app N35 N36q
                refine own_pre (B := (T36.setTop (mkF m 279 #[.val (.int p1), .val (.int p2), .val (.int p3), .val (.int p4), .val (.int p5), .val (.int nn), .val (.int aa), .val (.int bb), .val (.int cc), .val (.int dd), .val (.int (1 : Int32)), .val (.int (1 : Int32)), .val (.int (0 : Int32)), .val (.ref b25), .val (.int ((((0 : Int32) + (1 : Int32)) + (1 : Int32)) + (1 : Int32))), .val (.ref b29), .val (.int (1 : Int32)), .val (.int (1 : Int32)), .val (.int (1 : Int32)), .val (.int (0 : Int32)), .unset] [(.int (0 : Int32)), (.ref b25), (.int aa)]))) (fun t kt => ?_) ?_
                · refine st36.trans ?_
                  show Steps p.tables e below (T36.setTop (mkF m 276 _ [(.int aa)])) _
                  refine XS.aload X36.here hx rfl (hb hby at_276) rfl rfl ?_
                  show Steps p.tables e below (T36.setTop (mkF m 278 _ [(.ref b25), (.int aa)])) _
                  refine XS.iconst X36.here hx rfl (hb hby at_278) ?_
                  exact kt
                have pe38 : (own_upd (own_upd (own_upd (fun _ => (0 : Int32)) ((0 : Int32)).toNatClampNeg aa) (((0 : Int32) + (1 : Int32))).toNatClampNeg bb) ((((0 : Int32) + (1 : Int32)) + (1 : Int32))).toNatClampNeg cc) ((0 : Int32)).toNatClampNeg = aa := ((own_upd_ne (by decide)).trans ((own_upd_ne (by decide)).trans (own_upd_hit (by decide))))
                obtain ⟨cl37, Ar37, S37, P37, H37⟩ := id V_b25_33
                have in37 := inb_of S37 (⟨by decide, by decide⟩ : ¬ (0 : Int32) < 0 ∧ (0 : Int32) < (4 : Int32))
                have at37 : cl37.slots[((0 : Int32)).toNatClampNeg]? = some (.int aa) := (H37 _ (Nat.lt_of_not_le fun y => in37 (Or.inr y))).trans (congrArg (fun z => some (Value.int z)) pe38)
                refine own_pre (B := (T36.setTop (mkF m 304 #[.val (.int p1), .val (.int p2), .val (.int p3), .val (.int p4), .val (.int p5), .val (.int nn), .val (.int aa), .val (.int bb), .val (.int cc), .val (.int dd), .val (.int (1 : Int32)), .val (.int (1 : Int32)), .val (.int (0 : Int32)), .val (.ref b25), .val (.int ((((0 : Int32) + (1 : Int32)) + (1 : Int32)) + (1 : Int32))), .val (.ref b29), .val (.int (1 : Int32)), .val (.int (1 : Int32)), .val (.int (1 : Int32)), .val (.int (0 : Int32)), .val (.int (1 : Int32))] [(.int (1 : Int32)), (.ref b29)]))) (fun t kt => ?_) ?_
                · show Steps p.tables e below (T36.setTop (mkF m 279 _ [(.int (0 : Int32)), (.ref b25), (.int aa)])) _
                  refine X36.iaload hx (j := (0 : Int32)) (v := (.int aa)) (by rw [e36]; exact Ar37.1) (State.isArrayOf_alike hZ.alike Ar37.2.1) Ar37.2.2 in37 at37 (g := (mkF m 279 #[.val (.int p1), .val (.int p2), .val (.int p3), .val (.int p4), .val (.int p5), .val (.int nn), .val (.int aa), .val (.int bb), .val (.int cc), .val (.int dd), .val (.int (1 : Int32)), .val (.int (1 : Int32)), .val (.int (0 : Int32)), .val (.ref b25), .val (.int ((((0 : Int32) + (1 : Int32)) + (1 : Int32)) + (1 : Int32))), .val (.ref b29), .val (.int (1 : Int32)), .val (.int (1 : Int32)), .val (.int (1 : Int32)), .val (.int (0 : Int32)), .unset] [(.int (0 : Int32)), (.ref b25), (.int aa)])) rfl rfl (hb hby at_279) _ ?_
                  show Steps p.tables e below (T36.setTop (mkF m 280 _ [(.int aa), (.int aa)])) _
                  refine XS.icmpNo X36.here hx rfl (hb hby at_280) rfl (teq (rfl : aa = aa)).2 ?_
                  show Steps p.tables e below (T36.setTop (mkF m 283 _ [])) _
                  refine XS.iconst X36.here hx rfl (hb hby at_283) ?_
                  show Steps p.tables e below (T36.setTop (mkF m 284 _ [(.int (1 : Int32))])) _
                  refine XS.goto X36.here hx rfl (pc0 := 284) (pc' := 288) rfl (hb hby at_284) (by decide) (by decide) ?_
                  show Steps p.tables e below (T36.setTop (mkF m 288 _ [(.int (1 : Int32))])) _
                  refine XS.istore X36.here hx rfl (hb hby at_288) rfl (l' := #[.val (.int p1), .val (.int p2), .val (.int p3), .val (.int p4), .val (.int p5), .val (.int nn), .val (.int aa), .val (.int bb), .val (.int cc), .val (.int dd), .val (.int (1 : Int32)), .val (.int (1 : Int32)), .val (.int (0 : Int32)), .val (.ref b25), .val (.int ((((0 : Int32) + (1 : Int32)) + (1 : Int32)) + (1 : Int32))), .val (.ref b29), .val (.int (1 : Int32)), .val (.int (1 : Int32)), .val (.int (1 : Int32)), .val (.int (0 : Int32)), .val (.int (1 : Int32))]) rfl ?_
                  show Steps p.tables e below (T36.setTop (mkF m 290 _ [])) _
                  refine XS.iload X36.here hx rfl (hb hby at_290) rfl ?_
                  show Steps p.tables e below (T36.setTop (mkF m 292 _ [(.int ((((0 : Int32) + (1 : Int32)) + (1 : Int32)) + (1 : Int32)))])) _
                  refine XS.iconst X36.here hx rfl (hb hby at_292) ?_
                  show Steps p.tables e below (T36.setTop (mkF m 293 _ [(.int (1 : Int32)), (.int ((((0 : Int32) + (1 : Int32)) + (1 : Int32)) + (1 : Int32)))])) _
                  refine XS.icmpNo X36.here hx rfl (hb hby at_293) rfl (tlt ((by decide) : (1 : Int32) < ((((0 : Int32) + (1 : Int32)) + (1 : Int32)) + (1 : Int32)))).2.2.2 ?_
                  show Steps p.tables e below (T36.setTop (mkF m 296 _ [])) _
                  refine XS.iload X36.here hx rfl (hb hby at_296) rfl ?_
                  show Steps p.tables e below (T36.setTop (mkF m 298 _ [(.int (1 : Int32))])) _
                  refine XS.ifNo X36.here hx rfl (hb hby at_298) rfl ((if0 _ _).trans (feq ((by decide) : ¬ ((1 : Int32) = (0 : Int32)))).1) ?_
                  show Steps p.tables e below (T36.setTop (mkF m 301 _ [])) _
                  refine XS.aload X36.here hx rfl (hb hby at_301) rfl rfl ?_
                  show Steps p.tables e below (T36.setTop (mkF m 303 _ [(.ref b29)])) _
                  refine XS.iconst X36.here hx rfl (hb hby at_303) ?_
                  exact kt
                have pg39 : (own_upd (own_upd (own_upd (fun _ => (0 : Int32)) ((0 : Int32)).toNatClampNeg aa) (((0 : Int32) + (1 : Int32))).toNatClampNeg bb) ((((0 : Int32) + (1 : Int32)) + (1 : Int32))).toNatClampNeg cc) ((1 : Int32)).toNatClampNeg = bb := ((own_upd_ne (by decide)).trans (own_upd_hit (by decide)))
                obtain ⟨cq39, kq39, q39a, q39b, q39c⟩ := isOf hZ e36 M33.1
                obtain ⟨_, _, ⟨T39, L39, k39, n39⟩, -, X39, ⟨Lc39, hQ39, l39, y39, z39⟩, st39⟩ := X36.virtualBack hx (y := (⟨"com/example/faregraph/faregraph/search/Members", "get", "(I)I"⟩ : MethodName)) (z := (⟨"com/example/faregraph/faregraph/search/Members", "get", "(I)I"⟩ : MethodName)) hown (mvT hZ (hw _ (List.mem_of_getElem? (i := 28) rfl))) (mvT hZ (hw _ (List.mem_of_getElem? (i := 29) rfl))) (notFace_of_selects (args := #[]) (mvT hZ (hw _ (List.mem_of_getElem? (i := 31) rfl)))) (mvT hZ (hw _ (List.mem_of_getElem? (i := 31) rfl))) (mvT hZ (hw _ (List.mem_of_getElem? (i := 30) rfl))) (by decide) (backOf (W := 0) (rm5 l Z a0 hw [] b29 mb mc nn ((((0 : Int32) + (1 : Int32)) + (1 : Int32)) + (1 : Int32)) (own_upd (own_upd (own_upd (fun _ => (0 : Int32)) (aa).toNatClampNeg 1) (bb).toNatClampNeg 1) (cc).toNatClampNeg 1) (own_upd (own_upd (own_upd (fun _ => (0 : Int32)) ((0 : Int32)).toNatClampNeg aa) (((0 : Int32) + (1 : Int32))).toNatClampNeg bb) ((((0 : Int32) + (1 : Int32)) + (1 : Int32))).toNatClampNeg cc) (1 : Int32) bb T33.heap n0 (Nat.le_trans (Nat.le_trans (Nat.le_trans (Nat.le_trans (Nat.le_trans (Nat.le_trans (Nat.le_trans (Nat.le_trans (Nat.le_trans Z0 E25.1) (Keep.of_wr W26).1) (Keep.of_wr W27).1) (Keep.of_wr W28).1) E29.1) KK30.1) KK31.1) KK32.1) KK33.1) M33 (own_rng' (by have e : ((1 : Int32)).toInt = 1 := (by decide); omega)) pg39) hZ (hw _ (List.mem_of_getElem? (i := 32) rfl)) (hw _ (List.mem_of_getElem? (i := 4) rfl)) (by decide) (by decide)) q39a q39c (g := (mkF m 304 #[.val (.int p1), .val (.int p2), .val (.int p3), .val (.int p4), .val (.int p5), .val (.int nn), .val (.int aa), .val (.int bb), .val (.int cc), .val (.int dd), .val (.int (1 : Int32)), .val (.int (1 : Int32)), .val (.int (0 : Int32)), .val (.ref b25), .val (.int ((((0 : Int32) + (1 : Int32)) + (1 : Int32)) + (1 : Int32))), .val (.ref b29), .val (.int (1 : Int32)), .val (.int (1 : Int32)), .val (.int (1 : Int32)), .val (.int (0 : Int32)), .val (.int (1 : Int32))] [(.int (1 : Int32)), (.ref b29)])) rfl (by rw [hml]; rfl) (Steps.refl _) (argsL := [(.int (1 : Int32))]) (rest := []) (lenOf pd_4 rfl) rfl (by show 2 * 0 + _ ≤ _; exact Nat.le_of_eq rfl) (hb hby at_304) (fun _ _ => ⟨rfl, e36, (by decide : 4 + 0 ≤ _), (by decide : 23 + 0 ≤ _)⟩)
                dsimp only [Pt.U, Pt.locs, Pt.cells, Pt.slots] at X39 l39 y39 z39 st39 hQ39
                subst l39 y39 z39
                obtain ⟨rfl, N39q, e39⟩ := hQ39
                have N39 := Fr.app N36 N39q
                refine own_pre (B := (T39.setTop (mkF m 310 #[.val (.int p1), .val (.int p2), .val (.int p3), .val (.int p4), .val (.int p5), .val (.int nn), .val (.int aa), .val (.int bb), .val (.int cc), .val (.int dd), .val (.int (1 : Int32)), .val (.int (1 : Int32)), .val (.int (0 : Int32)), .val (.ref b25), .val (.int ((((0 : Int32) + (1 : Int32)) + (1 : Int32)) + (1 : Int32))), .val (.ref b29), .val (.int (1 : Int32)), .val (.int (1 : Int32)), .val (.int (1 : Int32)), .val (.int (0 : Int32)), .val (.int (1 : Int32))] [(.int (1 : Int32)), (.ref b25), (.int bb)]))) (fun t kt => ?_) ?_
                · refine st39.trans ?_
                  show Steps p.tables e below (T39.setTop (mkF m 307 _ [(.int bb)])) _
                  refine XS.aload X39.here hx rfl (hb hby at_307) rfl rfl ?_
                  show Steps p.tables e below (T39.setTop (mkF m 309 _ [(.ref b25), (.int bb)])) _
                  refine XS.iconst X39.here hx rfl (hb hby at_309) ?_
                  exact kt
                have pe41 : (own_upd (own_upd (own_upd (fun _ => (0 : Int32)) ((0 : Int32)).toNatClampNeg aa) (((0 : Int32) + (1 : Int32))).toNatClampNeg bb) ((((0 : Int32) + (1 : Int32)) + (1 : Int32))).toNatClampNeg cc) ((1 : Int32)).toNatClampNeg = bb := ((own_upd_ne (by decide)).trans (own_upd_hit (by decide)))
                obtain ⟨cl40, Ar40, S40, P40, H40⟩ := id V_b25_33
                have in40 := inb_of S40 (⟨by decide, by decide⟩ : ¬ (1 : Int32) < 0 ∧ (1 : Int32) < (4 : Int32))
                have at40 : cl40.slots[((1 : Int32)).toNatClampNeg]? = some (.int bb) := (H40 _ (Nat.lt_of_not_le fun y => in40 (Or.inr y))).trans (congrArg (fun z => some (Value.int z)) pe41)
                refine own_pre (B := (T39.setTop (mkF m 335 #[.val (.int p1), .val (.int p2), .val (.int p3), .val (.int p4), .val (.int p5), .val (.int nn), .val (.int aa), .val (.int bb), .val (.int cc), .val (.int dd), .val (.int (1 : Int32)), .val (.int (1 : Int32)), .val (.int (0 : Int32)), .val (.ref b25), .val (.int ((((0 : Int32) + (1 : Int32)) + (1 : Int32)) + (1 : Int32))), .val (.ref b29), .val (.int (1 : Int32)), .val (.int (1 : Int32)), .val (.int (1 : Int32)), .val (.int (0 : Int32)), .val (.int (1 : Int32))] [(.int (2 : Int32)), (.ref b29)]))) (fun t kt => ?_) ?_
                · show Steps p.tables e below (T39.setTop (mkF m 310 _ [(.int (1 : Int32)), (.ref b25), (.int bb)])) _
                  refine X39.iaload hx (j := (1 : Int32)) (v := (.int bb)) (by rw [e39]; exact Ar40.1) (State.isArrayOf_alike hZ.alike Ar40.2.1) Ar40.2.2 in40 at40 (g := (mkF m 310 #[.val (.int p1), .val (.int p2), .val (.int p3), .val (.int p4), .val (.int p5), .val (.int nn), .val (.int aa), .val (.int bb), .val (.int cc), .val (.int dd), .val (.int (1 : Int32)), .val (.int (1 : Int32)), .val (.int (0 : Int32)), .val (.ref b25), .val (.int ((((0 : Int32) + (1 : Int32)) + (1 : Int32)) + (1 : Int32))), .val (.ref b29), .val (.int (1 : Int32)), .val (.int (1 : Int32)), .val (.int (1 : Int32)), .val (.int (0 : Int32)), .val (.int (1 : Int32))] [(.int (1 : Int32)), (.ref b25), (.int bb)])) rfl rfl (hb hby at_310) _ ?_
                  show Steps p.tables e below (T39.setTop (mkF m 311 _ [(.int bb), (.int bb)])) _
                  refine XS.icmpNo X39.here hx rfl (hb hby at_311) rfl (teq (rfl : bb = bb)).2 ?_
                  show Steps p.tables e below (T39.setTop (mkF m 314 _ [])) _
                  refine XS.iconst X39.here hx rfl (hb hby at_314) ?_
                  show Steps p.tables e below (T39.setTop (mkF m 315 _ [(.int (1 : Int32))])) _
                  refine XS.goto X39.here hx rfl (pc0 := 315) (pc' := 319) rfl (hb hby at_315) (by decide) (by decide) ?_
                  show Steps p.tables e below (T39.setTop (mkF m 319 _ [(.int (1 : Int32))])) _
                  refine XS.istore X39.here hx rfl (hb hby at_319) rfl (l' := #[.val (.int p1), .val (.int p2), .val (.int p3), .val (.int p4), .val (.int p5), .val (.int nn), .val (.int aa), .val (.int bb), .val (.int cc), .val (.int dd), .val (.int (1 : Int32)), .val (.int (1 : Int32)), .val (.int (0 : Int32)), .val (.ref b25), .val (.int ((((0 : Int32) + (1 : Int32)) + (1 : Int32)) + (1 : Int32))), .val (.ref b29), .val (.int (1 : Int32)), .val (.int (1 : Int32)), .val (.int (1 : Int32)), .val (.int (0 : Int32)), .val (.int (1 : Int32))]) rfl ?_
                  show Steps p.tables e below (T39.setTop (mkF m 321 _ [])) _
                  refine XS.iload X39.here hx rfl (hb hby at_321) rfl ?_
                  show Steps p.tables e below (T39.setTop (mkF m 323 _ [(.int ((((0 : Int32) + (1 : Int32)) + (1 : Int32)) + (1 : Int32)))])) _
                  refine XS.iconst X39.here hx rfl (hb hby at_323) ?_
                  show Steps p.tables e below (T39.setTop (mkF m 324 _ [(.int (2 : Int32)), (.int ((((0 : Int32) + (1 : Int32)) + (1 : Int32)) + (1 : Int32)))])) _
                  refine XS.icmpNo X39.here hx rfl (hb hby at_324) rfl (tlt ((by decide) : (2 : Int32) < ((((0 : Int32) + (1 : Int32)) + (1 : Int32)) + (1 : Int32)))).2.2.2 ?_
                  show Steps p.tables e below (T39.setTop (mkF m 327 _ [])) _
                  refine XS.iload X39.here hx rfl (hb hby at_327) rfl ?_
                  show Steps p.tables e below (T39.setTop (mkF m 329 _ [(.int (1 : Int32))])) _
                  refine XS.ifNo X39.here hx rfl (hb hby at_329) rfl ((if0 _ _).trans (feq ((by decide) : ¬ ((1 : Int32) = (0 : Int32)))).1) ?_
                  show Steps p.tables e below (T39.setTop (mkF m 332 _ [])) _
                  refine XS.aload X39.here hx rfl (hb hby at_332) rfl rfl ?_
                  show Steps p.tables e below (T39.setTop (mkF m 334 _ [(.ref b29)])) _
                  refine XS.iconst X39.here hx rfl (hb hby at_334) ?_
                  exact kt
                have pg42 : (own_upd (own_upd (own_upd (fun _ => (0 : Int32)) ((0 : Int32)).toNatClampNeg aa) (((0 : Int32) + (1 : Int32))).toNatClampNeg bb) ((((0 : Int32) + (1 : Int32)) + (1 : Int32))).toNatClampNeg cc) ((2 : Int32)).toNatClampNeg = cc := (own_upd_hit (by decide))
                obtain ⟨cq42, kq42, q42a, q42b, q42c⟩ := isOf hZ e39 M33.1
                obtain ⟨_, _, ⟨T42, L42, k42, n42⟩, -, X42, ⟨Lc42, hQ42, l42, y42, z42⟩, st42⟩ := X39.virtualBack hx (y := (⟨"com/example/faregraph/faregraph/search/Members", "get", "(I)I"⟩ : MethodName)) (z := (⟨"com/example/faregraph/faregraph/search/Members", "get", "(I)I"⟩ : MethodName)) hown (mvT hZ (hw _ (List.mem_of_getElem? (i := 28) rfl))) (mvT hZ (hw _ (List.mem_of_getElem? (i := 29) rfl))) (notFace_of_selects (args := #[]) (mvT hZ (hw _ (List.mem_of_getElem? (i := 31) rfl)))) (mvT hZ (hw _ (List.mem_of_getElem? (i := 31) rfl))) (mvT hZ (hw _ (List.mem_of_getElem? (i := 30) rfl))) (by decide) (backOf (W := 0) (rm5 l Z a0 hw [] b29 mb mc nn ((((0 : Int32) + (1 : Int32)) + (1 : Int32)) + (1 : Int32)) (own_upd (own_upd (own_upd (fun _ => (0 : Int32)) (aa).toNatClampNeg 1) (bb).toNatClampNeg 1) (cc).toNatClampNeg 1) (own_upd (own_upd (own_upd (fun _ => (0 : Int32)) ((0 : Int32)).toNatClampNeg aa) (((0 : Int32) + (1 : Int32))).toNatClampNeg bb) ((((0 : Int32) + (1 : Int32)) + (1 : Int32))).toNatClampNeg cc) (2 : Int32) cc T33.heap n0 (Nat.le_trans (Nat.le_trans (Nat.le_trans (Nat.le_trans (Nat.le_trans (Nat.le_trans (Nat.le_trans (Nat.le_trans (Nat.le_trans Z0 E25.1) (Keep.of_wr W26).1) (Keep.of_wr W27).1) (Keep.of_wr W28).1) E29.1) KK30.1) KK31.1) KK32.1) KK33.1) M33 (own_rng' (by have e : ((2 : Int32)).toInt = 2 := (by decide); omega)) pg42) hZ (hw _ (List.mem_of_getElem? (i := 32) rfl)) (hw _ (List.mem_of_getElem? (i := 4) rfl)) (by decide) (by decide)) q42a q42c (g := (mkF m 335 #[.val (.int p1), .val (.int p2), .val (.int p3), .val (.int p4), .val (.int p5), .val (.int nn), .val (.int aa), .val (.int bb), .val (.int cc), .val (.int dd), .val (.int (1 : Int32)), .val (.int (1 : Int32)), .val (.int (0 : Int32)), .val (.ref b25), .val (.int ((((0 : Int32) + (1 : Int32)) + (1 : Int32)) + (1 : Int32))), .val (.ref b29), .val (.int (1 : Int32)), .val (.int (1 : Int32)), .val (.int (1 : Int32)), .val (.int (0 : Int32)), .val (.int (1 : Int32))] [(.int (2 : Int32)), (.ref b29)])) rfl (by rw [hml]; rfl) (Steps.refl _) (argsL := [(.int (2 : Int32))]) (rest := []) (lenOf pd_4 rfl) rfl (by show 2 * 0 + _ ≤ _; exact Nat.le_of_eq rfl) (hb hby at_335) (fun _ _ => ⟨rfl, e39, (by decide : 4 + 0 ≤ _), (by decide : 23 + 0 ≤ _)⟩)
                dsimp only [Pt.U, Pt.locs, Pt.cells, Pt.slots] at X42 l42 y42 z42 st42 hQ42
                subst l42 y42 z42
                obtain ⟨rfl, N42q, e42⟩ := hQ42
                have N42 := Fr.app N39 N42q
                refine own_pre (B := (T42.setTop (mkF m 341 #[.val (.int p1), .val (.int p2), .val (.int p3), .val (.int p4), .val (.int p5), .val (.int nn), .val (.int aa), .val (.int bb), .val (.int cc), .val (.int dd), .val (.int (1 : Int32)), .val (.int (1 : Int32)), .val (.int (0 : Int32)), .val (.ref b25), .val (.int ((((0 : Int32) + (1 : Int32)) + (1 : Int32)) + (1 : Int32))), .val (.ref b29), .val (.int (1 : Int32)), .val (.int (1 : Int32)), .val (.int (1 : Int32)), .val (.int (0 : Int32)), .val (.int (1 : Int32))] [(.int (2 : Int32)), (.ref b25), (.int cc)]))) (fun t kt => ?_) ?_
                · refine st42.trans ?_
                  show Steps p.tables e below (T42.setTop (mkF m 338 _ [(.int cc)])) _
                  refine XS.aload X42.here hx rfl (hb hby at_338) rfl rfl ?_
                  show Steps p.tables e below (T42.setTop (mkF m 340 _ [(.ref b25), (.int cc)])) _
                  refine XS.iconst X42.here hx rfl (hb hby at_340) ?_
                  exact kt
                have pe44 : (own_upd (own_upd (own_upd (fun _ => (0 : Int32)) ((0 : Int32)).toNatClampNeg aa) (((0 : Int32) + (1 : Int32))).toNatClampNeg bb) ((((0 : Int32) + (1 : Int32)) + (1 : Int32))).toNatClampNeg cc) ((2 : Int32)).toNatClampNeg = cc := (own_upd_hit (by decide))
                obtain ⟨cl43, Ar43, S43, P43, H43⟩ := id V_b25_33
                have in43 := inb_of S43 (⟨by decide, by decide⟩ : ¬ (2 : Int32) < 0 ∧ (2 : Int32) < (4 : Int32))
                have at43 : cl43.slots[((2 : Int32)).toNatClampNeg]? = some (.int cc) := (H43 _ (Nat.lt_of_not_le fun y => in43 (Or.inr y))).trans (congrArg (fun z => some (Value.int z)) pe44)
                refine own_pre (B := (T42.setTop (mkF m 385 #[.val (.int p1), .val (.int p2), .val (.int p3), .val (.int p4), .val (.int p5), .val (.int nn), .val (.int aa), .val (.int bb), .val (.int cc), .val (.int dd), .val (.int (1 : Int32)), .val (.int (1 : Int32)), .val (.int (0 : Int32)), .val (.ref b25), .val (.int ((((0 : Int32) + (1 : Int32)) + (1 : Int32)) + (1 : Int32))), .val (.ref b29), .val (.int (1 : Int32)), .val (.int (1 : Int32)), .val (.int (1 : Int32)), .val (.int (0 : Int32)), .val (.int (1 : Int32))] [(.int (1 : Int32))]))) (fun t kt => ?_) ?_
                · show Steps p.tables e below (T42.setTop (mkF m 341 _ [(.int (2 : Int32)), (.ref b25), (.int cc)])) _
                  refine X42.iaload hx (j := (2 : Int32)) (v := (.int cc)) (by rw [e42]; exact Ar43.1) (State.isArrayOf_alike hZ.alike Ar43.2.1) Ar43.2.2 in43 at43 (g := (mkF m 341 #[.val (.int p1), .val (.int p2), .val (.int p3), .val (.int p4), .val (.int p5), .val (.int nn), .val (.int aa), .val (.int bb), .val (.int cc), .val (.int dd), .val (.int (1 : Int32)), .val (.int (1 : Int32)), .val (.int (0 : Int32)), .val (.ref b25), .val (.int ((((0 : Int32) + (1 : Int32)) + (1 : Int32)) + (1 : Int32))), .val (.ref b29), .val (.int (1 : Int32)), .val (.int (1 : Int32)), .val (.int (1 : Int32)), .val (.int (0 : Int32)), .val (.int (1 : Int32))] [(.int (2 : Int32)), (.ref b25), (.int cc)])) rfl rfl (hb hby at_341) _ ?_
                  show Steps p.tables e below (T42.setTop (mkF m 342 _ [(.int cc), (.int cc)])) _
                  refine XS.icmpNo X42.here hx rfl (hb hby at_342) rfl (teq (rfl : cc = cc)).2 ?_
                  show Steps p.tables e below (T42.setTop (mkF m 345 _ [])) _
                  refine XS.iconst X42.here hx rfl (hb hby at_345) ?_
                  show Steps p.tables e below (T42.setTop (mkF m 346 _ [(.int (1 : Int32))])) _
                  refine XS.goto X42.here hx rfl (pc0 := 346) (pc' := 350) rfl (hb hby at_346) (by decide) (by decide) ?_
                  show Steps p.tables e below (T42.setTop (mkF m 350 _ [(.int (1 : Int32))])) _
                  refine XS.istore X42.here hx rfl (hb hby at_350) rfl (l' := #[.val (.int p1), .val (.int p2), .val (.int p3), .val (.int p4), .val (.int p5), .val (.int nn), .val (.int aa), .val (.int bb), .val (.int cc), .val (.int dd), .val (.int (1 : Int32)), .val (.int (1 : Int32)), .val (.int (0 : Int32)), .val (.ref b25), .val (.int ((((0 : Int32) + (1 : Int32)) + (1 : Int32)) + (1 : Int32))), .val (.ref b29), .val (.int (1 : Int32)), .val (.int (1 : Int32)), .val (.int (1 : Int32)), .val (.int (0 : Int32)), .val (.int (1 : Int32))]) rfl ?_
                  show Steps p.tables e below (T42.setTop (mkF m 352 _ [])) _
                  refine XS.iload X42.here hx rfl (hb hby at_352) rfl ?_
                  show Steps p.tables e below (T42.setTop (mkF m 354 _ [(.int ((((0 : Int32) + (1 : Int32)) + (1 : Int32)) + (1 : Int32)))])) _
                  refine XS.iconst X42.here hx rfl (hb hby at_354) ?_
                  show Steps p.tables e below (T42.setTop (mkF m 355 _ [(.int (3 : Int32)), (.int ((((0 : Int32) + (1 : Int32)) + (1 : Int32)) + (1 : Int32)))])) _
                  refine XS.icmpYes X42.here hx rfl (pc0 := 355) (pc' := 383) rfl (hb hby at_355) rfl (flt ((by decide) : ¬ ((3 : Int32) < ((((0 : Int32) + (1 : Int32)) + (1 : Int32)) + (1 : Int32))))).2.2.2 (by decide) (by decide) ?_
                  show Steps p.tables e below (T42.setTop (mkF m 383 _ [])) _
                  refine XS.iload X42.here hx rfl (hb hby at_383) rfl ?_
                  exact kt
                exact own_fin X42 (some (.int (1 : Int32))) (fun h => by rw [Bd.returns] at h; cases h) (BodyLoose.notSynchronized Bd) e42 (fun fs hr => retN X42 hx (t := .boolean) Bd.returns (by simp) (hb hby at_385) hr) ⟨rfl, N42⟩ (by decide) (by decide)
            · rcases hed with ⟨rfl, hqed⟩ | ⟨rfl, hqed⟩
              · refine own_pre (B := (s₁.setTop (mkF m 109 #[.val (.int p1), .val (.int p2), .val (.int p3), .val (.int p4), .val (.int p5), .val (.int nn), .val (.int aa), .val (.int bb), .val (.int cc), .val (.int dd), .val (.int (1 : Int32)), .val (.int (0 : Int32)), .val (.int (1 : Int32)), .unset, .unset, .unset, .unset, .unset, .unset, .unset, .unset] [(.int (4 : Int32))]))) (fun t kt => ?_) ?_
                · show Steps p.tables e below (s₁.setTop (mkF m 108 _ [])) _
                  refine XS.iconst X0.here hx rfl (hb hby at_108) ?_
                  exact kt
                obtain ⟨T45, h45, k45, X45, e45, E45, A45, st45⟩ := newP X0 hx hZ (hw _ (List.mem_of_getElem? (i := 1) rfl)) e0 (g := (mkF m 109 #[.val (.int p1), .val (.int p2), .val (.int p3), .val (.int p4), .val (.int p5), .val (.int nn), .val (.int aa), .val (.int bb), .val (.int cc), .val (.int dd), .val (.int (1 : Int32)), .val (.int (0 : Int32)), .val (.int (1 : Int32)), .unset, .unset, .unset, .unset, .unset, .unset, .unset, .unset] [(.int (4 : Int32))])) rfl (hb hby at_109) rfl (by decide) (cap := 4) (by decide) (by decide) (by decide) (by decide)
                obtain ⟨b45, g45⟩ : ∃ z, z = h0.size := ⟨_, rfl⟩
                have g_b45 : n0 ≤ b45 := Nat.le_trans Z0 (Nat.le_of_eq g45.symm)
                have sz_b45 : h0.size ≤ b45 := Nat.le_trans (Keep.refl h0 []).1 (Nat.le_of_eq g45.symm)
                rw [← g45] at A45 st45
                have K45 := Keep.ext (Keep.refl h0 []) E45
                have V_b45 := own_Arr.new A45 (by decide) rfl
                refine own_pre (B := (T45.setTop (mkF m 122 #[.val (.int p1), .val (.int p2), .val (.int p3), .val (.int p4), .val (.int p5), .val (.int nn), .val (.int aa), .val (.int bb), .val (.int cc), .val (.int dd), .val (.int (1 : Int32)), .val (.int (0 : Int32)), .val (.int (1 : Int32)), .val (.ref b45), .val (.int (0 : Int32)), .unset, .unset, .unset, .unset, .unset, .unset] [(.int aa), (.int (0 : Int32)), (.ref b45)]))) (fun t kt => ?_) ?_
                · show Steps p.tables e below (s₁.setTop (mkF m 109 _ [(.int (4 : Int32))])) _
                  refine st45 _ ?_
                  show Steps p.tables e below (T45.setTop (mkF m 111 _ [(.ref b45)])) _
                  refine XS.astore X45.here hx rfl (hb hby at_111) rfl rfl (l' := #[.val (.int p1), .val (.int p2), .val (.int p3), .val (.int p4), .val (.int p5), .val (.int nn), .val (.int aa), .val (.int bb), .val (.int cc), .val (.int dd), .val (.int (1 : Int32)), .val (.int (0 : Int32)), .val (.int (1 : Int32)), .val (.ref b45), .unset, .unset, .unset, .unset, .unset, .unset, .unset]) rfl ?_
                  show Steps p.tables e below (T45.setTop (mkF m 113 _ [])) _
                  refine XS.iconst X45.here hx rfl (hb hby at_113) ?_
                  show Steps p.tables e below (T45.setTop (mkF m 114 _ [(.int (0 : Int32))])) _
                  refine XS.istore X45.here hx rfl (hb hby at_114) rfl (l' := #[.val (.int p1), .val (.int p2), .val (.int p3), .val (.int p4), .val (.int p5), .val (.int nn), .val (.int aa), .val (.int bb), .val (.int cc), .val (.int dd), .val (.int (1 : Int32)), .val (.int (0 : Int32)), .val (.int (1 : Int32)), .val (.ref b45), .val (.int (0 : Int32)), .unset, .unset, .unset, .unset, .unset, .unset]) rfl ?_
                  show Steps p.tables e below (T45.setTop (mkF m 116 _ [])) _
                  refine XS.aload X45.here hx rfl (hb hby at_116) rfl rfl ?_
                  show Steps p.tables e below (T45.setTop (mkF m 118 _ [(.ref b45)])) _
                  refine XS.iload X45.here hx rfl (hb hby at_118) rfl ?_
                  show Steps p.tables e below (T45.setTop (mkF m 120 _ [(.int (0 : Int32)), (.ref b45)])) _
                  refine XS.iload X45.here hx rfl (hb hby at_120) rfl ?_
                  exact kt
                obtain ⟨cl46, Ar46, S46, P46, H46⟩ := id V_b45
                have in46 := inb_of S46 (⟨by decide, by decide⟩ : ¬ (0 : Int32) < 0 ∧ (0 : Int32) < (4 : Int32))
                obtain ⟨T46, h46, X46, e46, W46, st46⟩ := stI X45 hx hZ e45 Ar46 (j := (0 : Int32)) in46 (g := (mkF m 122 #[.val (.int p1), .val (.int p2), .val (.int p3), .val (.int p4), .val (.int p5), .val (.int nn), .val (.int aa), .val (.int bb), .val (.int cc), .val (.int dd), .val (.int (1 : Int32)), .val (.int (0 : Int32)), .val (.int (1 : Int32)), .val (.ref b45), .val (.int (0 : Int32)), .unset, .unset, .unset, .unset, .unset, .unset] [(.int aa), (.int (0 : Int32)), (.ref b45)])) rfl rfl (hb hby at_122)
                have V_b45_46 := V_b45.set W46
                have N46 := Fr.snoc X46 N0 g_b45
                have K46 := Keep.wr K45 W46 (Or.inr sz_b45)
                refine own_pre (B := (T46.setTop (mkF m 140 #[.val (.int p1), .val (.int p2), .val (.int p3), .val (.int p4), .val (.int p5), .val (.int nn), .val (.int aa), .val (.int bb), .val (.int cc), .val (.int dd), .val (.int (1 : Int32)), .val (.int (0 : Int32)), .val (.int (1 : Int32)), .val (.ref b45), .val (.int ((0 : Int32) + (1 : Int32))), .unset, .unset, .unset, .unset, .unset, .unset] [(.int bb), (.int ((0 : Int32) + (1 : Int32))), (.ref b45)]))) (fun t kt => ?_) ?_
                · show Steps p.tables e below (T45.setTop (mkF m 122 _ [(.int aa), (.int (0 : Int32)), (.ref b45)])) _
                  refine st46 _ ?_
                  show Steps p.tables e below (T46.setTop (mkF m 123 _ [])) _
                  refine XS.iload X46.here hx rfl (hb hby at_123) rfl ?_
                  show Steps p.tables e below (T46.setTop (mkF m 125 _ [(.int (0 : Int32))])) _
                  refine XS.iconst X46.here hx rfl (hb hby at_125) ?_
                  show Steps p.tables e below (T46.setTop (mkF m 126 _ [(.int (1 : Int32)), (.int (0 : Int32))])) _
                  refine XS.iadd X46.here hx rfl (hb hby at_126) rfl ?_
                  show Steps p.tables e below (T46.setTop (mkF m 127 _ [(.int ((0 : Int32) + (1 : Int32)))])) _
                  refine XS.istore X46.here hx rfl (hb hby at_127) rfl (l' := #[.val (.int p1), .val (.int p2), .val (.int p3), .val (.int p4), .val (.int p5), .val (.int nn), .val (.int aa), .val (.int bb), .val (.int cc), .val (.int dd), .val (.int (1 : Int32)), .val (.int (0 : Int32)), .val (.int (1 : Int32)), .val (.ref b45), .val (.int ((0 : Int32) + (1 : Int32))), .unset, .unset, .unset, .unset, .unset, .unset]) rfl ?_
                  show Steps p.tables e below (T46.setTop (mkF m 129 _ [])) _
                  refine XS.iload X46.here hx rfl (hb hby at_129) rfl ?_
                  show Steps p.tables e below (T46.setTop (mkF m 131 _ [(.int (1 : Int32))])) _
                  refine XS.ifNo X46.here hx rfl (hb hby at_131) rfl ((if0 _ _).trans (feq ((by decide) : ¬ ((1 : Int32) = (0 : Int32)))).1) ?_
                  show Steps p.tables e below (T46.setTop (mkF m 134 _ [])) _
                  refine XS.aload X46.here hx rfl (hb hby at_134) rfl rfl ?_
                  show Steps p.tables e below (T46.setTop (mkF m 136 _ [(.ref b45)])) _
                  refine XS.iload X46.here hx rfl (hb hby at_136) rfl ?_
                  show Steps p.tables e below (T46.setTop (mkF m 138 _ [(.int ((0 : Int32) + (1 : Int32))), (.ref b45)])) _
                  refine XS.iload X46.here hx rfl (hb hby at_138) rfl ?_
                  exact kt
                obtain ⟨cl47, Ar47, S47, P47, H47⟩ := id V_b45_46
                have in47 := inb_of S47 (⟨by decide, by decide⟩ : ¬ ((0 : Int32) + (1 : Int32)) < 0 ∧ ((0 : Int32) + (1 : Int32)) < (4 : Int32))
                obtain ⟨T47, h47, X47, e47, W47, st47⟩ := stI X46 hx hZ e46 Ar47 (j := ((0 : Int32) + (1 : Int32))) in47 (g := (mkF m 140 #[.val (.int p1), .val (.int p2), .val (.int p3), .val (.int p4), .val (.int p5), .val (.int nn), .val (.int aa), .val (.int bb), .val (.int cc), .val (.int dd), .val (.int (1 : Int32)), .val (.int (0 : Int32)), .val (.int (1 : Int32)), .val (.ref b45), .val (.int ((0 : Int32) + (1 : Int32))), .unset, .unset, .unset, .unset, .unset, .unset] [(.int bb), (.int ((0 : Int32) + (1 : Int32))), (.ref b45)])) rfl rfl (hb hby at_140)
                have V_b45_47 := V_b45_46.set W47
                have N47 := Fr.snoc X47 N46 g_b45
                have K47 := Keep.wr K46 W47 (Or.inr sz_b45)
                refine own_pre (B := (T47.setTop (mkF m 176 #[.val (.int p1), .val (.int p2), .val (.int p3), .val (.int p4), .val (.int p5), .val (.int nn), .val (.int aa), .val (.int bb), .val (.int cc), .val (.int dd), .val (.int (1 : Int32)), .val (.int (0 : Int32)), .val (.int (1 : Int32)), .val (.ref b45), .val (.int (((0 : Int32) + (1 : Int32)) + (1 : Int32))), .unset, .unset, .unset, .unset, .unset, .unset] [(.int dd), (.int (((0 : Int32) + (1 : Int32)) + (1 : Int32))), (.ref b45)]))) (fun t kt => ?_) ?_
                · show Steps p.tables e below (T46.setTop (mkF m 140 _ [(.int bb), (.int ((0 : Int32) + (1 : Int32))), (.ref b45)])) _
                  refine st47 _ ?_
                  show Steps p.tables e below (T47.setTop (mkF m 141 _ [])) _
                  refine XS.iload X47.here hx rfl (hb hby at_141) rfl ?_
                  show Steps p.tables e below (T47.setTop (mkF m 143 _ [(.int ((0 : Int32) + (1 : Int32)))])) _
                  refine XS.iconst X47.here hx rfl (hb hby at_143) ?_
                  show Steps p.tables e below (T47.setTop (mkF m 144 _ [(.int (1 : Int32)), (.int ((0 : Int32) + (1 : Int32)))])) _
                  refine XS.iadd X47.here hx rfl (hb hby at_144) rfl ?_
                  show Steps p.tables e below (T47.setTop (mkF m 145 _ [(.int (((0 : Int32) + (1 : Int32)) + (1 : Int32)))])) _
                  refine XS.istore X47.here hx rfl (hb hby at_145) rfl (l' := #[.val (.int p1), .val (.int p2), .val (.int p3), .val (.int p4), .val (.int p5), .val (.int nn), .val (.int aa), .val (.int bb), .val (.int cc), .val (.int dd), .val (.int (1 : Int32)), .val (.int (0 : Int32)), .val (.int (1 : Int32)), .val (.ref b45), .val (.int (((0 : Int32) + (1 : Int32)) + (1 : Int32))), .unset, .unset, .unset, .unset, .unset, .unset]) rfl ?_
                  show Steps p.tables e below (T47.setTop (mkF m 147 _ [])) _
                  refine XS.iload X47.here hx rfl (hb hby at_147) rfl ?_
                  show Steps p.tables e below (T47.setTop (mkF m 149 _ [(.int (0 : Int32))])) _
                  refine XS.ifYes X47.here hx rfl (pc0 := 149) (pc' := 165) rfl (hb hby at_149) rfl ((if0 _ _).trans (teq (rfl : (0 : Int32) = (0 : Int32))).1) (by decide) (by decide) ?_
                  show Steps p.tables e below (T47.setTop (mkF m 165 _ [])) _
                  refine XS.iload X47.here hx rfl (hb hby at_165) rfl ?_
                  show Steps p.tables e below (T47.setTop (mkF m 167 _ [(.int (1 : Int32))])) _
                  refine XS.ifNo X47.here hx rfl (hb hby at_167) rfl ((if0 _ _).trans (feq ((by decide) : ¬ ((1 : Int32) = (0 : Int32)))).1) ?_
                  show Steps p.tables e below (T47.setTop (mkF m 170 _ [])) _
                  refine XS.aload X47.here hx rfl (hb hby at_170) rfl rfl ?_
                  show Steps p.tables e below (T47.setTop (mkF m 172 _ [(.ref b45)])) _
                  refine XS.iload X47.here hx rfl (hb hby at_172) rfl ?_
                  show Steps p.tables e below (T47.setTop (mkF m 174 _ [(.int (((0 : Int32) + (1 : Int32)) + (1 : Int32))), (.ref b45)])) _
                  refine XS.iload X47.here hx rfl (hb hby at_174) rfl ?_
                  exact kt
                obtain ⟨cl48, Ar48, S48, P48, H48⟩ := id V_b45_47
                have in48 := inb_of S48 (⟨by decide, by decide⟩ : ¬ (((0 : Int32) + (1 : Int32)) + (1 : Int32)) < 0 ∧ (((0 : Int32) + (1 : Int32)) + (1 : Int32)) < (4 : Int32))
                obtain ⟨T48, h48, X48, e48, W48, st48⟩ := stI X47 hx hZ e47 Ar48 (j := (((0 : Int32) + (1 : Int32)) + (1 : Int32))) in48 (g := (mkF m 176 #[.val (.int p1), .val (.int p2), .val (.int p3), .val (.int p4), .val (.int p5), .val (.int nn), .val (.int aa), .val (.int bb), .val (.int cc), .val (.int dd), .val (.int (1 : Int32)), .val (.int (0 : Int32)), .val (.int (1 : Int32)), .val (.ref b45), .val (.int (((0 : Int32) + (1 : Int32)) + (1 : Int32))), .unset, .unset, .unset, .unset, .unset, .unset] [(.int dd), (.int (((0 : Int32) + (1 : Int32)) + (1 : Int32))), (.ref b45)])) rfl rfl (hb hby at_176)
                have V_b45_48 := V_b45_47.set W48
                have N48 := Fr.snoc X48 N47 g_b45
                have K48 := Keep.wr K47 W48 (Or.inr sz_b45)
                refine own_pre (B := (T48.setTop (mkF m 183 #[.val (.int p1), .val (.int p2), .val (.int p3), .val (.int p4), .val (.int p5), .val (.int nn), .val (.int aa), .val (.int bb), .val (.int cc), .val (.int dd), .val (.int (1 : Int32)), .val (.int (0 : Int32)), .val (.int (1 : Int32)), .val (.ref b45), .val (.int ((((0 : Int32) + (1 : Int32)) + (1 : Int32)) + (1 : Int32))), .unset, .unset, .unset, .unset, .unset, .unset] []))) (fun t kt => ?_) ?_
                · show Steps p.tables e below (T47.setTop (mkF m 176 _ [(.int dd), (.int (((0 : Int32) + (1 : Int32)) + (1 : Int32))), (.ref b45)])) _
                  refine st48 _ ?_
                  show Steps p.tables e below (T48.setTop (mkF m 177 _ [])) _
                  refine XS.iload X48.here hx rfl (hb hby at_177) rfl ?_
                  show Steps p.tables e below (T48.setTop (mkF m 179 _ [(.int (((0 : Int32) + (1 : Int32)) + (1 : Int32)))])) _
                  refine XS.iconst X48.here hx rfl (hb hby at_179) ?_
                  show Steps p.tables e below (T48.setTop (mkF m 180 _ [(.int (1 : Int32)), (.int (((0 : Int32) + (1 : Int32)) + (1 : Int32)))])) _
                  refine XS.iadd X48.here hx rfl (hb hby at_180) rfl ?_
                  show Steps p.tables e below (T48.setTop (mkF m 181 _ [(.int ((((0 : Int32) + (1 : Int32)) + (1 : Int32)) + (1 : Int32)))])) _
                  refine XS.istore X48.here hx rfl (hb hby at_181) rfl (l' := #[.val (.int p1), .val (.int p2), .val (.int p3), .val (.int p4), .val (.int p5), .val (.int nn), .val (.int aa), .val (.int bb), .val (.int cc), .val (.int dd), .val (.int (1 : Int32)), .val (.int (0 : Int32)), .val (.int (1 : Int32)), .val (.ref b45), .val (.int ((((0 : Int32) + (1 : Int32)) + (1 : Int32)) + (1 : Int32))), .unset, .unset, .unset, .unset, .unset, .unset]) rfl ?_
                  exact kt
                obtain ⟨T49, h49, X49, e49, E49, A49, D49, -, st49⟩ := newO X48 hx hZ hown (hw _ (List.mem_of_getElem? (i := 2) rfl)) (hw _ (List.mem_of_getElem? (i := 3) rfl)) (hw _ (List.mem_of_getElem? (i := 4) rfl)) e48 (g := (mkF m 183 #[.val (.int p1), .val (.int p2), .val (.int p3), .val (.int p4), .val (.int p5), .val (.int nn), .val (.int aa), .val (.int bb), .val (.int cc), .val (.int dd), .val (.int (1 : Int32)), .val (.int (0 : Int32)), .val (.int (1 : Int32)), .val (.ref b45), .val (.int ((((0 : Int32) + (1 : Int32)) + (1 : Int32)) + (1 : Int32))), .unset, .unset, .unset, .unset, .unset, .unset] [])) rfl (hb hby at_183) (by decide) (by decide)
                obtain ⟨b49, g49⟩ : ∃ z, z = h48.size := ⟨_, rfl⟩
                have ne_b45_b49 : b45 ≠ b49 := Nat.ne_of_lt (Nat.lt_of_lt_of_le V_b45_48.lt (Nat.le_of_eq g49.symm))
                have g_b49 : n0 ≤ b49 := Nat.le_trans (Nat.le_trans (Nat.le_trans (Nat.le_trans (Nat.le_trans Z0 E45.1) (Keep.of_wr W46).1) (Keep.of_wr W47).1) (Keep.of_wr W48).1) (Nat.le_of_eq g49.symm)
                have sz_b49 : h0.size ≤ b49 := Nat.le_trans K48.1 (Nat.le_of_eq g49.symm)
                rw [← g49] at A49 D49 st49
                have V_b45_49 := V_b45_48.ext E49
                have K49 := Keep.ext K48 E49
                have E_b49 := A49
                have F_member_b49 : Fld Z h49 b49 "com/example/faregraph/faregraph/search/Members" "member" "[Z" .null := D49 (Or.inr (hw _ (List.mem_of_getElem? (i := 13) rfl))) (ty := (.array .boolean)) (by decide)
                have F_members_b49 : Fld Z h49 b49 "com/example/faregraph/faregraph/search/Members" "members" "[I" .null := D49 (Or.inr (hw _ (List.mem_of_getElem? (i := 15) rfl))) (ty := (.array .int)) (by decide)
                have F_count_b49 : Fld Z h49 b49 "com/example/faregraph/faregraph/search/Members" "count" "I" (.int (0 : Int32)) := D49 (Or.inl (hw _ (List.mem_of_getElem? (i := 22) rfl))) (ty := .int) (by decide)
                refine own_pre (B := (T49.setTop (mkF m 189 #[.val (.int p1), .val (.int p2), .val (.int p3), .val (.int p4), .val (.int p5), .val (.int nn), .val (.int aa), .val (.int bb), .val (.int cc), .val (.int dd), .val (.int (1 : Int32)), .val (.int (0 : Int32)), .val (.int (1 : Int32)), .val (.ref b45), .val (.int ((((0 : Int32) + (1 : Int32)) + (1 : Int32)) + (1 : Int32))), .unset, .unset, .unset, .unset, .unset, .unset] [(.int nn), (.ref b49), (.ref b49)]))) (fun t kt => ?_) ?_
                · show Steps p.tables e below (T48.setTop (mkF m 183 _ [])) _
                  refine st49 _ ?_
                  show Steps p.tables e below (T49.setTop (mkF m 186 _ [(.ref b49)])) _
                  refine XS.dup X49.here hx rfl (hb hby at_186) rfl rfl ?_
                  show Steps p.tables e below (T49.setTop (mkF m 187 _ [(.ref b49), (.ref b49)])) _
                  refine XS.iload X49.here hx rfl (hb hby at_187) rfl ?_
                  exact kt
                obtain ⟨_, _, ⟨T50, L50, k50, n50⟩, -, X50, ⟨Lc50, hQ50, l50, y50, z50⟩, st50⟩ := X49.specialBack hx (y := (⟨"com/example/faregraph/faregraph/search/Members", "<init>", "(I)V"⟩ : MethodName)) rfl hown (mvT hZ (hw _ (List.mem_of_getElem? (i := 5) rfl))) (mvT hZ (hw _ (List.mem_of_getElem? (i := 6) rfl))) (mvT hZ (hw _ (List.mem_of_getElem? (i := 7) rfl))) (by decide) (backOf (W := 1) (rm1 l Z a0 hw [] b49 nn h49 n0 (Nat.le_trans (Nat.le_trans (Nat.le_trans (Nat.le_trans (Nat.le_trans Z0 E45.1) (Keep.of_wr W46).1) (Keep.of_wr W47).1) (Keep.of_wr W48).1) E49.1) E_b49 F_member_b49 F_members_b49 F_count_b49 g_b49 hnn hcap) hZ (hw _ (List.mem_of_getElem? (i := 7) rfl)) (hw _ (List.mem_of_getElem? (i := 4) rfl)) (by decide) (by decide)) (g := (mkF m 189 #[.val (.int p1), .val (.int p2), .val (.int p3), .val (.int p4), .val (.int p5), .val (.int nn), .val (.int aa), .val (.int bb), .val (.int cc), .val (.int dd), .val (.int (1 : Int32)), .val (.int (0 : Int32)), .val (.int (1 : Int32)), .val (.ref b45), .val (.int ((((0 : Int32) + (1 : Int32)) + (1 : Int32)) + (1 : Int32))), .unset, .unset, .unset, .unset, .unset, .unset] [(.int nn), (.ref b49), (.ref b49)])) rfl (by rw [hml]; rfl) (Steps.refl _) (a := b49) (argsL := [(.int nn)]) (rest := [(.ref b49)]) (lenOf pd_0 rfl) rfl (by show 2 * 0 + _ ≤ _; exact Nat.le_of_eq rfl) (hb hby at_189) (fun _ _ => ⟨rfl, e49, (by decide : 2 + 2 ≤ _), (by decide : 7 + 16 ≤ _)⟩)
                dsimp only [Pt.U, Pt.locs, Pt.cells, Pt.slots] at X50 l50 y50 z50 st50 hQ50
                subst l50 y50 z50
                obtain ⟨rfl, N50q, KK50, mb, mc, szb, szc, M50⟩ := hQ50
                have N50 := Fr.app N48 N50q
                have ne_b45_mb : b45 ≠ mb := Nat.ne_of_lt (Nat.lt_of_lt_of_le V_b45_49.lt szb)
                have ne_b45_mc : b45 ≠ mc := Nat.ne_of_lt (Nat.lt_of_lt_of_le V_b45_49.lt szc)
                have g_mb : n0 ≤ mb := Nat.le_trans (Nat.le_trans (Nat.le_trans (Nat.le_trans (Nat.le_trans (Nat.le_trans Z0 E45.1) (Keep.of_wr W46).1) (Keep.of_wr W47).1) (Keep.of_wr W48).1) E49.1) szb
                have g_mc : n0 ≤ mc := Nat.le_trans (Nat.le_trans (Nat.le_trans (Nat.le_trans (Nat.le_trans (Nat.le_trans Z0 E45.1) (Keep.of_wr W46).1) (Keep.of_wr W47).1) (Keep.of_wr W48).1) E49.1) szc
                have sz_mb : h0.size ≤ mb := Nat.le_trans K49.1 szb
                have sz_mc : h0.size ≤ mc := Nat.le_trans K49.1 szc
                have V_b45_50 := V_b45_49.keep KK50 (ninS ne_b45_b49 nin0)
                have E_b49_50 := E_b49.keep KK50
                have KC50 := Keep.trans K49 KK50 (allS (P := fun x => x ∈ [] ∨ h0.size ≤ x) (Or.inr sz_b49) all0)
                refine own_pre (B := (T50.setTop (mkF m 198 #[.val (.int p1), .val (.int p2), .val (.int p3), .val (.int p4), .val (.int p5), .val (.int nn), .val (.int aa), .val (.int bb), .val (.int cc), .val (.int dd), .val (.int (1 : Int32)), .val (.int (0 : Int32)), .val (.int (1 : Int32)), .val (.ref b45), .val (.int ((((0 : Int32) + (1 : Int32)) + (1 : Int32)) + (1 : Int32))), .val (.ref b49), .unset, .unset, .unset, .unset, .unset] [(.int aa), (.ref b49)]))) (fun t kt => ?_) ?_
                · refine st50.trans ?_
                  show Steps p.tables e below (T50.setTop (mkF m 192 _ [(.ref b49)])) _
                  refine XS.astore X50.here hx rfl (hb hby at_192) rfl rfl (l' := #[.val (.int p1), .val (.int p2), .val (.int p3), .val (.int p4), .val (.int p5), .val (.int nn), .val (.int aa), .val (.int bb), .val (.int cc), .val (.int dd), .val (.int (1 : Int32)), .val (.int (0 : Int32)), .val (.int (1 : Int32)), .val (.ref b45), .val (.int ((((0 : Int32) + (1 : Int32)) + (1 : Int32)) + (1 : Int32))), .val (.ref b49), .unset, .unset, .unset, .unset, .unset]) rfl ?_
                  show Steps p.tables e below (T50.setTop (mkF m 194 _ [])) _
                  refine XS.aload X50.here hx rfl (hb hby at_194) rfl rfl ?_
                  show Steps p.tables e below (T50.setTop (mkF m 196 _ [(.ref b49)])) _
                  refine XS.iload X50.here hx rfl (hb hby at_196) rfl ?_
                  exact kt
                have hk0 : ¬ (0 : Int32) < 0 ∧ (0 : Int32) < nn := own_rng' (by have e : ((0 : Int32)).toInt = 0 := (by decide); omega)
                have hf_aa : (fun _ => (0 : Int32)) (aa).toNatClampNeg = 0 := by
                  simp only [own_upd, own_tn]
                obtain ⟨cq51, kq51, q51a, q51b, q51c⟩ := isOf hZ rfl M50.1
                obtain ⟨_, _, ⟨T51, L51, k51, n51⟩, -, X51, ⟨Lc51, hQ51, l51, y51, z51⟩, st51⟩ := X50.virtualBack hx (y := (⟨"com/example/faregraph/faregraph/search/Members", "add", "(I)Z"⟩ : MethodName)) (z := (⟨"com/example/faregraph/faregraph/search/Members", "add", "(I)Z"⟩ : MethodName)) hown (mvT hZ (hw _ (List.mem_of_getElem? (i := 16) rfl))) (mvT hZ (hw _ (List.mem_of_getElem? (i := 17) rfl))) (notFace_of_selects (args := #[]) (mvT hZ (hw _ (List.mem_of_getElem? (i := 19) rfl)))) (mvT hZ (hw _ (List.mem_of_getElem? (i := 19) rfl))) (mvT hZ (hw _ (List.mem_of_getElem? (i := 18) rfl))) (by decide) (backOf (W := 0) (rm3n l Z a0 hw [] b49 mb mc nn (0 : Int32) (fun _ => (0 : Int32)) (fun _ => (0 : Int32)) aa T50.heap n0 (Nat.le_trans (Nat.le_trans (Nat.le_trans (Nat.le_trans (Nat.le_trans (Nat.le_trans Z0 E45.1) (Keep.of_wr W46).1) (Keep.of_wr W47).1) (Keep.of_wr W48).1) E49.1) KK50.1) M50 ra hk0 hf_aa) hZ (hw _ (List.mem_of_getElem? (i := 20) rfl)) (hw _ (List.mem_of_getElem? (i := 4) rfl)) (by decide) (by decide)) q51a q51c (g := (mkF m 198 #[.val (.int p1), .val (.int p2), .val (.int p3), .val (.int p4), .val (.int p5), .val (.int nn), .val (.int aa), .val (.int bb), .val (.int cc), .val (.int dd), .val (.int (1 : Int32)), .val (.int (0 : Int32)), .val (.int (1 : Int32)), .val (.ref b45), .val (.int ((((0 : Int32) + (1 : Int32)) + (1 : Int32)) + (1 : Int32))), .val (.ref b49), .unset, .unset, .unset, .unset, .unset] [(.int aa), (.ref b49)])) rfl (by rw [hml]; rfl) (Steps.refl _) (argsL := [(.int aa)]) (rest := []) (lenOf pd_2 rfl) rfl (by show 2 * 0 + _ ≤ _; exact Nat.le_of_eq rfl) (hb hby at_198) (fun _ _ => ⟨rfl, rfl, (by decide : 4 + 0 ≤ _), (by decide : 23 + 0 ≤ _)⟩)
                dsimp only [Pt.U, Pt.locs, Pt.cells, Pt.slots] at X51 l51 y51 z51 st51 hQ51
                subst l51 y51 z51
                obtain ⟨rfl, N51q, KK51, M51⟩ := hQ51
                have N51 := Fr.app N50 N51q
                have V_b45_51 := V_b45_50.keep KK51 (ninS ne_b45_b49 (ninS ne_b45_mb (ninS ne_b45_mc nin0)))
                have E_b49_51 := E_b49_50.keep KK51
                have KC51 := Keep.trans KC50 KK51 (allS (P := fun x => x ∈ [] ∨ h0.size ≤ x) (Or.inr sz_b49) (allS (P := fun x => x ∈ [] ∨ h0.size ≤ x) (Or.inr sz_mb) (allS (P := fun x => x ∈ [] ∨ h0.size ≤ x) (Or.inr sz_mc) all0)))
                refine own_pre (B := (T51.setTop (mkF m 207 #[.val (.int p1), .val (.int p2), .val (.int p3), .val (.int p4), .val (.int p5), .val (.int nn), .val (.int aa), .val (.int bb), .val (.int cc), .val (.int dd), .val (.int (1 : Int32)), .val (.int (0 : Int32)), .val (.int (1 : Int32)), .val (.ref b45), .val (.int ((((0 : Int32) + (1 : Int32)) + (1 : Int32)) + (1 : Int32))), .val (.ref b49), .val (.int (1 : Int32)), .unset, .unset, .unset, .unset] [(.int bb), (.ref b49)]))) (fun t kt => ?_) ?_
                · refine st51.trans ?_
                  show Steps p.tables e below (T51.setTop (mkF m 201 _ [(.int (1 : Int32))])) _
                  refine XS.istore X51.here hx rfl (hb hby at_201) rfl (l' := #[.val (.int p1), .val (.int p2), .val (.int p3), .val (.int p4), .val (.int p5), .val (.int nn), .val (.int aa), .val (.int bb), .val (.int cc), .val (.int dd), .val (.int (1 : Int32)), .val (.int (0 : Int32)), .val (.int (1 : Int32)), .val (.ref b45), .val (.int ((((0 : Int32) + (1 : Int32)) + (1 : Int32)) + (1 : Int32))), .val (.ref b49), .val (.int (1 : Int32)), .unset, .unset, .unset, .unset]) rfl ?_
                  show Steps p.tables e below (T51.setTop (mkF m 203 _ [])) _
                  refine XS.aload X51.here hx rfl (hb hby at_203) rfl rfl ?_
                  show Steps p.tables e below (T51.setTop (mkF m 205 _ [(.ref b49)])) _
                  refine XS.iload X51.here hx rfl (hb hby at_205) rfl ?_
                  exact kt
                have hk1 : ¬ ((0 : Int32) + (1 : Int32)) < 0 ∧ ((0 : Int32) + (1 : Int32)) < nn := own_rng' (by have e : (((0 : Int32) + (1 : Int32))).toInt = 1 := (by decide); omega)
                have hf_bb : (own_upd (fun _ => (0 : Int32)) (aa).toNatClampNeg 1) (bb).toNatClampNeg = 0 := by
                  simp only [own_upd, own_tn]
                  repeat' split
                  all_goals first | rfl | (exfalso; omega)
                obtain ⟨cq52, kq52, q52a, q52b, q52c⟩ := isOf hZ rfl M51.1
                obtain ⟨_, _, ⟨T52, L52, k52, n52⟩, -, X52, ⟨Lc52, hQ52, l52, y52, z52⟩, st52⟩ := X51.virtualBack hx (y := (⟨"com/example/faregraph/faregraph/search/Members", "add", "(I)Z"⟩ : MethodName)) (z := (⟨"com/example/faregraph/faregraph/search/Members", "add", "(I)Z"⟩ : MethodName)) hown (mvT hZ (hw _ (List.mem_of_getElem? (i := 16) rfl))) (mvT hZ (hw _ (List.mem_of_getElem? (i := 17) rfl))) (notFace_of_selects (args := #[]) (mvT hZ (hw _ (List.mem_of_getElem? (i := 19) rfl)))) (mvT hZ (hw _ (List.mem_of_getElem? (i := 19) rfl))) (mvT hZ (hw _ (List.mem_of_getElem? (i := 18) rfl))) (by decide) (backOf (W := 0) (rm3n l Z a0 hw [] b49 mb mc nn ((0 : Int32) + (1 : Int32)) (own_upd (fun _ => (0 : Int32)) (aa).toNatClampNeg 1) (own_upd (fun _ => (0 : Int32)) ((0 : Int32)).toNatClampNeg aa) bb T51.heap n0 (Nat.le_trans (Nat.le_trans (Nat.le_trans (Nat.le_trans (Nat.le_trans (Nat.le_trans (Nat.le_trans Z0 E45.1) (Keep.of_wr W46).1) (Keep.of_wr W47).1) (Keep.of_wr W48).1) E49.1) KK50.1) KK51.1) M51 rb hk1 hf_bb) hZ (hw _ (List.mem_of_getElem? (i := 20) rfl)) (hw _ (List.mem_of_getElem? (i := 4) rfl)) (by decide) (by decide)) q52a q52c (g := (mkF m 207 #[.val (.int p1), .val (.int p2), .val (.int p3), .val (.int p4), .val (.int p5), .val (.int nn), .val (.int aa), .val (.int bb), .val (.int cc), .val (.int dd), .val (.int (1 : Int32)), .val (.int (0 : Int32)), .val (.int (1 : Int32)), .val (.ref b45), .val (.int ((((0 : Int32) + (1 : Int32)) + (1 : Int32)) + (1 : Int32))), .val (.ref b49), .val (.int (1 : Int32)), .unset, .unset, .unset, .unset] [(.int bb), (.ref b49)])) rfl (by rw [hml]; rfl) (Steps.refl _) (argsL := [(.int bb)]) (rest := []) (lenOf pd_2 rfl) rfl (by show 2 * 0 + _ ≤ _; exact Nat.le_of_eq rfl) (hb hby at_207) (fun _ _ => ⟨rfl, rfl, (by decide : 4 + 0 ≤ _), (by decide : 23 + 0 ≤ _)⟩)
                dsimp only [Pt.U, Pt.locs, Pt.cells, Pt.slots] at X52 l52 y52 z52 st52 hQ52
                subst l52 y52 z52
                obtain ⟨rfl, N52q, KK52, M52⟩ := hQ52
                have N52 := Fr.app N51 N52q
                have V_b45_52 := V_b45_51.keep KK52 (ninS ne_b45_b49 (ninS ne_b45_mb (ninS ne_b45_mc nin0)))
                have E_b49_52 := E_b49_51.keep KK52
                have KC52 := Keep.trans KC51 KK52 (allS (P := fun x => x ∈ [] ∨ h0.size ≤ x) (Or.inr sz_b49) (allS (P := fun x => x ∈ [] ∨ h0.size ≤ x) (Or.inr sz_mb) (allS (P := fun x => x ∈ [] ∨ h0.size ≤ x) (Or.inr sz_mc) all0)))
                refine own_pre (B := (T52.setTop (mkF m 216 #[.val (.int p1), .val (.int p2), .val (.int p3), .val (.int p4), .val (.int p5), .val (.int nn), .val (.int aa), .val (.int bb), .val (.int cc), .val (.int dd), .val (.int (1 : Int32)), .val (.int (0 : Int32)), .val (.int (1 : Int32)), .val (.ref b45), .val (.int ((((0 : Int32) + (1 : Int32)) + (1 : Int32)) + (1 : Int32))), .val (.ref b49), .val (.int (1 : Int32)), .val (.int (1 : Int32)), .unset, .unset, .unset] [(.int cc), (.ref b49)]))) (fun t kt => ?_) ?_
                · refine st52.trans ?_
                  show Steps p.tables e below (T52.setTop (mkF m 210 _ [(.int (1 : Int32))])) _
                  refine XS.istore X52.here hx rfl (hb hby at_210) rfl (l' := #[.val (.int p1), .val (.int p2), .val (.int p3), .val (.int p4), .val (.int p5), .val (.int nn), .val (.int aa), .val (.int bb), .val (.int cc), .val (.int dd), .val (.int (1 : Int32)), .val (.int (0 : Int32)), .val (.int (1 : Int32)), .val (.ref b45), .val (.int ((((0 : Int32) + (1 : Int32)) + (1 : Int32)) + (1 : Int32))), .val (.ref b49), .val (.int (1 : Int32)), .val (.int (1 : Int32)), .unset, .unset, .unset]) rfl ?_
                  show Steps p.tables e below (T52.setTop (mkF m 212 _ [])) _
                  refine XS.aload X52.here hx rfl (hb hby at_212) rfl rfl ?_
                  show Steps p.tables e below (T52.setTop (mkF m 214 _ [(.ref b49)])) _
                  refine XS.iload X52.here hx rfl (hb hby at_214) rfl ?_
                  exact kt
                have hf_cc : (own_upd (own_upd (fun _ => (0 : Int32)) (aa).toNatClampNeg 1) (bb).toNatClampNeg 1) (cc).toNatClampNeg = 1 := by
                  simp only [own_upd, own_tn]
                  repeat' split
                  all_goals first | rfl | (exfalso; omega)
                obtain ⟨cq53, kq53, q53a, q53b, q53c⟩ := isOf hZ rfl M52.1
                obtain ⟨_, _, ⟨T53, L53, k53, n53⟩, -, X53, ⟨Lc53, hQ53, l53, y53, z53⟩, st53⟩ := X52.virtualBack hx (y := (⟨"com/example/faregraph/faregraph/search/Members", "add", "(I)Z"⟩ : MethodName)) (z := (⟨"com/example/faregraph/faregraph/search/Members", "add", "(I)Z"⟩ : MethodName)) hown (mvT hZ (hw _ (List.mem_of_getElem? (i := 16) rfl))) (mvT hZ (hw _ (List.mem_of_getElem? (i := 17) rfl))) (notFace_of_selects (args := #[]) (mvT hZ (hw _ (List.mem_of_getElem? (i := 19) rfl)))) (mvT hZ (hw _ (List.mem_of_getElem? (i := 19) rfl))) (mvT hZ (hw _ (List.mem_of_getElem? (i := 18) rfl))) (by decide) (backOf (W := 0) (rm3y l Z a0 hw [] b49 mb mc nn (((0 : Int32) + (1 : Int32)) + (1 : Int32)) (own_upd (own_upd (fun _ => (0 : Int32)) (aa).toNatClampNeg 1) (bb).toNatClampNeg 1) (own_upd (own_upd (fun _ => (0 : Int32)) ((0 : Int32)).toNatClampNeg aa) (((0 : Int32) + (1 : Int32))).toNatClampNeg bb) cc T52.heap n0 (Nat.le_trans (Nat.le_trans (Nat.le_trans (Nat.le_trans (Nat.le_trans (Nat.le_trans (Nat.le_trans (Nat.le_trans Z0 E45.1) (Keep.of_wr W46).1) (Keep.of_wr W47).1) (Keep.of_wr W48).1) E49.1) KK50.1) KK51.1) KK52.1) M52 rc hf_cc) hZ (hw _ (List.mem_of_getElem? (i := 20) rfl)) (hw _ (List.mem_of_getElem? (i := 4) rfl)) (by decide) (by decide)) q53a q53c (g := (mkF m 216 #[.val (.int p1), .val (.int p2), .val (.int p3), .val (.int p4), .val (.int p5), .val (.int nn), .val (.int aa), .val (.int bb), .val (.int cc), .val (.int dd), .val (.int (1 : Int32)), .val (.int (0 : Int32)), .val (.int (1 : Int32)), .val (.ref b45), .val (.int ((((0 : Int32) + (1 : Int32)) + (1 : Int32)) + (1 : Int32))), .val (.ref b49), .val (.int (1 : Int32)), .val (.int (1 : Int32)), .unset, .unset, .unset] [(.int cc), (.ref b49)])) rfl (by rw [hml]; rfl) (Steps.refl _) (argsL := [(.int cc)]) (rest := []) (lenOf pd_2 rfl) rfl (by show 2 * 0 + _ ≤ _; exact Nat.le_of_eq rfl) (hb hby at_216) (fun _ _ => ⟨rfl, rfl, (by decide : 4 + 0 ≤ _), (by decide : 23 + 0 ≤ _)⟩)
                dsimp only [Pt.U, Pt.locs, Pt.cells, Pt.slots] at X53 l53 y53 z53 st53 hQ53
                subst l53 y53 z53
                obtain ⟨rfl, N53q, e53⟩ := hQ53
                have N53 := Fr.app N52 N53q
                refine own_pre (B := (T53.setTop (mkF m 225 #[.val (.int p1), .val (.int p2), .val (.int p3), .val (.int p4), .val (.int p5), .val (.int nn), .val (.int aa), .val (.int bb), .val (.int cc), .val (.int dd), .val (.int (1 : Int32)), .val (.int (0 : Int32)), .val (.int (1 : Int32)), .val (.ref b45), .val (.int ((((0 : Int32) + (1 : Int32)) + (1 : Int32)) + (1 : Int32))), .val (.ref b49), .val (.int (1 : Int32)), .val (.int (1 : Int32)), .val (.int (0 : Int32)), .unset, .unset] [(.int dd), (.ref b49)]))) (fun t kt => ?_) ?_
                · refine st53.trans ?_
                  show Steps p.tables e below (T53.setTop (mkF m 219 _ [(.int (0 : Int32))])) _
                  refine XS.istore X53.here hx rfl (hb hby at_219) rfl (l' := #[.val (.int p1), .val (.int p2), .val (.int p3), .val (.int p4), .val (.int p5), .val (.int nn), .val (.int aa), .val (.int bb), .val (.int cc), .val (.int dd), .val (.int (1 : Int32)), .val (.int (0 : Int32)), .val (.int (1 : Int32)), .val (.ref b45), .val (.int ((((0 : Int32) + (1 : Int32)) + (1 : Int32)) + (1 : Int32))), .val (.ref b49), .val (.int (1 : Int32)), .val (.int (1 : Int32)), .val (.int (0 : Int32)), .unset, .unset]) rfl ?_
                  show Steps p.tables e below (T53.setTop (mkF m 221 _ [])) _
                  refine XS.aload X53.here hx rfl (hb hby at_221) rfl rfl ?_
                  show Steps p.tables e below (T53.setTop (mkF m 223 _ [(.ref b49)])) _
                  refine XS.iload X53.here hx rfl (hb hby at_223) rfl ?_
                  exact kt
                have hk2 : ¬ (((0 : Int32) + (1 : Int32)) + (1 : Int32)) < 0 ∧ (((0 : Int32) + (1 : Int32)) + (1 : Int32)) < nn := own_rng' (by have e : ((((0 : Int32) + (1 : Int32)) + (1 : Int32))).toInt = 2 := (by decide); omega)
                have hf_dd : (own_upd (own_upd (fun _ => (0 : Int32)) (aa).toNatClampNeg 1) (bb).toNatClampNeg 1) (dd).toNatClampNeg = 0 := by
                  simp only [own_upd, own_tn]
                  repeat' split
                  all_goals first | rfl | (exfalso; omega)
                obtain ⟨cq54, kq54, q54a, q54b, q54c⟩ := isOf hZ e53 M52.1
                obtain ⟨_, _, ⟨T54, L54, k54, n54⟩, -, X54, ⟨Lc54, hQ54, l54, y54, z54⟩, st54⟩ := X53.virtualBack hx (y := (⟨"com/example/faregraph/faregraph/search/Members", "add", "(I)Z"⟩ : MethodName)) (z := (⟨"com/example/faregraph/faregraph/search/Members", "add", "(I)Z"⟩ : MethodName)) hown (mvT hZ (hw _ (List.mem_of_getElem? (i := 16) rfl))) (mvT hZ (hw _ (List.mem_of_getElem? (i := 17) rfl))) (notFace_of_selects (args := #[]) (mvT hZ (hw _ (List.mem_of_getElem? (i := 19) rfl)))) (mvT hZ (hw _ (List.mem_of_getElem? (i := 19) rfl))) (mvT hZ (hw _ (List.mem_of_getElem? (i := 18) rfl))) (by decide) (backOf (W := 0) (rm3n l Z a0 hw [] b49 mb mc nn (((0 : Int32) + (1 : Int32)) + (1 : Int32)) (own_upd (own_upd (fun _ => (0 : Int32)) (aa).toNatClampNeg 1) (bb).toNatClampNeg 1) (own_upd (own_upd (fun _ => (0 : Int32)) ((0 : Int32)).toNatClampNeg aa) (((0 : Int32) + (1 : Int32))).toNatClampNeg bb) dd T52.heap n0 (Nat.le_trans (Nat.le_trans (Nat.le_trans (Nat.le_trans (Nat.le_trans (Nat.le_trans (Nat.le_trans (Nat.le_trans Z0 E45.1) (Keep.of_wr W46).1) (Keep.of_wr W47).1) (Keep.of_wr W48).1) E49.1) KK50.1) KK51.1) KK52.1) M52 rd hk2 hf_dd) hZ (hw _ (List.mem_of_getElem? (i := 20) rfl)) (hw _ (List.mem_of_getElem? (i := 4) rfl)) (by decide) (by decide)) q54a q54c (g := (mkF m 225 #[.val (.int p1), .val (.int p2), .val (.int p3), .val (.int p4), .val (.int p5), .val (.int nn), .val (.int aa), .val (.int bb), .val (.int cc), .val (.int dd), .val (.int (1 : Int32)), .val (.int (0 : Int32)), .val (.int (1 : Int32)), .val (.ref b45), .val (.int ((((0 : Int32) + (1 : Int32)) + (1 : Int32)) + (1 : Int32))), .val (.ref b49), .val (.int (1 : Int32)), .val (.int (1 : Int32)), .val (.int (0 : Int32)), .unset, .unset] [(.int dd), (.ref b49)])) rfl (by rw [hml]; rfl) (Steps.refl _) (argsL := [(.int dd)]) (rest := []) (lenOf pd_2 rfl) rfl (by show 2 * 0 + _ ≤ _; exact Nat.le_of_eq rfl) (hb hby at_225) (fun _ _ => ⟨rfl, e53, (by decide : 4 + 0 ≤ _), (by decide : 23 + 0 ≤ _)⟩)
                dsimp only [Pt.U, Pt.locs, Pt.cells, Pt.slots] at X54 l54 y54 z54 st54 hQ54
                subst l54 y54 z54
                obtain ⟨rfl, N54q, KK54, M54⟩ := hQ54
                have N54 := Fr.app N53 N54q
                have V_b45_54 := V_b45_52.keep KK54 (ninS ne_b45_b49 (ninS ne_b45_mb (ninS ne_b45_mc nin0)))
                have E_b49_54 := E_b49_52.keep KK54
                have KC54 := Keep.trans KC52 KK54 (allS (P := fun x => x ∈ [] ∨ h0.size ≤ x) (Or.inr sz_b49) (allS (P := fun x => x ∈ [] ∨ h0.size ≤ x) (Or.inr sz_mb) (allS (P := fun x => x ∈ [] ∨ h0.size ≤ x) (Or.inr sz_mc) all0)))
                refine own_pre (B := (T54.setTop (mkF m 260 #[.val (.int p1), .val (.int p2), .val (.int p3), .val (.int p4), .val (.int p5), .val (.int nn), .val (.int aa), .val (.int bb), .val (.int cc), .val (.int dd), .val (.int (1 : Int32)), .val (.int (0 : Int32)), .val (.int (1 : Int32)), .val (.ref b45), .val (.int ((((0 : Int32) + (1 : Int32)) + (1 : Int32)) + (1 : Int32))), .val (.ref b49), .val (.int (1 : Int32)), .val (.int (1 : Int32)), .val (.int (0 : Int32)), .val (.int (1 : Int32)), .unset] [(.ref b49)]))) (fun t kt => ?_) ?_
                · refine st54.trans ?_
                  show Steps p.tables e below (T54.setTop (mkF m 228 _ [(.int (1 : Int32))])) _
                  refine XS.istore X54.here hx rfl (hb hby at_228) rfl (l' := #[.val (.int p1), .val (.int p2), .val (.int p3), .val (.int p4), .val (.int p5), .val (.int nn), .val (.int aa), .val (.int bb), .val (.int cc), .val (.int dd), .val (.int (1 : Int32)), .val (.int (0 : Int32)), .val (.int (1 : Int32)), .val (.ref b45), .val (.int ((((0 : Int32) + (1 : Int32)) + (1 : Int32)) + (1 : Int32))), .val (.ref b49), .val (.int (1 : Int32)), .val (.int (1 : Int32)), .val (.int (0 : Int32)), .val (.int (1 : Int32)), .unset]) rfl ?_
                  show Steps p.tables e below (T54.setTop (mkF m 230 _ [])) _
                  refine XS.iload X54.here hx rfl (hb hby at_230) rfl ?_
                  show Steps p.tables e below (T54.setTop (mkF m 232 _ [(.int (1 : Int32))])) _
                  refine XS.ifNo X54.here hx rfl (hb hby at_232) rfl ((if0 _ _).trans (feq ((by decide) : ¬ ((1 : Int32) = (0 : Int32)))).1) ?_
                  show Steps p.tables e below (T54.setTop (mkF m 235 _ [])) _
                  refine XS.iload X54.here hx rfl (hb hby at_235) rfl ?_
                  show Steps p.tables e below (T54.setTop (mkF m 237 _ [(.int (1 : Int32))])) _
                  refine XS.iload X54.here hx rfl (hb hby at_237) rfl ?_
                  show Steps p.tables e below (T54.setTop (mkF m 239 _ [(.int (1 : Int32)), (.int (1 : Int32))])) _
                  refine XS.icmpNo X54.here hx rfl (hb hby at_239) rfl (teq (rfl : (1 : Int32) = (1 : Int32))).2 ?_
                  show Steps p.tables e below (T54.setTop (mkF m 242 _ [])) _
                  refine XS.iload X54.here hx rfl (hb hby at_242) rfl ?_
                  show Steps p.tables e below (T54.setTop (mkF m 244 _ [(.int (0 : Int32))])) _
                  refine XS.iload X54.here hx rfl (hb hby at_244) rfl ?_
                  show Steps p.tables e below (T54.setTop (mkF m 246 _ [(.int (0 : Int32)), (.int (0 : Int32))])) _
                  refine XS.icmpNo X54.here hx rfl (hb hby at_246) rfl (teq (rfl : (0 : Int32) = (0 : Int32))).2 ?_
                  show Steps p.tables e below (T54.setTop (mkF m 249 _ [])) _
                  refine XS.iload X54.here hx rfl (hb hby at_249) rfl ?_
                  show Steps p.tables e below (T54.setTop (mkF m 251 _ [(.int (1 : Int32))])) _
                  refine XS.iload X54.here hx rfl (hb hby at_251) rfl ?_
                  show Steps p.tables e below (T54.setTop (mkF m 253 _ [(.int (1 : Int32)), (.int (1 : Int32))])) _
                  refine XS.icmpYes X54.here hx rfl (pc0 := 253) (pc' := 258) rfl (hb hby at_253) rfl (teq (rfl : (1 : Int32) = (1 : Int32))).1 (by decide) (by decide) ?_
                  show Steps p.tables e below (T54.setTop (mkF m 258 _ [])) _
                  refine XS.aload X54.here hx rfl (hb hby at_258) rfl rfl ?_
                  exact kt
                obtain ⟨cq55, kq55, q55a, q55b, q55c⟩ := isOf hZ rfl M54.1
                obtain ⟨_, _, ⟨T55, L55, k55, n55⟩, -, X55, ⟨Lc55, hQ55, l55, y55, z55⟩, st55⟩ := X54.virtualBack hx (y := (⟨"com/example/faregraph/faregraph/search/Members", "count", "()I"⟩ : MethodName)) (z := (⟨"com/example/faregraph/faregraph/search/Members", "count", "()I"⟩ : MethodName)) hown (mvT hZ (hw _ (List.mem_of_getElem? (i := 23) rfl))) (mvT hZ (hw _ (List.mem_of_getElem? (i := 24) rfl))) (notFace_of_selects (args := #[]) (mvT hZ (hw _ (List.mem_of_getElem? (i := 26) rfl)))) (mvT hZ (hw _ (List.mem_of_getElem? (i := 26) rfl))) (mvT hZ (hw _ (List.mem_of_getElem? (i := 25) rfl))) (by decide) (backOf (W := 0) (rm4 l Z a0 hw [] b49 mb mc nn ((((0 : Int32) + (1 : Int32)) + (1 : Int32)) + (1 : Int32)) (own_upd (own_upd (own_upd (fun _ => (0 : Int32)) (aa).toNatClampNeg 1) (bb).toNatClampNeg 1) (dd).toNatClampNeg 1) (own_upd (own_upd (own_upd (fun _ => (0 : Int32)) ((0 : Int32)).toNatClampNeg aa) (((0 : Int32) + (1 : Int32))).toNatClampNeg bb) ((((0 : Int32) + (1 : Int32)) + (1 : Int32))).toNatClampNeg dd) T54.heap n0 (Nat.le_trans (Nat.le_trans (Nat.le_trans (Nat.le_trans (Nat.le_trans (Nat.le_trans (Nat.le_trans (Nat.le_trans (Nat.le_trans Z0 E45.1) (Keep.of_wr W46).1) (Keep.of_wr W47).1) (Keep.of_wr W48).1) E49.1) KK50.1) KK51.1) KK52.1) KK54.1) M54) hZ (hw _ (List.mem_of_getElem? (i := 27) rfl)) (hw _ (List.mem_of_getElem? (i := 4) rfl)) (by decide) (by decide)) q55a q55c (g := (mkF m 260 #[.val (.int p1), .val (.int p2), .val (.int p3), .val (.int p4), .val (.int p5), .val (.int nn), .val (.int aa), .val (.int bb), .val (.int cc), .val (.int dd), .val (.int (1 : Int32)), .val (.int (0 : Int32)), .val (.int (1 : Int32)), .val (.ref b45), .val (.int ((((0 : Int32) + (1 : Int32)) + (1 : Int32)) + (1 : Int32))), .val (.ref b49), .val (.int (1 : Int32)), .val (.int (1 : Int32)), .val (.int (0 : Int32)), .val (.int (1 : Int32)), .unset] [(.ref b49)])) rfl (by rw [hml]; rfl) (Steps.refl _) (argsL := []) (rest := []) (lenOf pd_3 rfl) rfl (by show 2 * 0 + _ ≤ _; exact Nat.le_of_eq rfl) (hb hby at_260) (fun _ _ => ⟨rfl, rfl, (by decide : 4 + 0 ≤ _), (by decide : 23 + 0 ≤ _)⟩)
                dsimp only [Pt.U, Pt.locs, Pt.cells, Pt.slots] at X55 l55 y55 z55 st55 hQ55
                subst l55 y55 z55
                obtain ⟨rfl, N55q, e55⟩ := hQ55
                have N55 := Fr.app N54 N55q
                refine own_pre (B := (T55.setTop (mkF m 273 #[.val (.int p1), .val (.int p2), .val (.int p3), .val (.int p4), .val (.int p5), .val (.int nn), .val (.int aa), .val (.int bb), .val (.int cc), .val (.int dd), .val (.int (1 : Int32)), .val (.int (0 : Int32)), .val (.int (1 : Int32)), .val (.ref b45), .val (.int ((((0 : Int32) + (1 : Int32)) + (1 : Int32)) + (1 : Int32))), .val (.ref b49), .val (.int (1 : Int32)), .val (.int (1 : Int32)), .val (.int (0 : Int32)), .val (.int (1 : Int32)), .unset] [(.int (0 : Int32)), (.ref b49)]))) (fun t kt => ?_) ?_
                · refine st55.trans ?_
                  show Steps p.tables e below (T55.setTop (mkF m 263 _ [(.int ((((0 : Int32) + (1 : Int32)) + (1 : Int32)) + (1 : Int32)))])) _
                  refine XS.iload X55.here hx rfl (hb hby at_263) rfl ?_
                  show Steps p.tables e below (T55.setTop (mkF m 265 _ [(.int ((((0 : Int32) + (1 : Int32)) + (1 : Int32)) + (1 : Int32))), (.int ((((0 : Int32) + (1 : Int32)) + (1 : Int32)) + (1 : Int32)))])) _
                  refine XS.icmpYes X55.here hx rfl (pc0 := 265) (pc' := 270) rfl (hb hby at_265) rfl (teq (rfl : ((((0 : Int32) + (1 : Int32)) + (1 : Int32)) + (1 : Int32)) = ((((0 : Int32) + (1 : Int32)) + (1 : Int32)) + (1 : Int32)))).1 (by decide) (by decide) ?_
                  show Steps p.tables e below (T55.setTop (mkF m 270 _ [])) _
                  refine XS.aload X55.here hx rfl (hb hby at_270) rfl rfl ?_
                  show Steps p.tables e below (T55.setTop (mkF m 272 _ [(.ref b49)])) _
                  refine XS.iconst X55.here hx rfl (hb hby at_272) ?_
                  exact kt
                have pg56 : (own_upd (own_upd (own_upd (fun _ => (0 : Int32)) ((0 : Int32)).toNatClampNeg aa) (((0 : Int32) + (1 : Int32))).toNatClampNeg bb) ((((0 : Int32) + (1 : Int32)) + (1 : Int32))).toNatClampNeg dd) ((0 : Int32)).toNatClampNeg = aa := ((own_upd_ne (by decide)).trans ((own_upd_ne (by decide)).trans (own_upd_hit (by decide))))
                obtain ⟨cq56, kq56, q56a, q56b, q56c⟩ := isOf hZ e55 M54.1
                obtain ⟨_, _, ⟨T56, L56, k56, n56⟩, -, X56, ⟨Lc56, hQ56, l56, y56, z56⟩, st56⟩ := X55.virtualBack hx (y := (⟨"com/example/faregraph/faregraph/search/Members", "get", "(I)I"⟩ : MethodName)) (z := (⟨"com/example/faregraph/faregraph/search/Members", "get", "(I)I"⟩ : MethodName)) hown (mvT hZ (hw _ (List.mem_of_getElem? (i := 28) rfl))) (mvT hZ (hw _ (List.mem_of_getElem? (i := 29) rfl))) (notFace_of_selects (args := #[]) (mvT hZ (hw _ (List.mem_of_getElem? (i := 31) rfl)))) (mvT hZ (hw _ (List.mem_of_getElem? (i := 31) rfl))) (mvT hZ (hw _ (List.mem_of_getElem? (i := 30) rfl))) (by decide) (backOf (W := 0) (rm5 l Z a0 hw [] b49 mb mc nn ((((0 : Int32) + (1 : Int32)) + (1 : Int32)) + (1 : Int32)) (own_upd (own_upd (own_upd (fun _ => (0 : Int32)) (aa).toNatClampNeg 1) (bb).toNatClampNeg 1) (dd).toNatClampNeg 1) (own_upd (own_upd (own_upd (fun _ => (0 : Int32)) ((0 : Int32)).toNatClampNeg aa) (((0 : Int32) + (1 : Int32))).toNatClampNeg bb) ((((0 : Int32) + (1 : Int32)) + (1 : Int32))).toNatClampNeg dd) (0 : Int32) aa T54.heap n0 (Nat.le_trans (Nat.le_trans (Nat.le_trans (Nat.le_trans (Nat.le_trans (Nat.le_trans (Nat.le_trans (Nat.le_trans (Nat.le_trans Z0 E45.1) (Keep.of_wr W46).1) (Keep.of_wr W47).1) (Keep.of_wr W48).1) E49.1) KK50.1) KK51.1) KK52.1) KK54.1) M54 (own_rng' (by have e : ((0 : Int32)).toInt = 0 := (by decide); omega)) pg56) hZ (hw _ (List.mem_of_getElem? (i := 32) rfl)) (hw _ (List.mem_of_getElem? (i := 4) rfl)) (by decide) (by decide)) q56a q56c (g := (mkF m 273 #[.val (.int p1), .val (.int p2), .val (.int p3), .val (.int p4), .val (.int p5), .val (.int nn), .val (.int aa), .val (.int bb), .val (.int cc), .val (.int dd), .val (.int (1 : Int32)), .val (.int (0 : Int32)), .val (.int (1 : Int32)), .val (.ref b45), .val (.int ((((0 : Int32) + (1 : Int32)) + (1 : Int32)) + (1 : Int32))), .val (.ref b49), .val (.int (1 : Int32)), .val (.int (1 : Int32)), .val (.int (0 : Int32)), .val (.int (1 : Int32)), .unset] [(.int (0 : Int32)), (.ref b49)])) rfl (by rw [hml]; rfl) (Steps.refl _) (argsL := [(.int (0 : Int32))]) (rest := []) (lenOf pd_4 rfl) rfl (by show 2 * 0 + _ ≤ _; exact Nat.le_of_eq rfl) (hb hby at_273) (fun _ _ => ⟨rfl, e55, (by decide : 4 + 0 ≤ _), (by decide : 23 + 0 ≤ _)⟩)
                dsimp only [Pt.U, Pt.locs, Pt.cells, Pt.slots] at X56 l56 y56 z56 st56 hQ56
                subst l56 y56 z56
                obtain ⟨rfl, N56q, e56⟩ := hQ56
                have N56 := Fr.app N55 N56q
                refine own_pre (B := (T56.setTop (mkF m 279 #[.val (.int p1), .val (.int p2), .val (.int p3), .val (.int p4), .val (.int p5), .val (.int nn), .val (.int aa), .val (.int bb), .val (.int cc), .val (.int dd), .val (.int (1 : Int32)), .val (.int (0 : Int32)), .val (.int (1 : Int32)), .val (.ref b45), .val (.int ((((0 : Int32) + (1 : Int32)) + (1 : Int32)) + (1 : Int32))), .val (.ref b49), .val (.int (1 : Int32)), .val (.int (1 : Int32)), .val (.int (0 : Int32)), .val (.int (1 : Int32)), .unset] [(.int (0 : Int32)), (.ref b45), (.int aa)]))) (fun t kt => ?_) ?_
                · refine st56.trans ?_
                  show Steps p.tables e below (T56.setTop (mkF m 276 _ [(.int aa)])) _
                  refine XS.aload X56.here hx rfl (hb hby at_276) rfl rfl ?_
                  show Steps p.tables e below (T56.setTop (mkF m 278 _ [(.ref b45), (.int aa)])) _
                  refine XS.iconst X56.here hx rfl (hb hby at_278) ?_
                  exact kt
                have pe58 : (own_upd (own_upd (own_upd (fun _ => (0 : Int32)) ((0 : Int32)).toNatClampNeg aa) (((0 : Int32) + (1 : Int32))).toNatClampNeg bb) ((((0 : Int32) + (1 : Int32)) + (1 : Int32))).toNatClampNeg dd) ((0 : Int32)).toNatClampNeg = aa := ((own_upd_ne (by decide)).trans ((own_upd_ne (by decide)).trans (own_upd_hit (by decide))))
                obtain ⟨cl57, Ar57, S57, P57, H57⟩ := id V_b45_54
                have in57 := inb_of S57 (⟨by decide, by decide⟩ : ¬ (0 : Int32) < 0 ∧ (0 : Int32) < (4 : Int32))
                have at57 : cl57.slots[((0 : Int32)).toNatClampNeg]? = some (.int aa) := (H57 _ (Nat.lt_of_not_le fun y => in57 (Or.inr y))).trans (congrArg (fun z => some (Value.int z)) pe58)
                refine own_pre (B := (T56.setTop (mkF m 304 #[.val (.int p1), .val (.int p2), .val (.int p3), .val (.int p4), .val (.int p5), .val (.int nn), .val (.int aa), .val (.int bb), .val (.int cc), .val (.int dd), .val (.int (1 : Int32)), .val (.int (0 : Int32)), .val (.int (1 : Int32)), .val (.ref b45), .val (.int ((((0 : Int32) + (1 : Int32)) + (1 : Int32)) + (1 : Int32))), .val (.ref b49), .val (.int (1 : Int32)), .val (.int (1 : Int32)), .val (.int (0 : Int32)), .val (.int (1 : Int32)), .val (.int (1 : Int32))] [(.int (1 : Int32)), (.ref b49)]))) (fun t kt => ?_) ?_
                · show Steps p.tables e below (T56.setTop (mkF m 279 _ [(.int (0 : Int32)), (.ref b45), (.int aa)])) _
                  refine X56.iaload hx (j := (0 : Int32)) (v := (.int aa)) (by rw [e56]; exact Ar57.1) (State.isArrayOf_alike hZ.alike Ar57.2.1) Ar57.2.2 in57 at57 (g := (mkF m 279 #[.val (.int p1), .val (.int p2), .val (.int p3), .val (.int p4), .val (.int p5), .val (.int nn), .val (.int aa), .val (.int bb), .val (.int cc), .val (.int dd), .val (.int (1 : Int32)), .val (.int (0 : Int32)), .val (.int (1 : Int32)), .val (.ref b45), .val (.int ((((0 : Int32) + (1 : Int32)) + (1 : Int32)) + (1 : Int32))), .val (.ref b49), .val (.int (1 : Int32)), .val (.int (1 : Int32)), .val (.int (0 : Int32)), .val (.int (1 : Int32)), .unset] [(.int (0 : Int32)), (.ref b45), (.int aa)])) rfl rfl (hb hby at_279) _ ?_
                  show Steps p.tables e below (T56.setTop (mkF m 280 _ [(.int aa), (.int aa)])) _
                  refine XS.icmpNo X56.here hx rfl (hb hby at_280) rfl (teq (rfl : aa = aa)).2 ?_
                  show Steps p.tables e below (T56.setTop (mkF m 283 _ [])) _
                  refine XS.iconst X56.here hx rfl (hb hby at_283) ?_
                  show Steps p.tables e below (T56.setTop (mkF m 284 _ [(.int (1 : Int32))])) _
                  refine XS.goto X56.here hx rfl (pc0 := 284) (pc' := 288) rfl (hb hby at_284) (by decide) (by decide) ?_
                  show Steps p.tables e below (T56.setTop (mkF m 288 _ [(.int (1 : Int32))])) _
                  refine XS.istore X56.here hx rfl (hb hby at_288) rfl (l' := #[.val (.int p1), .val (.int p2), .val (.int p3), .val (.int p4), .val (.int p5), .val (.int nn), .val (.int aa), .val (.int bb), .val (.int cc), .val (.int dd), .val (.int (1 : Int32)), .val (.int (0 : Int32)), .val (.int (1 : Int32)), .val (.ref b45), .val (.int ((((0 : Int32) + (1 : Int32)) + (1 : Int32)) + (1 : Int32))), .val (.ref b49), .val (.int (1 : Int32)), .val (.int (1 : Int32)), .val (.int (0 : Int32)), .val (.int (1 : Int32)), .val (.int (1 : Int32))]) rfl ?_
                  show Steps p.tables e below (T56.setTop (mkF m 290 _ [])) _
                  refine XS.iload X56.here hx rfl (hb hby at_290) rfl ?_
                  show Steps p.tables e below (T56.setTop (mkF m 292 _ [(.int ((((0 : Int32) + (1 : Int32)) + (1 : Int32)) + (1 : Int32)))])) _
                  refine XS.iconst X56.here hx rfl (hb hby at_292) ?_
                  show Steps p.tables e below (T56.setTop (mkF m 293 _ [(.int (1 : Int32)), (.int ((((0 : Int32) + (1 : Int32)) + (1 : Int32)) + (1 : Int32)))])) _
                  refine XS.icmpNo X56.here hx rfl (hb hby at_293) rfl (tlt ((by decide) : (1 : Int32) < ((((0 : Int32) + (1 : Int32)) + (1 : Int32)) + (1 : Int32)))).2.2.2 ?_
                  show Steps p.tables e below (T56.setTop (mkF m 296 _ [])) _
                  refine XS.iload X56.here hx rfl (hb hby at_296) rfl ?_
                  show Steps p.tables e below (T56.setTop (mkF m 298 _ [(.int (1 : Int32))])) _
                  refine XS.ifNo X56.here hx rfl (hb hby at_298) rfl ((if0 _ _).trans (feq ((by decide) : ¬ ((1 : Int32) = (0 : Int32)))).1) ?_
                  show Steps p.tables e below (T56.setTop (mkF m 301 _ [])) _
                  refine XS.aload X56.here hx rfl (hb hby at_301) rfl rfl ?_
                  show Steps p.tables e below (T56.setTop (mkF m 303 _ [(.ref b49)])) _
                  refine XS.iconst X56.here hx rfl (hb hby at_303) ?_
                  exact kt
                have pg59 : (own_upd (own_upd (own_upd (fun _ => (0 : Int32)) ((0 : Int32)).toNatClampNeg aa) (((0 : Int32) + (1 : Int32))).toNatClampNeg bb) ((((0 : Int32) + (1 : Int32)) + (1 : Int32))).toNatClampNeg dd) ((1 : Int32)).toNatClampNeg = bb := ((own_upd_ne (by decide)).trans (own_upd_hit (by decide)))
                obtain ⟨cq59, kq59, q59a, q59b, q59c⟩ := isOf hZ e56 M54.1
                obtain ⟨_, _, ⟨T59, L59, k59, n59⟩, -, X59, ⟨Lc59, hQ59, l59, y59, z59⟩, st59⟩ := X56.virtualBack hx (y := (⟨"com/example/faregraph/faregraph/search/Members", "get", "(I)I"⟩ : MethodName)) (z := (⟨"com/example/faregraph/faregraph/search/Members", "get", "(I)I"⟩ : MethodName)) hown (mvT hZ (hw _ (List.mem_of_getElem? (i := 28) rfl))) (mvT hZ (hw _ (List.mem_of_getElem? (i := 29) rfl))) (notFace_of_selects (args := #[]) (mvT hZ (hw _ (List.mem_of_getElem? (i := 31) rfl)))) (mvT hZ (hw _ (List.mem_of_getElem? (i := 31) rfl))) (mvT hZ (hw _ (List.mem_of_getElem? (i := 30) rfl))) (by decide) (backOf (W := 0) (rm5 l Z a0 hw [] b49 mb mc nn ((((0 : Int32) + (1 : Int32)) + (1 : Int32)) + (1 : Int32)) (own_upd (own_upd (own_upd (fun _ => (0 : Int32)) (aa).toNatClampNeg 1) (bb).toNatClampNeg 1) (dd).toNatClampNeg 1) (own_upd (own_upd (own_upd (fun _ => (0 : Int32)) ((0 : Int32)).toNatClampNeg aa) (((0 : Int32) + (1 : Int32))).toNatClampNeg bb) ((((0 : Int32) + (1 : Int32)) + (1 : Int32))).toNatClampNeg dd) (1 : Int32) bb T54.heap n0 (Nat.le_trans (Nat.le_trans (Nat.le_trans (Nat.le_trans (Nat.le_trans (Nat.le_trans (Nat.le_trans (Nat.le_trans (Nat.le_trans Z0 E45.1) (Keep.of_wr W46).1) (Keep.of_wr W47).1) (Keep.of_wr W48).1) E49.1) KK50.1) KK51.1) KK52.1) KK54.1) M54 (own_rng' (by have e : ((1 : Int32)).toInt = 1 := (by decide); omega)) pg59) hZ (hw _ (List.mem_of_getElem? (i := 32) rfl)) (hw _ (List.mem_of_getElem? (i := 4) rfl)) (by decide) (by decide)) q59a q59c (g := (mkF m 304 #[.val (.int p1), .val (.int p2), .val (.int p3), .val (.int p4), .val (.int p5), .val (.int nn), .val (.int aa), .val (.int bb), .val (.int cc), .val (.int dd), .val (.int (1 : Int32)), .val (.int (0 : Int32)), .val (.int (1 : Int32)), .val (.ref b45), .val (.int ((((0 : Int32) + (1 : Int32)) + (1 : Int32)) + (1 : Int32))), .val (.ref b49), .val (.int (1 : Int32)), .val (.int (1 : Int32)), .val (.int (0 : Int32)), .val (.int (1 : Int32)), .val (.int (1 : Int32))] [(.int (1 : Int32)), (.ref b49)])) rfl (by rw [hml]; rfl) (Steps.refl _) (argsL := [(.int (1 : Int32))]) (rest := []) (lenOf pd_4 rfl) rfl (by show 2 * 0 + _ ≤ _; exact Nat.le_of_eq rfl) (hb hby at_304) (fun _ _ => ⟨rfl, e56, (by decide : 4 + 0 ≤ _), (by decide : 23 + 0 ≤ _)⟩)
                dsimp only [Pt.U, Pt.locs, Pt.cells, Pt.slots] at X59 l59 y59 z59 st59 hQ59
                subst l59 y59 z59
                obtain ⟨rfl, N59q, e59⟩ := hQ59
                have N59 := Fr.app N56 N59q
                refine own_pre (B := (T59.setTop (mkF m 310 #[.val (.int p1), .val (.int p2), .val (.int p3), .val (.int p4), .val (.int p5), .val (.int nn), .val (.int aa), .val (.int bb), .val (.int cc), .val (.int dd), .val (.int (1 : Int32)), .val (.int (0 : Int32)), .val (.int (1 : Int32)), .val (.ref b45), .val (.int ((((0 : Int32) + (1 : Int32)) + (1 : Int32)) + (1 : Int32))), .val (.ref b49), .val (.int (1 : Int32)), .val (.int (1 : Int32)), .val (.int (0 : Int32)), .val (.int (1 : Int32)), .val (.int (1 : Int32))] [(.int (1 : Int32)), (.ref b45), (.int bb)]))) (fun t kt => ?_) ?_
                · refine st59.trans ?_
                  show Steps p.tables e below (T59.setTop (mkF m 307 _ [(.int bb)])) _
                  refine XS.aload X59.here hx rfl (hb hby at_307) rfl rfl ?_
                  show Steps p.tables e below (T59.setTop (mkF m 309 _ [(.ref b45), (.int bb)])) _
                  refine XS.iconst X59.here hx rfl (hb hby at_309) ?_
                  exact kt
                have pe61 : (own_upd (own_upd (own_upd (fun _ => (0 : Int32)) ((0 : Int32)).toNatClampNeg aa) (((0 : Int32) + (1 : Int32))).toNatClampNeg bb) ((((0 : Int32) + (1 : Int32)) + (1 : Int32))).toNatClampNeg dd) ((1 : Int32)).toNatClampNeg = bb := ((own_upd_ne (by decide)).trans (own_upd_hit (by decide)))
                obtain ⟨cl60, Ar60, S60, P60, H60⟩ := id V_b45_54
                have in60 := inb_of S60 (⟨by decide, by decide⟩ : ¬ (1 : Int32) < 0 ∧ (1 : Int32) < (4 : Int32))
                have at60 : cl60.slots[((1 : Int32)).toNatClampNeg]? = some (.int bb) := (H60 _ (Nat.lt_of_not_le fun y => in60 (Or.inr y))).trans (congrArg (fun z => some (Value.int z)) pe61)
                refine own_pre (B := (T59.setTop (mkF m 335 #[.val (.int p1), .val (.int p2), .val (.int p3), .val (.int p4), .val (.int p5), .val (.int nn), .val (.int aa), .val (.int bb), .val (.int cc), .val (.int dd), .val (.int (1 : Int32)), .val (.int (0 : Int32)), .val (.int (1 : Int32)), .val (.ref b45), .val (.int ((((0 : Int32) + (1 : Int32)) + (1 : Int32)) + (1 : Int32))), .val (.ref b49), .val (.int (1 : Int32)), .val (.int (1 : Int32)), .val (.int (0 : Int32)), .val (.int (1 : Int32)), .val (.int (1 : Int32))] [(.int (2 : Int32)), (.ref b49)]))) (fun t kt => ?_) ?_
                · show Steps p.tables e below (T59.setTop (mkF m 310 _ [(.int (1 : Int32)), (.ref b45), (.int bb)])) _
                  refine X59.iaload hx (j := (1 : Int32)) (v := (.int bb)) (by rw [e59]; exact Ar60.1) (State.isArrayOf_alike hZ.alike Ar60.2.1) Ar60.2.2 in60 at60 (g := (mkF m 310 #[.val (.int p1), .val (.int p2), .val (.int p3), .val (.int p4), .val (.int p5), .val (.int nn), .val (.int aa), .val (.int bb), .val (.int cc), .val (.int dd), .val (.int (1 : Int32)), .val (.int (0 : Int32)), .val (.int (1 : Int32)), .val (.ref b45), .val (.int ((((0 : Int32) + (1 : Int32)) + (1 : Int32)) + (1 : Int32))), .val (.ref b49), .val (.int (1 : Int32)), .val (.int (1 : Int32)), .val (.int (0 : Int32)), .val (.int (1 : Int32)), .val (.int (1 : Int32))] [(.int (1 : Int32)), (.ref b45), (.int bb)])) rfl rfl (hb hby at_310) _ ?_
                  show Steps p.tables e below (T59.setTop (mkF m 311 _ [(.int bb), (.int bb)])) _
                  refine XS.icmpNo X59.here hx rfl (hb hby at_311) rfl (teq (rfl : bb = bb)).2 ?_
                  show Steps p.tables e below (T59.setTop (mkF m 314 _ [])) _
                  refine XS.iconst X59.here hx rfl (hb hby at_314) ?_
                  show Steps p.tables e below (T59.setTop (mkF m 315 _ [(.int (1 : Int32))])) _
                  refine XS.goto X59.here hx rfl (pc0 := 315) (pc' := 319) rfl (hb hby at_315) (by decide) (by decide) ?_
                  show Steps p.tables e below (T59.setTop (mkF m 319 _ [(.int (1 : Int32))])) _
                  refine XS.istore X59.here hx rfl (hb hby at_319) rfl (l' := #[.val (.int p1), .val (.int p2), .val (.int p3), .val (.int p4), .val (.int p5), .val (.int nn), .val (.int aa), .val (.int bb), .val (.int cc), .val (.int dd), .val (.int (1 : Int32)), .val (.int (0 : Int32)), .val (.int (1 : Int32)), .val (.ref b45), .val (.int ((((0 : Int32) + (1 : Int32)) + (1 : Int32)) + (1 : Int32))), .val (.ref b49), .val (.int (1 : Int32)), .val (.int (1 : Int32)), .val (.int (0 : Int32)), .val (.int (1 : Int32)), .val (.int (1 : Int32))]) rfl ?_
                  show Steps p.tables e below (T59.setTop (mkF m 321 _ [])) _
                  refine XS.iload X59.here hx rfl (hb hby at_321) rfl ?_
                  show Steps p.tables e below (T59.setTop (mkF m 323 _ [(.int ((((0 : Int32) + (1 : Int32)) + (1 : Int32)) + (1 : Int32)))])) _
                  refine XS.iconst X59.here hx rfl (hb hby at_323) ?_
                  show Steps p.tables e below (T59.setTop (mkF m 324 _ [(.int (2 : Int32)), (.int ((((0 : Int32) + (1 : Int32)) + (1 : Int32)) + (1 : Int32)))])) _
                  refine XS.icmpNo X59.here hx rfl (hb hby at_324) rfl (tlt ((by decide) : (2 : Int32) < ((((0 : Int32) + (1 : Int32)) + (1 : Int32)) + (1 : Int32)))).2.2.2 ?_
                  show Steps p.tables e below (T59.setTop (mkF m 327 _ [])) _
                  refine XS.iload X59.here hx rfl (hb hby at_327) rfl ?_
                  show Steps p.tables e below (T59.setTop (mkF m 329 _ [(.int (1 : Int32))])) _
                  refine XS.ifNo X59.here hx rfl (hb hby at_329) rfl ((if0 _ _).trans (feq ((by decide) : ¬ ((1 : Int32) = (0 : Int32)))).1) ?_
                  show Steps p.tables e below (T59.setTop (mkF m 332 _ [])) _
                  refine XS.aload X59.here hx rfl (hb hby at_332) rfl rfl ?_
                  show Steps p.tables e below (T59.setTop (mkF m 334 _ [(.ref b49)])) _
                  refine XS.iconst X59.here hx rfl (hb hby at_334) ?_
                  exact kt
                have pg62 : (own_upd (own_upd (own_upd (fun _ => (0 : Int32)) ((0 : Int32)).toNatClampNeg aa) (((0 : Int32) + (1 : Int32))).toNatClampNeg bb) ((((0 : Int32) + (1 : Int32)) + (1 : Int32))).toNatClampNeg dd) ((2 : Int32)).toNatClampNeg = dd := (own_upd_hit (by decide))
                obtain ⟨cq62, kq62, q62a, q62b, q62c⟩ := isOf hZ e59 M54.1
                obtain ⟨_, _, ⟨T62, L62, k62, n62⟩, -, X62, ⟨Lc62, hQ62, l62, y62, z62⟩, st62⟩ := X59.virtualBack hx (y := (⟨"com/example/faregraph/faregraph/search/Members", "get", "(I)I"⟩ : MethodName)) (z := (⟨"com/example/faregraph/faregraph/search/Members", "get", "(I)I"⟩ : MethodName)) hown (mvT hZ (hw _ (List.mem_of_getElem? (i := 28) rfl))) (mvT hZ (hw _ (List.mem_of_getElem? (i := 29) rfl))) (notFace_of_selects (args := #[]) (mvT hZ (hw _ (List.mem_of_getElem? (i := 31) rfl)))) (mvT hZ (hw _ (List.mem_of_getElem? (i := 31) rfl))) (mvT hZ (hw _ (List.mem_of_getElem? (i := 30) rfl))) (by decide) (backOf (W := 0) (rm5 l Z a0 hw [] b49 mb mc nn ((((0 : Int32) + (1 : Int32)) + (1 : Int32)) + (1 : Int32)) (own_upd (own_upd (own_upd (fun _ => (0 : Int32)) (aa).toNatClampNeg 1) (bb).toNatClampNeg 1) (dd).toNatClampNeg 1) (own_upd (own_upd (own_upd (fun _ => (0 : Int32)) ((0 : Int32)).toNatClampNeg aa) (((0 : Int32) + (1 : Int32))).toNatClampNeg bb) ((((0 : Int32) + (1 : Int32)) + (1 : Int32))).toNatClampNeg dd) (2 : Int32) dd T54.heap n0 (Nat.le_trans (Nat.le_trans (Nat.le_trans (Nat.le_trans (Nat.le_trans (Nat.le_trans (Nat.le_trans (Nat.le_trans (Nat.le_trans Z0 E45.1) (Keep.of_wr W46).1) (Keep.of_wr W47).1) (Keep.of_wr W48).1) E49.1) KK50.1) KK51.1) KK52.1) KK54.1) M54 (own_rng' (by have e : ((2 : Int32)).toInt = 2 := (by decide); omega)) pg62) hZ (hw _ (List.mem_of_getElem? (i := 32) rfl)) (hw _ (List.mem_of_getElem? (i := 4) rfl)) (by decide) (by decide)) q62a q62c (g := (mkF m 335 #[.val (.int p1), .val (.int p2), .val (.int p3), .val (.int p4), .val (.int p5), .val (.int nn), .val (.int aa), .val (.int bb), .val (.int cc), .val (.int dd), .val (.int (1 : Int32)), .val (.int (0 : Int32)), .val (.int (1 : Int32)), .val (.ref b45), .val (.int ((((0 : Int32) + (1 : Int32)) + (1 : Int32)) + (1 : Int32))), .val (.ref b49), .val (.int (1 : Int32)), .val (.int (1 : Int32)), .val (.int (0 : Int32)), .val (.int (1 : Int32)), .val (.int (1 : Int32))] [(.int (2 : Int32)), (.ref b49)])) rfl (by rw [hml]; rfl) (Steps.refl _) (argsL := [(.int (2 : Int32))]) (rest := []) (lenOf pd_4 rfl) rfl (by show 2 * 0 + _ ≤ _; exact Nat.le_of_eq rfl) (hb hby at_335) (fun _ _ => ⟨rfl, e59, (by decide : 4 + 0 ≤ _), (by decide : 23 + 0 ≤ _)⟩)
                dsimp only [Pt.U, Pt.locs, Pt.cells, Pt.slots] at X62 l62 y62 z62 st62 hQ62
                subst l62 y62 z62
                obtain ⟨rfl, N62q, e62⟩ := hQ62
                have N62 := Fr.app N59 N62q
                refine own_pre (B := (T62.setTop (mkF m 341 #[.val (.int p1), .val (.int p2), .val (.int p3), .val (.int p4), .val (.int p5), .val (.int nn), .val (.int aa), .val (.int bb), .val (.int cc), .val (.int dd), .val (.int (1 : Int32)), .val (.int (0 : Int32)), .val (.int (1 : Int32)), .val (.ref b45), .val (.int ((((0 : Int32) + (1 : Int32)) + (1 : Int32)) + (1 : Int32))), .val (.ref b49), .val (.int (1 : Int32)), .val (.int (1 : Int32)), .val (.int (0 : Int32)), .val (.int (1 : Int32)), .val (.int (1 : Int32))] [(.int (2 : Int32)), (.ref b45), (.int dd)]))) (fun t kt => ?_) ?_
                · refine st62.trans ?_
                  show Steps p.tables e below (T62.setTop (mkF m 338 _ [(.int dd)])) _
                  refine XS.aload X62.here hx rfl (hb hby at_338) rfl rfl ?_
                  show Steps p.tables e below (T62.setTop (mkF m 340 _ [(.ref b45), (.int dd)])) _
                  refine XS.iconst X62.here hx rfl (hb hby at_340) ?_
                  exact kt
                have pe64 : (own_upd (own_upd (own_upd (fun _ => (0 : Int32)) ((0 : Int32)).toNatClampNeg aa) (((0 : Int32) + (1 : Int32))).toNatClampNeg bb) ((((0 : Int32) + (1 : Int32)) + (1 : Int32))).toNatClampNeg dd) ((2 : Int32)).toNatClampNeg = dd := (own_upd_hit (by decide))
                obtain ⟨cl63, Ar63, S63, P63, H63⟩ := id V_b45_54
                have in63 := inb_of S63 (⟨by decide, by decide⟩ : ¬ (2 : Int32) < 0 ∧ (2 : Int32) < (4 : Int32))
                have at63 : cl63.slots[((2 : Int32)).toNatClampNeg]? = some (.int dd) := (H63 _ (Nat.lt_of_not_le fun y => in63 (Or.inr y))).trans (congrArg (fun z => some (Value.int z)) pe64)
                refine own_pre (B := (T62.setTop (mkF m 385 #[.val (.int p1), .val (.int p2), .val (.int p3), .val (.int p4), .val (.int p5), .val (.int nn), .val (.int aa), .val (.int bb), .val (.int cc), .val (.int dd), .val (.int (1 : Int32)), .val (.int (0 : Int32)), .val (.int (1 : Int32)), .val (.ref b45), .val (.int ((((0 : Int32) + (1 : Int32)) + (1 : Int32)) + (1 : Int32))), .val (.ref b49), .val (.int (1 : Int32)), .val (.int (1 : Int32)), .val (.int (0 : Int32)), .val (.int (1 : Int32)), .val (.int (1 : Int32))] [(.int (1 : Int32))]))) (fun t kt => ?_) ?_
                · show Steps p.tables e below (T62.setTop (mkF m 341 _ [(.int (2 : Int32)), (.ref b45), (.int dd)])) _
                  refine X62.iaload hx (j := (2 : Int32)) (v := (.int dd)) (by rw [e62]; exact Ar63.1) (State.isArrayOf_alike hZ.alike Ar63.2.1) Ar63.2.2 in63 at63 (g := (mkF m 341 #[.val (.int p1), .val (.int p2), .val (.int p3), .val (.int p4), .val (.int p5), .val (.int nn), .val (.int aa), .val (.int bb), .val (.int cc), .val (.int dd), .val (.int (1 : Int32)), .val (.int (0 : Int32)), .val (.int (1 : Int32)), .val (.ref b45), .val (.int ((((0 : Int32) + (1 : Int32)) + (1 : Int32)) + (1 : Int32))), .val (.ref b49), .val (.int (1 : Int32)), .val (.int (1 : Int32)), .val (.int (0 : Int32)), .val (.int (1 : Int32)), .val (.int (1 : Int32))] [(.int (2 : Int32)), (.ref b45), (.int dd)])) rfl rfl (hb hby at_341) _ ?_
                  show Steps p.tables e below (T62.setTop (mkF m 342 _ [(.int dd), (.int dd)])) _
                  refine XS.icmpNo X62.here hx rfl (hb hby at_342) rfl (teq (rfl : dd = dd)).2 ?_
                  show Steps p.tables e below (T62.setTop (mkF m 345 _ [])) _
                  refine XS.iconst X62.here hx rfl (hb hby at_345) ?_
                  show Steps p.tables e below (T62.setTop (mkF m 346 _ [(.int (1 : Int32))])) _
                  refine XS.goto X62.here hx rfl (pc0 := 346) (pc' := 350) rfl (hb hby at_346) (by decide) (by decide) ?_
                  show Steps p.tables e below (T62.setTop (mkF m 350 _ [(.int (1 : Int32))])) _
                  refine XS.istore X62.here hx rfl (hb hby at_350) rfl (l' := #[.val (.int p1), .val (.int p2), .val (.int p3), .val (.int p4), .val (.int p5), .val (.int nn), .val (.int aa), .val (.int bb), .val (.int cc), .val (.int dd), .val (.int (1 : Int32)), .val (.int (0 : Int32)), .val (.int (1 : Int32)), .val (.ref b45), .val (.int ((((0 : Int32) + (1 : Int32)) + (1 : Int32)) + (1 : Int32))), .val (.ref b49), .val (.int (1 : Int32)), .val (.int (1 : Int32)), .val (.int (0 : Int32)), .val (.int (1 : Int32)), .val (.int (1 : Int32))]) rfl ?_
                  show Steps p.tables e below (T62.setTop (mkF m 352 _ [])) _
                  refine XS.iload X62.here hx rfl (hb hby at_352) rfl ?_
                  show Steps p.tables e below (T62.setTop (mkF m 354 _ [(.int ((((0 : Int32) + (1 : Int32)) + (1 : Int32)) + (1 : Int32)))])) _
                  refine XS.iconst X62.here hx rfl (hb hby at_354) ?_
                  show Steps p.tables e below (T62.setTop (mkF m 355 _ [(.int (3 : Int32)), (.int ((((0 : Int32) + (1 : Int32)) + (1 : Int32)) + (1 : Int32)))])) _
                  refine XS.icmpYes X62.here hx rfl (pc0 := 355) (pc' := 383) rfl (hb hby at_355) rfl (flt ((by decide) : ¬ ((3 : Int32) < ((((0 : Int32) + (1 : Int32)) + (1 : Int32)) + (1 : Int32))))).2.2.2 (by decide) (by decide) ?_
                  show Steps p.tables e below (T62.setTop (mkF m 383 _ [])) _
                  refine XS.iload X62.here hx rfl (hb hby at_383) rfl ?_
                  exact kt
                exact own_fin X62 (some (.int (1 : Int32))) (fun h => by rw [Bd.returns] at h; cases h) (BodyLoose.notSynchronized Bd) e62 (fun fs hr => retN X62 hx (t := .boolean) Bd.returns (by simp) (hb hby at_385) hr) ⟨rfl, N62⟩ (by decide) (by decide)
              · refine own_pre (B := (s₁.setTop (mkF m 109 #[.val (.int p1), .val (.int p2), .val (.int p3), .val (.int p4), .val (.int p5), .val (.int nn), .val (.int aa), .val (.int bb), .val (.int cc), .val (.int dd), .val (.int (1 : Int32)), .val (.int (0 : Int32)), .val (.int (0 : Int32)), .unset, .unset, .unset, .unset, .unset, .unset, .unset, .unset] [(.int (4 : Int32))]))) (fun t kt => ?_) ?_
                · show Steps p.tables e below (s₁.setTop (mkF m 108 _ [])) _
                  refine XS.iconst X0.here hx rfl (hb hby at_108) ?_
                  exact kt
                obtain ⟨T65, h65, k65, X65, e65, E65, A65, st65⟩ := newP X0 hx hZ (hw _ (List.mem_of_getElem? (i := 1) rfl)) e0 (g := (mkF m 109 #[.val (.int p1), .val (.int p2), .val (.int p3), .val (.int p4), .val (.int p5), .val (.int nn), .val (.int aa), .val (.int bb), .val (.int cc), .val (.int dd), .val (.int (1 : Int32)), .val (.int (0 : Int32)), .val (.int (0 : Int32)), .unset, .unset, .unset, .unset, .unset, .unset, .unset, .unset] [(.int (4 : Int32))])) rfl (hb hby at_109) rfl (by decide) (cap := 4) (by decide) (by decide) (by decide) (by decide)
                obtain ⟨b65, g65⟩ : ∃ z, z = h0.size := ⟨_, rfl⟩
                have g_b65 : n0 ≤ b65 := Nat.le_trans Z0 (Nat.le_of_eq g65.symm)
                have sz_b65 : h0.size ≤ b65 := Nat.le_trans (Keep.refl h0 []).1 (Nat.le_of_eq g65.symm)
                rw [← g65] at A65 st65
                have K65 := Keep.ext (Keep.refl h0 []) E65
                have V_b65 := own_Arr.new A65 (by decide) rfl
                refine own_pre (B := (T65.setTop (mkF m 122 #[.val (.int p1), .val (.int p2), .val (.int p3), .val (.int p4), .val (.int p5), .val (.int nn), .val (.int aa), .val (.int bb), .val (.int cc), .val (.int dd), .val (.int (1 : Int32)), .val (.int (0 : Int32)), .val (.int (0 : Int32)), .val (.ref b65), .val (.int (0 : Int32)), .unset, .unset, .unset, .unset, .unset, .unset] [(.int aa), (.int (0 : Int32)), (.ref b65)]))) (fun t kt => ?_) ?_
                · show Steps p.tables e below (s₁.setTop (mkF m 109 _ [(.int (4 : Int32))])) _
                  refine st65 _ ?_
                  show Steps p.tables e below (T65.setTop (mkF m 111 _ [(.ref b65)])) _
                  refine XS.astore X65.here hx rfl (hb hby at_111) rfl rfl (l' := #[.val (.int p1), .val (.int p2), .val (.int p3), .val (.int p4), .val (.int p5), .val (.int nn), .val (.int aa), .val (.int bb), .val (.int cc), .val (.int dd), .val (.int (1 : Int32)), .val (.int (0 : Int32)), .val (.int (0 : Int32)), .val (.ref b65), .unset, .unset, .unset, .unset, .unset, .unset, .unset]) rfl ?_
                  show Steps p.tables e below (T65.setTop (mkF m 113 _ [])) _
                  refine XS.iconst X65.here hx rfl (hb hby at_113) ?_
                  show Steps p.tables e below (T65.setTop (mkF m 114 _ [(.int (0 : Int32))])) _
                  refine XS.istore X65.here hx rfl (hb hby at_114) rfl (l' := #[.val (.int p1), .val (.int p2), .val (.int p3), .val (.int p4), .val (.int p5), .val (.int nn), .val (.int aa), .val (.int bb), .val (.int cc), .val (.int dd), .val (.int (1 : Int32)), .val (.int (0 : Int32)), .val (.int (0 : Int32)), .val (.ref b65), .val (.int (0 : Int32)), .unset, .unset, .unset, .unset, .unset, .unset]) rfl ?_
                  show Steps p.tables e below (T65.setTop (mkF m 116 _ [])) _
                  refine XS.aload X65.here hx rfl (hb hby at_116) rfl rfl ?_
                  show Steps p.tables e below (T65.setTop (mkF m 118 _ [(.ref b65)])) _
                  refine XS.iload X65.here hx rfl (hb hby at_118) rfl ?_
                  show Steps p.tables e below (T65.setTop (mkF m 120 _ [(.int (0 : Int32)), (.ref b65)])) _
                  refine XS.iload X65.here hx rfl (hb hby at_120) rfl ?_
                  exact kt
                obtain ⟨cl66, Ar66, S66, P66, H66⟩ := id V_b65
                have in66 := inb_of S66 (⟨by decide, by decide⟩ : ¬ (0 : Int32) < 0 ∧ (0 : Int32) < (4 : Int32))
                obtain ⟨T66, h66, X66, e66, W66, st66⟩ := stI X65 hx hZ e65 Ar66 (j := (0 : Int32)) in66 (g := (mkF m 122 #[.val (.int p1), .val (.int p2), .val (.int p3), .val (.int p4), .val (.int p5), .val (.int nn), .val (.int aa), .val (.int bb), .val (.int cc), .val (.int dd), .val (.int (1 : Int32)), .val (.int (0 : Int32)), .val (.int (0 : Int32)), .val (.ref b65), .val (.int (0 : Int32)), .unset, .unset, .unset, .unset, .unset, .unset] [(.int aa), (.int (0 : Int32)), (.ref b65)])) rfl rfl (hb hby at_122)
                have V_b65_66 := V_b65.set W66
                have N66 := Fr.snoc X66 N0 g_b65
                have K66 := Keep.wr K65 W66 (Or.inr sz_b65)
                refine own_pre (B := (T66.setTop (mkF m 140 #[.val (.int p1), .val (.int p2), .val (.int p3), .val (.int p4), .val (.int p5), .val (.int nn), .val (.int aa), .val (.int bb), .val (.int cc), .val (.int dd), .val (.int (1 : Int32)), .val (.int (0 : Int32)), .val (.int (0 : Int32)), .val (.ref b65), .val (.int ((0 : Int32) + (1 : Int32))), .unset, .unset, .unset, .unset, .unset, .unset] [(.int bb), (.int ((0 : Int32) + (1 : Int32))), (.ref b65)]))) (fun t kt => ?_) ?_
                · show Steps p.tables e below (T65.setTop (mkF m 122 _ [(.int aa), (.int (0 : Int32)), (.ref b65)])) _
                  refine st66 _ ?_
                  show Steps p.tables e below (T66.setTop (mkF m 123 _ [])) _
                  refine XS.iload X66.here hx rfl (hb hby at_123) rfl ?_
                  show Steps p.tables e below (T66.setTop (mkF m 125 _ [(.int (0 : Int32))])) _
                  refine XS.iconst X66.here hx rfl (hb hby at_125) ?_
                  show Steps p.tables e below (T66.setTop (mkF m 126 _ [(.int (1 : Int32)), (.int (0 : Int32))])) _
                  refine XS.iadd X66.here hx rfl (hb hby at_126) rfl ?_
                  show Steps p.tables e below (T66.setTop (mkF m 127 _ [(.int ((0 : Int32) + (1 : Int32)))])) _
                  refine XS.istore X66.here hx rfl (hb hby at_127) rfl (l' := #[.val (.int p1), .val (.int p2), .val (.int p3), .val (.int p4), .val (.int p5), .val (.int nn), .val (.int aa), .val (.int bb), .val (.int cc), .val (.int dd), .val (.int (1 : Int32)), .val (.int (0 : Int32)), .val (.int (0 : Int32)), .val (.ref b65), .val (.int ((0 : Int32) + (1 : Int32))), .unset, .unset, .unset, .unset, .unset, .unset]) rfl ?_
                  show Steps p.tables e below (T66.setTop (mkF m 129 _ [])) _
                  refine XS.iload X66.here hx rfl (hb hby at_129) rfl ?_
                  show Steps p.tables e below (T66.setTop (mkF m 131 _ [(.int (1 : Int32))])) _
                  refine XS.ifNo X66.here hx rfl (hb hby at_131) rfl ((if0 _ _).trans (feq ((by decide) : ¬ ((1 : Int32) = (0 : Int32)))).1) ?_
                  show Steps p.tables e below (T66.setTop (mkF m 134 _ [])) _
                  refine XS.aload X66.here hx rfl (hb hby at_134) rfl rfl ?_
                  show Steps p.tables e below (T66.setTop (mkF m 136 _ [(.ref b65)])) _
                  refine XS.iload X66.here hx rfl (hb hby at_136) rfl ?_
                  show Steps p.tables e below (T66.setTop (mkF m 138 _ [(.int ((0 : Int32) + (1 : Int32))), (.ref b65)])) _
                  refine XS.iload X66.here hx rfl (hb hby at_138) rfl ?_
                  exact kt
                obtain ⟨cl67, Ar67, S67, P67, H67⟩ := id V_b65_66
                have in67 := inb_of S67 (⟨by decide, by decide⟩ : ¬ ((0 : Int32) + (1 : Int32)) < 0 ∧ ((0 : Int32) + (1 : Int32)) < (4 : Int32))
                obtain ⟨T67, h67, X67, e67, W67, st67⟩ := stI X66 hx hZ e66 Ar67 (j := ((0 : Int32) + (1 : Int32))) in67 (g := (mkF m 140 #[.val (.int p1), .val (.int p2), .val (.int p3), .val (.int p4), .val (.int p5), .val (.int nn), .val (.int aa), .val (.int bb), .val (.int cc), .val (.int dd), .val (.int (1 : Int32)), .val (.int (0 : Int32)), .val (.int (0 : Int32)), .val (.ref b65), .val (.int ((0 : Int32) + (1 : Int32))), .unset, .unset, .unset, .unset, .unset, .unset] [(.int bb), (.int ((0 : Int32) + (1 : Int32))), (.ref b65)])) rfl rfl (hb hby at_140)
                have V_b65_67 := V_b65_66.set W67
                have N67 := Fr.snoc X67 N66 g_b65
                have K67 := Keep.wr K66 W67 (Or.inr sz_b65)
                refine own_pre (B := (T67.setTop (mkF m 183 #[.val (.int p1), .val (.int p2), .val (.int p3), .val (.int p4), .val (.int p5), .val (.int nn), .val (.int aa), .val (.int bb), .val (.int cc), .val (.int dd), .val (.int (1 : Int32)), .val (.int (0 : Int32)), .val (.int (0 : Int32)), .val (.ref b65), .val (.int (((0 : Int32) + (1 : Int32)) + (1 : Int32))), .unset, .unset, .unset, .unset, .unset, .unset] []))) (fun t kt => ?_) ?_
                · show Steps p.tables e below (T66.setTop (mkF m 140 _ [(.int bb), (.int ((0 : Int32) + (1 : Int32))), (.ref b65)])) _
                  refine st67 _ ?_
                  show Steps p.tables e below (T67.setTop (mkF m 141 _ [])) _
                  refine XS.iload X67.here hx rfl (hb hby at_141) rfl ?_
                  show Steps p.tables e below (T67.setTop (mkF m 143 _ [(.int ((0 : Int32) + (1 : Int32)))])) _
                  refine XS.iconst X67.here hx rfl (hb hby at_143) ?_
                  show Steps p.tables e below (T67.setTop (mkF m 144 _ [(.int (1 : Int32)), (.int ((0 : Int32) + (1 : Int32)))])) _
                  refine XS.iadd X67.here hx rfl (hb hby at_144) rfl ?_
                  show Steps p.tables e below (T67.setTop (mkF m 145 _ [(.int (((0 : Int32) + (1 : Int32)) + (1 : Int32)))])) _
                  refine XS.istore X67.here hx rfl (hb hby at_145) rfl (l' := #[.val (.int p1), .val (.int p2), .val (.int p3), .val (.int p4), .val (.int p5), .val (.int nn), .val (.int aa), .val (.int bb), .val (.int cc), .val (.int dd), .val (.int (1 : Int32)), .val (.int (0 : Int32)), .val (.int (0 : Int32)), .val (.ref b65), .val (.int (((0 : Int32) + (1 : Int32)) + (1 : Int32))), .unset, .unset, .unset, .unset, .unset, .unset]) rfl ?_
                  show Steps p.tables e below (T67.setTop (mkF m 147 _ [])) _
                  refine XS.iload X67.here hx rfl (hb hby at_147) rfl ?_
                  show Steps p.tables e below (T67.setTop (mkF m 149 _ [(.int (0 : Int32))])) _
                  refine XS.ifYes X67.here hx rfl (pc0 := 149) (pc' := 165) rfl (hb hby at_149) rfl ((if0 _ _).trans (teq (rfl : (0 : Int32) = (0 : Int32))).1) (by decide) (by decide) ?_
                  show Steps p.tables e below (T67.setTop (mkF m 165 _ [])) _
                  refine XS.iload X67.here hx rfl (hb hby at_165) rfl ?_
                  show Steps p.tables e below (T67.setTop (mkF m 167 _ [(.int (0 : Int32))])) _
                  refine XS.ifYes X67.here hx rfl (pc0 := 167) (pc' := 183) rfl (hb hby at_167) rfl ((if0 _ _).trans (teq (rfl : (0 : Int32) = (0 : Int32))).1) (by decide) (by decide) ?_
                  exact kt
                obtain ⟨T68, h68, X68, e68, E68, A68, D68, -, st68⟩ := newO X67 hx hZ hown (hw _ (List.mem_of_getElem? (i := 2) rfl)) (hw _ (List.mem_of_getElem? (i := 3) rfl)) (hw _ (List.mem_of_getElem? (i := 4) rfl)) e67 (g := (mkF m 183 #[.val (.int p1), .val (.int p2), .val (.int p3), .val (.int p4), .val (.int p5), .val (.int nn), .val (.int aa), .val (.int bb), .val (.int cc), .val (.int dd), .val (.int (1 : Int32)), .val (.int (0 : Int32)), .val (.int (0 : Int32)), .val (.ref b65), .val (.int (((0 : Int32) + (1 : Int32)) + (1 : Int32))), .unset, .unset, .unset, .unset, .unset, .unset] [])) rfl (hb hby at_183) (by decide) (by decide)
                obtain ⟨b68, g68⟩ : ∃ z, z = h67.size := ⟨_, rfl⟩
                have ne_b65_b68 : b65 ≠ b68 := Nat.ne_of_lt (Nat.lt_of_lt_of_le V_b65_67.lt (Nat.le_of_eq g68.symm))
                have g_b68 : n0 ≤ b68 := Nat.le_trans (Nat.le_trans (Nat.le_trans (Nat.le_trans Z0 E65.1) (Keep.of_wr W66).1) (Keep.of_wr W67).1) (Nat.le_of_eq g68.symm)
                have sz_b68 : h0.size ≤ b68 := Nat.le_trans K67.1 (Nat.le_of_eq g68.symm)
                rw [← g68] at A68 D68 st68
                have V_b65_68 := V_b65_67.ext E68
                have K68 := Keep.ext K67 E68
                have E_b68 := A68
                have F_member_b68 : Fld Z h68 b68 "com/example/faregraph/faregraph/search/Members" "member" "[Z" .null := D68 (Or.inr (hw _ (List.mem_of_getElem? (i := 13) rfl))) (ty := (.array .boolean)) (by decide)
                have F_members_b68 : Fld Z h68 b68 "com/example/faregraph/faregraph/search/Members" "members" "[I" .null := D68 (Or.inr (hw _ (List.mem_of_getElem? (i := 15) rfl))) (ty := (.array .int)) (by decide)
                have F_count_b68 : Fld Z h68 b68 "com/example/faregraph/faregraph/search/Members" "count" "I" (.int (0 : Int32)) := D68 (Or.inl (hw _ (List.mem_of_getElem? (i := 22) rfl))) (ty := .int) (by decide)
                refine own_pre (B := (T68.setTop (mkF m 189 #[.val (.int p1), .val (.int p2), .val (.int p3), .val (.int p4), .val (.int p5), .val (.int nn), .val (.int aa), .val (.int bb), .val (.int cc), .val (.int dd), .val (.int (1 : Int32)), .val (.int (0 : Int32)), .val (.int (0 : Int32)), .val (.ref b65), .val (.int (((0 : Int32) + (1 : Int32)) + (1 : Int32))), .unset, .unset, .unset, .unset, .unset, .unset] [(.int nn), (.ref b68), (.ref b68)]))) (fun t kt => ?_) ?_
                · show Steps p.tables e below (T67.setTop (mkF m 183 _ [])) _
                  refine st68 _ ?_
                  show Steps p.tables e below (T68.setTop (mkF m 186 _ [(.ref b68)])) _
                  refine XS.dup X68.here hx rfl (hb hby at_186) rfl rfl ?_
                  show Steps p.tables e below (T68.setTop (mkF m 187 _ [(.ref b68), (.ref b68)])) _
                  refine XS.iload X68.here hx rfl (hb hby at_187) rfl ?_
                  exact kt
                obtain ⟨_, _, ⟨T69, L69, k69, n69⟩, -, X69, ⟨Lc69, hQ69, l69, y69, z69⟩, st69⟩ := X68.specialBack hx (y := (⟨"com/example/faregraph/faregraph/search/Members", "<init>", "(I)V"⟩ : MethodName)) rfl hown (mvT hZ (hw _ (List.mem_of_getElem? (i := 5) rfl))) (mvT hZ (hw _ (List.mem_of_getElem? (i := 6) rfl))) (mvT hZ (hw _ (List.mem_of_getElem? (i := 7) rfl))) (by decide) (backOf (W := 1) (rm1 l Z a0 hw [] b68 nn h68 n0 (Nat.le_trans (Nat.le_trans (Nat.le_trans (Nat.le_trans Z0 E65.1) (Keep.of_wr W66).1) (Keep.of_wr W67).1) E68.1) E_b68 F_member_b68 F_members_b68 F_count_b68 g_b68 hnn hcap) hZ (hw _ (List.mem_of_getElem? (i := 7) rfl)) (hw _ (List.mem_of_getElem? (i := 4) rfl)) (by decide) (by decide)) (g := (mkF m 189 #[.val (.int p1), .val (.int p2), .val (.int p3), .val (.int p4), .val (.int p5), .val (.int nn), .val (.int aa), .val (.int bb), .val (.int cc), .val (.int dd), .val (.int (1 : Int32)), .val (.int (0 : Int32)), .val (.int (0 : Int32)), .val (.ref b65), .val (.int (((0 : Int32) + (1 : Int32)) + (1 : Int32))), .unset, .unset, .unset, .unset, .unset, .unset] [(.int nn), (.ref b68), (.ref b68)])) rfl (by rw [hml]; rfl) (Steps.refl _) (a := b68) (argsL := [(.int nn)]) (rest := [(.ref b68)]) (lenOf pd_0 rfl) rfl (by show 2 * 0 + _ ≤ _; exact Nat.le_of_eq rfl) (hb hby at_189) (fun _ _ => ⟨rfl, e68, (by decide : 2 + 2 ≤ _), (by decide : 7 + 16 ≤ _)⟩)
                dsimp only [Pt.U, Pt.locs, Pt.cells, Pt.slots] at X69 l69 y69 z69 st69 hQ69
                subst l69 y69 z69
                obtain ⟨rfl, N69q, KK69, mb, mc, szb, szc, M69⟩ := hQ69
                have N69 := Fr.app N67 N69q
                have ne_b65_mb : b65 ≠ mb := Nat.ne_of_lt (Nat.lt_of_lt_of_le V_b65_68.lt szb)
                have ne_b65_mc : b65 ≠ mc := Nat.ne_of_lt (Nat.lt_of_lt_of_le V_b65_68.lt szc)
                have g_mb : n0 ≤ mb := Nat.le_trans (Nat.le_trans (Nat.le_trans (Nat.le_trans (Nat.le_trans Z0 E65.1) (Keep.of_wr W66).1) (Keep.of_wr W67).1) E68.1) szb
                have g_mc : n0 ≤ mc := Nat.le_trans (Nat.le_trans (Nat.le_trans (Nat.le_trans (Nat.le_trans Z0 E65.1) (Keep.of_wr W66).1) (Keep.of_wr W67).1) E68.1) szc
                have sz_mb : h0.size ≤ mb := Nat.le_trans K68.1 szb
                have sz_mc : h0.size ≤ mc := Nat.le_trans K68.1 szc
                have V_b65_69 := V_b65_68.keep KK69 (ninS ne_b65_b68 nin0)
                have E_b68_69 := E_b68.keep KK69
                have KC69 := Keep.trans K68 KK69 (allS (P := fun x => x ∈ [] ∨ h0.size ≤ x) (Or.inr sz_b68) all0)
                refine own_pre (B := (T69.setTop (mkF m 198 #[.val (.int p1), .val (.int p2), .val (.int p3), .val (.int p4), .val (.int p5), .val (.int nn), .val (.int aa), .val (.int bb), .val (.int cc), .val (.int dd), .val (.int (1 : Int32)), .val (.int (0 : Int32)), .val (.int (0 : Int32)), .val (.ref b65), .val (.int (((0 : Int32) + (1 : Int32)) + (1 : Int32))), .val (.ref b68), .unset, .unset, .unset, .unset, .unset] [(.int aa), (.ref b68)]))) (fun t kt => ?_) ?_
                · refine st69.trans ?_
                  show Steps p.tables e below (T69.setTop (mkF m 192 _ [(.ref b68)])) _
                  refine XS.astore X69.here hx rfl (hb hby at_192) rfl rfl (l' := #[.val (.int p1), .val (.int p2), .val (.int p3), .val (.int p4), .val (.int p5), .val (.int nn), .val (.int aa), .val (.int bb), .val (.int cc), .val (.int dd), .val (.int (1 : Int32)), .val (.int (0 : Int32)), .val (.int (0 : Int32)), .val (.ref b65), .val (.int (((0 : Int32) + (1 : Int32)) + (1 : Int32))), .val (.ref b68), .unset, .unset, .unset, .unset, .unset]) rfl ?_
                  show Steps p.tables e below (T69.setTop (mkF m 194 _ [])) _
                  refine XS.aload X69.here hx rfl (hb hby at_194) rfl rfl ?_
                  show Steps p.tables e below (T69.setTop (mkF m 196 _ [(.ref b68)])) _
                  refine XS.iload X69.here hx rfl (hb hby at_196) rfl ?_
                  exact kt
                have hk0 : ¬ (0 : Int32) < 0 ∧ (0 : Int32) < nn := own_rng' (by have e : ((0 : Int32)).toInt = 0 := (by decide); omega)
                have hf_aa : (fun _ => (0 : Int32)) (aa).toNatClampNeg = 0 := by
                  simp only [own_upd, own_tn]
                obtain ⟨cq70, kq70, q70a, q70b, q70c⟩ := isOf hZ rfl M69.1
                obtain ⟨_, _, ⟨T70, L70, k70, n70⟩, -, X70, ⟨Lc70, hQ70, l70, y70, z70⟩, st70⟩ := X69.virtualBack hx (y := (⟨"com/example/faregraph/faregraph/search/Members", "add", "(I)Z"⟩ : MethodName)) (z := (⟨"com/example/faregraph/faregraph/search/Members", "add", "(I)Z"⟩ : MethodName)) hown (mvT hZ (hw _ (List.mem_of_getElem? (i := 16) rfl))) (mvT hZ (hw _ (List.mem_of_getElem? (i := 17) rfl))) (notFace_of_selects (args := #[]) (mvT hZ (hw _ (List.mem_of_getElem? (i := 19) rfl)))) (mvT hZ (hw _ (List.mem_of_getElem? (i := 19) rfl))) (mvT hZ (hw _ (List.mem_of_getElem? (i := 18) rfl))) (by decide) (backOf (W := 0) (rm3n l Z a0 hw [] b68 mb mc nn (0 : Int32) (fun _ => (0 : Int32)) (fun _ => (0 : Int32)) aa T69.heap n0 (Nat.le_trans (Nat.le_trans (Nat.le_trans (Nat.le_trans (Nat.le_trans Z0 E65.1) (Keep.of_wr W66).1) (Keep.of_wr W67).1) E68.1) KK69.1) M69 ra hk0 hf_aa) hZ (hw _ (List.mem_of_getElem? (i := 20) rfl)) (hw _ (List.mem_of_getElem? (i := 4) rfl)) (by decide) (by decide)) q70a q70c (g := (mkF m 198 #[.val (.int p1), .val (.int p2), .val (.int p3), .val (.int p4), .val (.int p5), .val (.int nn), .val (.int aa), .val (.int bb), .val (.int cc), .val (.int dd), .val (.int (1 : Int32)), .val (.int (0 : Int32)), .val (.int (0 : Int32)), .val (.ref b65), .val (.int (((0 : Int32) + (1 : Int32)) + (1 : Int32))), .val (.ref b68), .unset, .unset, .unset, .unset, .unset] [(.int aa), (.ref b68)])) rfl (by rw [hml]; rfl) (Steps.refl _) (argsL := [(.int aa)]) (rest := []) (lenOf pd_2 rfl) rfl (by show 2 * 0 + _ ≤ _; exact Nat.le_of_eq rfl) (hb hby at_198) (fun _ _ => ⟨rfl, rfl, (by decide : 4 + 0 ≤ _), (by decide : 23 + 0 ≤ _)⟩)
                dsimp only [Pt.U, Pt.locs, Pt.cells, Pt.slots] at X70 l70 y70 z70 st70 hQ70
                subst l70 y70 z70
                obtain ⟨rfl, N70q, KK70, M70⟩ := hQ70
                have N70 := Fr.app N69 N70q
                have V_b65_70 := V_b65_69.keep KK70 (ninS ne_b65_b68 (ninS ne_b65_mb (ninS ne_b65_mc nin0)))
                have E_b68_70 := E_b68_69.keep KK70
                have KC70 := Keep.trans KC69 KK70 (allS (P := fun x => x ∈ [] ∨ h0.size ≤ x) (Or.inr sz_b68) (allS (P := fun x => x ∈ [] ∨ h0.size ≤ x) (Or.inr sz_mb) (allS (P := fun x => x ∈ [] ∨ h0.size ≤ x) (Or.inr sz_mc) all0)))
                refine own_pre (B := (T70.setTop (mkF m 207 #[.val (.int p1), .val (.int p2), .val (.int p3), .val (.int p4), .val (.int p5), .val (.int nn), .val (.int aa), .val (.int bb), .val (.int cc), .val (.int dd), .val (.int (1 : Int32)), .val (.int (0 : Int32)), .val (.int (0 : Int32)), .val (.ref b65), .val (.int (((0 : Int32) + (1 : Int32)) + (1 : Int32))), .val (.ref b68), .val (.int (1 : Int32)), .unset, .unset, .unset, .unset] [(.int bb), (.ref b68)]))) (fun t kt => ?_) ?_
                · refine st70.trans ?_
                  show Steps p.tables e below (T70.setTop (mkF m 201 _ [(.int (1 : Int32))])) _
                  refine XS.istore X70.here hx rfl (hb hby at_201) rfl (l' := #[.val (.int p1), .val (.int p2), .val (.int p3), .val (.int p4), .val (.int p5), .val (.int nn), .val (.int aa), .val (.int bb), .val (.int cc), .val (.int dd), .val (.int (1 : Int32)), .val (.int (0 : Int32)), .val (.int (0 : Int32)), .val (.ref b65), .val (.int (((0 : Int32) + (1 : Int32)) + (1 : Int32))), .val (.ref b68), .val (.int (1 : Int32)), .unset, .unset, .unset, .unset]) rfl ?_
                  show Steps p.tables e below (T70.setTop (mkF m 203 _ [])) _
                  refine XS.aload X70.here hx rfl (hb hby at_203) rfl rfl ?_
                  show Steps p.tables e below (T70.setTop (mkF m 205 _ [(.ref b68)])) _
                  refine XS.iload X70.here hx rfl (hb hby at_205) rfl ?_
                  exact kt
                have hk1 : ¬ ((0 : Int32) + (1 : Int32)) < 0 ∧ ((0 : Int32) + (1 : Int32)) < nn := own_rng' (by have e : (((0 : Int32) + (1 : Int32))).toInt = 1 := (by decide); omega)
                have hf_bb : (own_upd (fun _ => (0 : Int32)) (aa).toNatClampNeg 1) (bb).toNatClampNeg = 0 := by
                  simp only [own_upd, own_tn]
                  repeat' split
                  all_goals first | rfl | (exfalso; omega)
                obtain ⟨cq71, kq71, q71a, q71b, q71c⟩ := isOf hZ rfl M70.1
                obtain ⟨_, _, ⟨T71, L71, k71, n71⟩, -, X71, ⟨Lc71, hQ71, l71, y71, z71⟩, st71⟩ := X70.virtualBack hx (y := (⟨"com/example/faregraph/faregraph/search/Members", "add", "(I)Z"⟩ : MethodName)) (z := (⟨"com/example/faregraph/faregraph/search/Members", "add", "(I)Z"⟩ : MethodName)) hown (mvT hZ (hw _ (List.mem_of_getElem? (i := 16) rfl))) (mvT hZ (hw _ (List.mem_of_getElem? (i := 17) rfl))) (notFace_of_selects (args := #[]) (mvT hZ (hw _ (List.mem_of_getElem? (i := 19) rfl)))) (mvT hZ (hw _ (List.mem_of_getElem? (i := 19) rfl))) (mvT hZ (hw _ (List.mem_of_getElem? (i := 18) rfl))) (by decide) (backOf (W := 0) (rm3n l Z a0 hw [] b68 mb mc nn ((0 : Int32) + (1 : Int32)) (own_upd (fun _ => (0 : Int32)) (aa).toNatClampNeg 1) (own_upd (fun _ => (0 : Int32)) ((0 : Int32)).toNatClampNeg aa) bb T70.heap n0 (Nat.le_trans (Nat.le_trans (Nat.le_trans (Nat.le_trans (Nat.le_trans (Nat.le_trans Z0 E65.1) (Keep.of_wr W66).1) (Keep.of_wr W67).1) E68.1) KK69.1) KK70.1) M70 rb hk1 hf_bb) hZ (hw _ (List.mem_of_getElem? (i := 20) rfl)) (hw _ (List.mem_of_getElem? (i := 4) rfl)) (by decide) (by decide)) q71a q71c (g := (mkF m 207 #[.val (.int p1), .val (.int p2), .val (.int p3), .val (.int p4), .val (.int p5), .val (.int nn), .val (.int aa), .val (.int bb), .val (.int cc), .val (.int dd), .val (.int (1 : Int32)), .val (.int (0 : Int32)), .val (.int (0 : Int32)), .val (.ref b65), .val (.int (((0 : Int32) + (1 : Int32)) + (1 : Int32))), .val (.ref b68), .val (.int (1 : Int32)), .unset, .unset, .unset, .unset] [(.int bb), (.ref b68)])) rfl (by rw [hml]; rfl) (Steps.refl _) (argsL := [(.int bb)]) (rest := []) (lenOf pd_2 rfl) rfl (by show 2 * 0 + _ ≤ _; exact Nat.le_of_eq rfl) (hb hby at_207) (fun _ _ => ⟨rfl, rfl, (by decide : 4 + 0 ≤ _), (by decide : 23 + 0 ≤ _)⟩)
                dsimp only [Pt.U, Pt.locs, Pt.cells, Pt.slots] at X71 l71 y71 z71 st71 hQ71
                subst l71 y71 z71
                obtain ⟨rfl, N71q, KK71, M71⟩ := hQ71
                have N71 := Fr.app N70 N71q
                have V_b65_71 := V_b65_70.keep KK71 (ninS ne_b65_b68 (ninS ne_b65_mb (ninS ne_b65_mc nin0)))
                have E_b68_71 := E_b68_70.keep KK71
                have KC71 := Keep.trans KC70 KK71 (allS (P := fun x => x ∈ [] ∨ h0.size ≤ x) (Or.inr sz_b68) (allS (P := fun x => x ∈ [] ∨ h0.size ≤ x) (Or.inr sz_mb) (allS (P := fun x => x ∈ [] ∨ h0.size ≤ x) (Or.inr sz_mc) all0)))
                refine own_pre (B := (T71.setTop (mkF m 216 #[.val (.int p1), .val (.int p2), .val (.int p3), .val (.int p4), .val (.int p5), .val (.int nn), .val (.int aa), .val (.int bb), .val (.int cc), .val (.int dd), .val (.int (1 : Int32)), .val (.int (0 : Int32)), .val (.int (0 : Int32)), .val (.ref b65), .val (.int (((0 : Int32) + (1 : Int32)) + (1 : Int32))), .val (.ref b68), .val (.int (1 : Int32)), .val (.int (1 : Int32)), .unset, .unset, .unset] [(.int cc), (.ref b68)]))) (fun t kt => ?_) ?_
                · refine st71.trans ?_
                  show Steps p.tables e below (T71.setTop (mkF m 210 _ [(.int (1 : Int32))])) _
                  refine XS.istore X71.here hx rfl (hb hby at_210) rfl (l' := #[.val (.int p1), .val (.int p2), .val (.int p3), .val (.int p4), .val (.int p5), .val (.int nn), .val (.int aa), .val (.int bb), .val (.int cc), .val (.int dd), .val (.int (1 : Int32)), .val (.int (0 : Int32)), .val (.int (0 : Int32)), .val (.ref b65), .val (.int (((0 : Int32) + (1 : Int32)) + (1 : Int32))), .val (.ref b68), .val (.int (1 : Int32)), .val (.int (1 : Int32)), .unset, .unset, .unset]) rfl ?_
                  show Steps p.tables e below (T71.setTop (mkF m 212 _ [])) _
                  refine XS.aload X71.here hx rfl (hb hby at_212) rfl rfl ?_
                  show Steps p.tables e below (T71.setTop (mkF m 214 _ [(.ref b68)])) _
                  refine XS.iload X71.here hx rfl (hb hby at_214) rfl ?_
                  exact kt
                have hf_cc : (own_upd (own_upd (fun _ => (0 : Int32)) (aa).toNatClampNeg 1) (bb).toNatClampNeg 1) (cc).toNatClampNeg = 1 := by
                  simp only [own_upd, own_tn]
                  repeat' split
                  all_goals first | rfl | (exfalso; omega)
                obtain ⟨cq72, kq72, q72a, q72b, q72c⟩ := isOf hZ rfl M71.1
                obtain ⟨_, _, ⟨T72, L72, k72, n72⟩, -, X72, ⟨Lc72, hQ72, l72, y72, z72⟩, st72⟩ := X71.virtualBack hx (y := (⟨"com/example/faregraph/faregraph/search/Members", "add", "(I)Z"⟩ : MethodName)) (z := (⟨"com/example/faregraph/faregraph/search/Members", "add", "(I)Z"⟩ : MethodName)) hown (mvT hZ (hw _ (List.mem_of_getElem? (i := 16) rfl))) (mvT hZ (hw _ (List.mem_of_getElem? (i := 17) rfl))) (notFace_of_selects (args := #[]) (mvT hZ (hw _ (List.mem_of_getElem? (i := 19) rfl)))) (mvT hZ (hw _ (List.mem_of_getElem? (i := 19) rfl))) (mvT hZ (hw _ (List.mem_of_getElem? (i := 18) rfl))) (by decide) (backOf (W := 0) (rm3y l Z a0 hw [] b68 mb mc nn (((0 : Int32) + (1 : Int32)) + (1 : Int32)) (own_upd (own_upd (fun _ => (0 : Int32)) (aa).toNatClampNeg 1) (bb).toNatClampNeg 1) (own_upd (own_upd (fun _ => (0 : Int32)) ((0 : Int32)).toNatClampNeg aa) (((0 : Int32) + (1 : Int32))).toNatClampNeg bb) cc T71.heap n0 (Nat.le_trans (Nat.le_trans (Nat.le_trans (Nat.le_trans (Nat.le_trans (Nat.le_trans (Nat.le_trans Z0 E65.1) (Keep.of_wr W66).1) (Keep.of_wr W67).1) E68.1) KK69.1) KK70.1) KK71.1) M71 rc hf_cc) hZ (hw _ (List.mem_of_getElem? (i := 20) rfl)) (hw _ (List.mem_of_getElem? (i := 4) rfl)) (by decide) (by decide)) q72a q72c (g := (mkF m 216 #[.val (.int p1), .val (.int p2), .val (.int p3), .val (.int p4), .val (.int p5), .val (.int nn), .val (.int aa), .val (.int bb), .val (.int cc), .val (.int dd), .val (.int (1 : Int32)), .val (.int (0 : Int32)), .val (.int (0 : Int32)), .val (.ref b65), .val (.int (((0 : Int32) + (1 : Int32)) + (1 : Int32))), .val (.ref b68), .val (.int (1 : Int32)), .val (.int (1 : Int32)), .unset, .unset, .unset] [(.int cc), (.ref b68)])) rfl (by rw [hml]; rfl) (Steps.refl _) (argsL := [(.int cc)]) (rest := []) (lenOf pd_2 rfl) rfl (by show 2 * 0 + _ ≤ _; exact Nat.le_of_eq rfl) (hb hby at_216) (fun _ _ => ⟨rfl, rfl, (by decide : 4 + 0 ≤ _), (by decide : 23 + 0 ≤ _)⟩)
                dsimp only [Pt.U, Pt.locs, Pt.cells, Pt.slots] at X72 l72 y72 z72 st72 hQ72
                subst l72 y72 z72
                obtain ⟨rfl, N72q, e72⟩ := hQ72
                have N72 := Fr.app N71 N72q
                refine own_pre (B := (T72.setTop (mkF m 225 #[.val (.int p1), .val (.int p2), .val (.int p3), .val (.int p4), .val (.int p5), .val (.int nn), .val (.int aa), .val (.int bb), .val (.int cc), .val (.int dd), .val (.int (1 : Int32)), .val (.int (0 : Int32)), .val (.int (0 : Int32)), .val (.ref b65), .val (.int (((0 : Int32) + (1 : Int32)) + (1 : Int32))), .val (.ref b68), .val (.int (1 : Int32)), .val (.int (1 : Int32)), .val (.int (0 : Int32)), .unset, .unset] [(.int dd), (.ref b68)]))) (fun t kt => ?_) ?_
                · refine st72.trans ?_
                  show Steps p.tables e below (T72.setTop (mkF m 219 _ [(.int (0 : Int32))])) _
                  refine XS.istore X72.here hx rfl (hb hby at_219) rfl (l' := #[.val (.int p1), .val (.int p2), .val (.int p3), .val (.int p4), .val (.int p5), .val (.int nn), .val (.int aa), .val (.int bb), .val (.int cc), .val (.int dd), .val (.int (1 : Int32)), .val (.int (0 : Int32)), .val (.int (0 : Int32)), .val (.ref b65), .val (.int (((0 : Int32) + (1 : Int32)) + (1 : Int32))), .val (.ref b68), .val (.int (1 : Int32)), .val (.int (1 : Int32)), .val (.int (0 : Int32)), .unset, .unset]) rfl ?_
                  show Steps p.tables e below (T72.setTop (mkF m 221 _ [])) _
                  refine XS.aload X72.here hx rfl (hb hby at_221) rfl rfl ?_
                  show Steps p.tables e below (T72.setTop (mkF m 223 _ [(.ref b68)])) _
                  refine XS.iload X72.here hx rfl (hb hby at_223) rfl ?_
                  exact kt
                have hf_dd : (own_upd (own_upd (fun _ => (0 : Int32)) (aa).toNatClampNeg 1) (bb).toNatClampNeg 1) (dd).toNatClampNeg = 1 := by
                  simp only [own_upd, own_tn]
                  repeat' split
                  all_goals first | rfl | (exfalso; omega)
                obtain ⟨cq73, kq73, q73a, q73b, q73c⟩ := isOf hZ e72 M71.1
                obtain ⟨_, _, ⟨T73, L73, k73, n73⟩, -, X73, ⟨Lc73, hQ73, l73, y73, z73⟩, st73⟩ := X72.virtualBack hx (y := (⟨"com/example/faregraph/faregraph/search/Members", "add", "(I)Z"⟩ : MethodName)) (z := (⟨"com/example/faregraph/faregraph/search/Members", "add", "(I)Z"⟩ : MethodName)) hown (mvT hZ (hw _ (List.mem_of_getElem? (i := 16) rfl))) (mvT hZ (hw _ (List.mem_of_getElem? (i := 17) rfl))) (notFace_of_selects (args := #[]) (mvT hZ (hw _ (List.mem_of_getElem? (i := 19) rfl)))) (mvT hZ (hw _ (List.mem_of_getElem? (i := 19) rfl))) (mvT hZ (hw _ (List.mem_of_getElem? (i := 18) rfl))) (by decide) (backOf (W := 0) (rm3y l Z a0 hw [] b68 mb mc nn (((0 : Int32) + (1 : Int32)) + (1 : Int32)) (own_upd (own_upd (fun _ => (0 : Int32)) (aa).toNatClampNeg 1) (bb).toNatClampNeg 1) (own_upd (own_upd (fun _ => (0 : Int32)) ((0 : Int32)).toNatClampNeg aa) (((0 : Int32) + (1 : Int32))).toNatClampNeg bb) dd T71.heap n0 (Nat.le_trans (Nat.le_trans (Nat.le_trans (Nat.le_trans (Nat.le_trans (Nat.le_trans (Nat.le_trans Z0 E65.1) (Keep.of_wr W66).1) (Keep.of_wr W67).1) E68.1) KK69.1) KK70.1) KK71.1) M71 rd hf_dd) hZ (hw _ (List.mem_of_getElem? (i := 20) rfl)) (hw _ (List.mem_of_getElem? (i := 4) rfl)) (by decide) (by decide)) q73a q73c (g := (mkF m 225 #[.val (.int p1), .val (.int p2), .val (.int p3), .val (.int p4), .val (.int p5), .val (.int nn), .val (.int aa), .val (.int bb), .val (.int cc), .val (.int dd), .val (.int (1 : Int32)), .val (.int (0 : Int32)), .val (.int (0 : Int32)), .val (.ref b65), .val (.int (((0 : Int32) + (1 : Int32)) + (1 : Int32))), .val (.ref b68), .val (.int (1 : Int32)), .val (.int (1 : Int32)), .val (.int (0 : Int32)), .unset, .unset] [(.int dd), (.ref b68)])) rfl (by rw [hml]; rfl) (Steps.refl _) (argsL := [(.int dd)]) (rest := []) (lenOf pd_2 rfl) rfl (by show 2 * 0 + _ ≤ _; exact Nat.le_of_eq rfl) (hb hby at_225) (fun _ _ => ⟨rfl, e72, (by decide : 4 + 0 ≤ _), (by decide : 23 + 0 ≤ _)⟩)
                dsimp only [Pt.U, Pt.locs, Pt.cells, Pt.slots] at X73 l73 y73 z73 st73 hQ73
                subst l73 y73 z73
                obtain ⟨rfl, N73q, e73⟩ := hQ73
                have N73 := Fr.app N72 N73q
                refine own_pre (B := (T73.setTop (mkF m 260 #[.val (.int p1), .val (.int p2), .val (.int p3), .val (.int p4), .val (.int p5), .val (.int nn), .val (.int aa), .val (.int bb), .val (.int cc), .val (.int dd), .val (.int (1 : Int32)), .val (.int (0 : Int32)), .val (.int (0 : Int32)), .val (.ref b65), .val (.int (((0 : Int32) + (1 : Int32)) + (1 : Int32))), .val (.ref b68), .val (.int (1 : Int32)), .val (.int (1 : Int32)), .val (.int (0 : Int32)), .val (.int (0 : Int32)), .unset] [(.ref b68)]))) (fun t kt => ?_) ?_
                · refine st73.trans ?_
                  show Steps p.tables e below (T73.setTop (mkF m 228 _ [(.int (0 : Int32))])) _
                  refine XS.istore X73.here hx rfl (hb hby at_228) rfl (l' := #[.val (.int p1), .val (.int p2), .val (.int p3), .val (.int p4), .val (.int p5), .val (.int nn), .val (.int aa), .val (.int bb), .val (.int cc), .val (.int dd), .val (.int (1 : Int32)), .val (.int (0 : Int32)), .val (.int (0 : Int32)), .val (.ref b65), .val (.int (((0 : Int32) + (1 : Int32)) + (1 : Int32))), .val (.ref b68), .val (.int (1 : Int32)), .val (.int (1 : Int32)), .val (.int (0 : Int32)), .val (.int (0 : Int32)), .unset]) rfl ?_
                  show Steps p.tables e below (T73.setTop (mkF m 230 _ [])) _
                  refine XS.iload X73.here hx rfl (hb hby at_230) rfl ?_
                  show Steps p.tables e below (T73.setTop (mkF m 232 _ [(.int (1 : Int32))])) _
                  refine XS.ifNo X73.here hx rfl (hb hby at_232) rfl ((if0 _ _).trans (feq ((by decide) : ¬ ((1 : Int32) = (0 : Int32)))).1) ?_
                  show Steps p.tables e below (T73.setTop (mkF m 235 _ [])) _
                  refine XS.iload X73.here hx rfl (hb hby at_235) rfl ?_
                  show Steps p.tables e below (T73.setTop (mkF m 237 _ [(.int (1 : Int32))])) _
                  refine XS.iload X73.here hx rfl (hb hby at_237) rfl ?_
                  show Steps p.tables e below (T73.setTop (mkF m 239 _ [(.int (1 : Int32)), (.int (1 : Int32))])) _
                  refine XS.icmpNo X73.here hx rfl (hb hby at_239) rfl (teq (rfl : (1 : Int32) = (1 : Int32))).2 ?_
                  show Steps p.tables e below (T73.setTop (mkF m 242 _ [])) _
                  refine XS.iload X73.here hx rfl (hb hby at_242) rfl ?_
                  show Steps p.tables e below (T73.setTop (mkF m 244 _ [(.int (0 : Int32))])) _
                  refine XS.iload X73.here hx rfl (hb hby at_244) rfl ?_
                  show Steps p.tables e below (T73.setTop (mkF m 246 _ [(.int (0 : Int32)), (.int (0 : Int32))])) _
                  refine XS.icmpNo X73.here hx rfl (hb hby at_246) rfl (teq (rfl : (0 : Int32) = (0 : Int32))).2 ?_
                  show Steps p.tables e below (T73.setTop (mkF m 249 _ [])) _
                  refine XS.iload X73.here hx rfl (hb hby at_249) rfl ?_
                  show Steps p.tables e below (T73.setTop (mkF m 251 _ [(.int (0 : Int32))])) _
                  refine XS.iload X73.here hx rfl (hb hby at_251) rfl ?_
                  show Steps p.tables e below (T73.setTop (mkF m 253 _ [(.int (0 : Int32)), (.int (0 : Int32))])) _
                  refine XS.icmpYes X73.here hx rfl (pc0 := 253) (pc' := 258) rfl (hb hby at_253) rfl (teq (rfl : (0 : Int32) = (0 : Int32))).1 (by decide) (by decide) ?_
                  show Steps p.tables e below (T73.setTop (mkF m 258 _ [])) _
                  refine XS.aload X73.here hx rfl (hb hby at_258) rfl rfl ?_
                  exact kt
                obtain ⟨cq74, kq74, q74a, q74b, q74c⟩ := isOf hZ e73 M71.1
                obtain ⟨_, _, ⟨T74, L74, k74, n74⟩, -, X74, ⟨Lc74, hQ74, l74, y74, z74⟩, st74⟩ := X73.virtualBack hx (y := (⟨"com/example/faregraph/faregraph/search/Members", "count", "()I"⟩ : MethodName)) (z := (⟨"com/example/faregraph/faregraph/search/Members", "count", "()I"⟩ : MethodName)) hown (mvT hZ (hw _ (List.mem_of_getElem? (i := 23) rfl))) (mvT hZ (hw _ (List.mem_of_getElem? (i := 24) rfl))) (notFace_of_selects (args := #[]) (mvT hZ (hw _ (List.mem_of_getElem? (i := 26) rfl)))) (mvT hZ (hw _ (List.mem_of_getElem? (i := 26) rfl))) (mvT hZ (hw _ (List.mem_of_getElem? (i := 25) rfl))) (by decide) (backOf (W := 0) (rm4 l Z a0 hw [] b68 mb mc nn (((0 : Int32) + (1 : Int32)) + (1 : Int32)) (own_upd (own_upd (fun _ => (0 : Int32)) (aa).toNatClampNeg 1) (bb).toNatClampNeg 1) (own_upd (own_upd (fun _ => (0 : Int32)) ((0 : Int32)).toNatClampNeg aa) (((0 : Int32) + (1 : Int32))).toNatClampNeg bb) T71.heap n0 (Nat.le_trans (Nat.le_trans (Nat.le_trans (Nat.le_trans (Nat.le_trans (Nat.le_trans (Nat.le_trans Z0 E65.1) (Keep.of_wr W66).1) (Keep.of_wr W67).1) E68.1) KK69.1) KK70.1) KK71.1) M71) hZ (hw _ (List.mem_of_getElem? (i := 27) rfl)) (hw _ (List.mem_of_getElem? (i := 4) rfl)) (by decide) (by decide)) q74a q74c (g := (mkF m 260 #[.val (.int p1), .val (.int p2), .val (.int p3), .val (.int p4), .val (.int p5), .val (.int nn), .val (.int aa), .val (.int bb), .val (.int cc), .val (.int dd), .val (.int (1 : Int32)), .val (.int (0 : Int32)), .val (.int (0 : Int32)), .val (.ref b65), .val (.int (((0 : Int32) + (1 : Int32)) + (1 : Int32))), .val (.ref b68), .val (.int (1 : Int32)), .val (.int (1 : Int32)), .val (.int (0 : Int32)), .val (.int (0 : Int32)), .unset] [(.ref b68)])) rfl (by rw [hml]; rfl) (Steps.refl _) (argsL := []) (rest := []) (lenOf pd_3 rfl) rfl (by show 2 * 0 + _ ≤ _; exact Nat.le_of_eq rfl) (hb hby at_260) (fun _ _ => ⟨rfl, e73, (by decide : 4 + 0 ≤ _), (by decide : 23 + 0 ≤ _)⟩)
                dsimp only [Pt.U, Pt.locs, Pt.cells, Pt.slots] at X74 l74 y74 z74 st74 hQ74
                subst l74 y74 z74
                obtain ⟨rfl, N74q, e74⟩ := hQ74
                have N74 := Fr.app N73 N74q
                refine own_pre (B := (T74.setTop (mkF m 273 #[.val (.int p1), .val (.int p2), .val (.int p3), .val (.int p4), .val (.int p5), .val (.int nn), .val (.int aa), .val (.int bb), .val (.int cc), .val (.int dd), .val (.int (1 : Int32)), .val (.int (0 : Int32)), .val (.int (0 : Int32)), .val (.ref b65), .val (.int (((0 : Int32) + (1 : Int32)) + (1 : Int32))), .val (.ref b68), .val (.int (1 : Int32)), .val (.int (1 : Int32)), .val (.int (0 : Int32)), .val (.int (0 : Int32)), .unset] [(.int (0 : Int32)), (.ref b68)]))) (fun t kt => ?_) ?_
                · refine st74.trans ?_
                  show Steps p.tables e below (T74.setTop (mkF m 263 _ [(.int (((0 : Int32) + (1 : Int32)) + (1 : Int32)))])) _
                  refine XS.iload X74.here hx rfl (hb hby at_263) rfl ?_
                  show Steps p.tables e below (T74.setTop (mkF m 265 _ [(.int (((0 : Int32) + (1 : Int32)) + (1 : Int32))), (.int (((0 : Int32) + (1 : Int32)) + (1 : Int32)))])) _
                  refine XS.icmpYes X74.here hx rfl (pc0 := 265) (pc' := 270) rfl (hb hby at_265) rfl (teq (rfl : (((0 : Int32) + (1 : Int32)) + (1 : Int32)) = (((0 : Int32) + (1 : Int32)) + (1 : Int32)))).1 (by decide) (by decide) ?_
                  show Steps p.tables e below (T74.setTop (mkF m 270 _ [])) _
                  refine XS.aload X74.here hx rfl (hb hby at_270) rfl rfl ?_
                  show Steps p.tables e below (T74.setTop (mkF m 272 _ [(.ref b68)])) _
                  refine XS.iconst X74.here hx rfl (hb hby at_272) ?_
                  exact kt
                have pg75 : (own_upd (own_upd (fun _ => (0 : Int32)) ((0 : Int32)).toNatClampNeg aa) (((0 : Int32) + (1 : Int32))).toNatClampNeg bb) ((0 : Int32)).toNatClampNeg = aa := ((own_upd_ne (by decide)).trans (own_upd_hit (by decide)))
                obtain ⟨cq75, kq75, q75a, q75b, q75c⟩ := isOf hZ e74 M71.1
                obtain ⟨_, _, ⟨T75, L75, k75, n75⟩, -, X75, ⟨Lc75, hQ75, l75, y75, z75⟩, st75⟩ := X74.virtualBack hx (y := (⟨"com/example/faregraph/faregraph/search/Members", "get", "(I)I"⟩ : MethodName)) (z := (⟨"com/example/faregraph/faregraph/search/Members", "get", "(I)I"⟩ : MethodName)) hown (mvT hZ (hw _ (List.mem_of_getElem? (i := 28) rfl))) (mvT hZ (hw _ (List.mem_of_getElem? (i := 29) rfl))) (notFace_of_selects (args := #[]) (mvT hZ (hw _ (List.mem_of_getElem? (i := 31) rfl)))) (mvT hZ (hw _ (List.mem_of_getElem? (i := 31) rfl))) (mvT hZ (hw _ (List.mem_of_getElem? (i := 30) rfl))) (by decide) (backOf (W := 0) (rm5 l Z a0 hw [] b68 mb mc nn (((0 : Int32) + (1 : Int32)) + (1 : Int32)) (own_upd (own_upd (fun _ => (0 : Int32)) (aa).toNatClampNeg 1) (bb).toNatClampNeg 1) (own_upd (own_upd (fun _ => (0 : Int32)) ((0 : Int32)).toNatClampNeg aa) (((0 : Int32) + (1 : Int32))).toNatClampNeg bb) (0 : Int32) aa T71.heap n0 (Nat.le_trans (Nat.le_trans (Nat.le_trans (Nat.le_trans (Nat.le_trans (Nat.le_trans (Nat.le_trans Z0 E65.1) (Keep.of_wr W66).1) (Keep.of_wr W67).1) E68.1) KK69.1) KK70.1) KK71.1) M71 (own_rng' (by have e : ((0 : Int32)).toInt = 0 := (by decide); omega)) pg75) hZ (hw _ (List.mem_of_getElem? (i := 32) rfl)) (hw _ (List.mem_of_getElem? (i := 4) rfl)) (by decide) (by decide)) q75a q75c (g := (mkF m 273 #[.val (.int p1), .val (.int p2), .val (.int p3), .val (.int p4), .val (.int p5), .val (.int nn), .val (.int aa), .val (.int bb), .val (.int cc), .val (.int dd), .val (.int (1 : Int32)), .val (.int (0 : Int32)), .val (.int (0 : Int32)), .val (.ref b65), .val (.int (((0 : Int32) + (1 : Int32)) + (1 : Int32))), .val (.ref b68), .val (.int (1 : Int32)), .val (.int (1 : Int32)), .val (.int (0 : Int32)), .val (.int (0 : Int32)), .unset] [(.int (0 : Int32)), (.ref b68)])) rfl (by rw [hml]; rfl) (Steps.refl _) (argsL := [(.int (0 : Int32))]) (rest := []) (lenOf pd_4 rfl) rfl (by show 2 * 0 + _ ≤ _; exact Nat.le_of_eq rfl) (hb hby at_273) (fun _ _ => ⟨rfl, e74, (by decide : 4 + 0 ≤ _), (by decide : 23 + 0 ≤ _)⟩)
                dsimp only [Pt.U, Pt.locs, Pt.cells, Pt.slots] at X75 l75 y75 z75 st75 hQ75
                subst l75 y75 z75
                obtain ⟨rfl, N75q, e75⟩ := hQ75
                have N75 := Fr.app N74 N75q
                refine own_pre (B := (T75.setTop (mkF m 279 #[.val (.int p1), .val (.int p2), .val (.int p3), .val (.int p4), .val (.int p5), .val (.int nn), .val (.int aa), .val (.int bb), .val (.int cc), .val (.int dd), .val (.int (1 : Int32)), .val (.int (0 : Int32)), .val (.int (0 : Int32)), .val (.ref b65), .val (.int (((0 : Int32) + (1 : Int32)) + (1 : Int32))), .val (.ref b68), .val (.int (1 : Int32)), .val (.int (1 : Int32)), .val (.int (0 : Int32)), .val (.int (0 : Int32)), .unset] [(.int (0 : Int32)), (.ref b65), (.int aa)]))) (fun t kt => ?_) ?_
                · refine st75.trans ?_
                  show Steps p.tables e below (T75.setTop (mkF m 276 _ [(.int aa)])) _
                  refine XS.aload X75.here hx rfl (hb hby at_276) rfl rfl ?_
                  show Steps p.tables e below (T75.setTop (mkF m 278 _ [(.ref b65), (.int aa)])) _
                  refine XS.iconst X75.here hx rfl (hb hby at_278) ?_
                  exact kt
                have pe77 : (own_upd (own_upd (fun _ => (0 : Int32)) ((0 : Int32)).toNatClampNeg aa) (((0 : Int32) + (1 : Int32))).toNatClampNeg bb) ((0 : Int32)).toNatClampNeg = aa := ((own_upd_ne (by decide)).trans (own_upd_hit (by decide)))
                obtain ⟨cl76, Ar76, S76, P76, H76⟩ := id V_b65_71
                have in76 := inb_of S76 (⟨by decide, by decide⟩ : ¬ (0 : Int32) < 0 ∧ (0 : Int32) < (4 : Int32))
                have at76 : cl76.slots[((0 : Int32)).toNatClampNeg]? = some (.int aa) := (H76 _ (Nat.lt_of_not_le fun y => in76 (Or.inr y))).trans (congrArg (fun z => some (Value.int z)) pe77)
                refine own_pre (B := (T75.setTop (mkF m 304 #[.val (.int p1), .val (.int p2), .val (.int p3), .val (.int p4), .val (.int p5), .val (.int nn), .val (.int aa), .val (.int bb), .val (.int cc), .val (.int dd), .val (.int (1 : Int32)), .val (.int (0 : Int32)), .val (.int (0 : Int32)), .val (.ref b65), .val (.int (((0 : Int32) + (1 : Int32)) + (1 : Int32))), .val (.ref b68), .val (.int (1 : Int32)), .val (.int (1 : Int32)), .val (.int (0 : Int32)), .val (.int (0 : Int32)), .val (.int (1 : Int32))] [(.int (1 : Int32)), (.ref b68)]))) (fun t kt => ?_) ?_
                · show Steps p.tables e below (T75.setTop (mkF m 279 _ [(.int (0 : Int32)), (.ref b65), (.int aa)])) _
                  refine X75.iaload hx (j := (0 : Int32)) (v := (.int aa)) (by rw [e75]; exact Ar76.1) (State.isArrayOf_alike hZ.alike Ar76.2.1) Ar76.2.2 in76 at76 (g := (mkF m 279 #[.val (.int p1), .val (.int p2), .val (.int p3), .val (.int p4), .val (.int p5), .val (.int nn), .val (.int aa), .val (.int bb), .val (.int cc), .val (.int dd), .val (.int (1 : Int32)), .val (.int (0 : Int32)), .val (.int (0 : Int32)), .val (.ref b65), .val (.int (((0 : Int32) + (1 : Int32)) + (1 : Int32))), .val (.ref b68), .val (.int (1 : Int32)), .val (.int (1 : Int32)), .val (.int (0 : Int32)), .val (.int (0 : Int32)), .unset] [(.int (0 : Int32)), (.ref b65), (.int aa)])) rfl rfl (hb hby at_279) _ ?_
                  show Steps p.tables e below (T75.setTop (mkF m 280 _ [(.int aa), (.int aa)])) _
                  refine XS.icmpNo X75.here hx rfl (hb hby at_280) rfl (teq (rfl : aa = aa)).2 ?_
                  show Steps p.tables e below (T75.setTop (mkF m 283 _ [])) _
                  refine XS.iconst X75.here hx rfl (hb hby at_283) ?_
                  show Steps p.tables e below (T75.setTop (mkF m 284 _ [(.int (1 : Int32))])) _
                  refine XS.goto X75.here hx rfl (pc0 := 284) (pc' := 288) rfl (hb hby at_284) (by decide) (by decide) ?_
                  show Steps p.tables e below (T75.setTop (mkF m 288 _ [(.int (1 : Int32))])) _
                  refine XS.istore X75.here hx rfl (hb hby at_288) rfl (l' := #[.val (.int p1), .val (.int p2), .val (.int p3), .val (.int p4), .val (.int p5), .val (.int nn), .val (.int aa), .val (.int bb), .val (.int cc), .val (.int dd), .val (.int (1 : Int32)), .val (.int (0 : Int32)), .val (.int (0 : Int32)), .val (.ref b65), .val (.int (((0 : Int32) + (1 : Int32)) + (1 : Int32))), .val (.ref b68), .val (.int (1 : Int32)), .val (.int (1 : Int32)), .val (.int (0 : Int32)), .val (.int (0 : Int32)), .val (.int (1 : Int32))]) rfl ?_
                  show Steps p.tables e below (T75.setTop (mkF m 290 _ [])) _
                  refine XS.iload X75.here hx rfl (hb hby at_290) rfl ?_
                  show Steps p.tables e below (T75.setTop (mkF m 292 _ [(.int (((0 : Int32) + (1 : Int32)) + (1 : Int32)))])) _
                  refine XS.iconst X75.here hx rfl (hb hby at_292) ?_
                  show Steps p.tables e below (T75.setTop (mkF m 293 _ [(.int (1 : Int32)), (.int (((0 : Int32) + (1 : Int32)) + (1 : Int32)))])) _
                  refine XS.icmpNo X75.here hx rfl (hb hby at_293) rfl (tlt ((by decide) : (1 : Int32) < (((0 : Int32) + (1 : Int32)) + (1 : Int32)))).2.2.2 ?_
                  show Steps p.tables e below (T75.setTop (mkF m 296 _ [])) _
                  refine XS.iload X75.here hx rfl (hb hby at_296) rfl ?_
                  show Steps p.tables e below (T75.setTop (mkF m 298 _ [(.int (1 : Int32))])) _
                  refine XS.ifNo X75.here hx rfl (hb hby at_298) rfl ((if0 _ _).trans (feq ((by decide) : ¬ ((1 : Int32) = (0 : Int32)))).1) ?_
                  show Steps p.tables e below (T75.setTop (mkF m 301 _ [])) _
                  refine XS.aload X75.here hx rfl (hb hby at_301) rfl rfl ?_
                  show Steps p.tables e below (T75.setTop (mkF m 303 _ [(.ref b68)])) _
                  refine XS.iconst X75.here hx rfl (hb hby at_303) ?_
                  exact kt
                have pg78 : (own_upd (own_upd (fun _ => (0 : Int32)) ((0 : Int32)).toNatClampNeg aa) (((0 : Int32) + (1 : Int32))).toNatClampNeg bb) ((1 : Int32)).toNatClampNeg = bb := (own_upd_hit (by decide))
                obtain ⟨cq78, kq78, q78a, q78b, q78c⟩ := isOf hZ e75 M71.1
                obtain ⟨_, _, ⟨T78, L78, k78, n78⟩, -, X78, ⟨Lc78, hQ78, l78, y78, z78⟩, st78⟩ := X75.virtualBack hx (y := (⟨"com/example/faregraph/faregraph/search/Members", "get", "(I)I"⟩ : MethodName)) (z := (⟨"com/example/faregraph/faregraph/search/Members", "get", "(I)I"⟩ : MethodName)) hown (mvT hZ (hw _ (List.mem_of_getElem? (i := 28) rfl))) (mvT hZ (hw _ (List.mem_of_getElem? (i := 29) rfl))) (notFace_of_selects (args := #[]) (mvT hZ (hw _ (List.mem_of_getElem? (i := 31) rfl)))) (mvT hZ (hw _ (List.mem_of_getElem? (i := 31) rfl))) (mvT hZ (hw _ (List.mem_of_getElem? (i := 30) rfl))) (by decide) (backOf (W := 0) (rm5 l Z a0 hw [] b68 mb mc nn (((0 : Int32) + (1 : Int32)) + (1 : Int32)) (own_upd (own_upd (fun _ => (0 : Int32)) (aa).toNatClampNeg 1) (bb).toNatClampNeg 1) (own_upd (own_upd (fun _ => (0 : Int32)) ((0 : Int32)).toNatClampNeg aa) (((0 : Int32) + (1 : Int32))).toNatClampNeg bb) (1 : Int32) bb T71.heap n0 (Nat.le_trans (Nat.le_trans (Nat.le_trans (Nat.le_trans (Nat.le_trans (Nat.le_trans (Nat.le_trans Z0 E65.1) (Keep.of_wr W66).1) (Keep.of_wr W67).1) E68.1) KK69.1) KK70.1) KK71.1) M71 (own_rng' (by have e : ((1 : Int32)).toInt = 1 := (by decide); omega)) pg78) hZ (hw _ (List.mem_of_getElem? (i := 32) rfl)) (hw _ (List.mem_of_getElem? (i := 4) rfl)) (by decide) (by decide)) q78a q78c (g := (mkF m 304 #[.val (.int p1), .val (.int p2), .val (.int p3), .val (.int p4), .val (.int p5), .val (.int nn), .val (.int aa), .val (.int bb), .val (.int cc), .val (.int dd), .val (.int (1 : Int32)), .val (.int (0 : Int32)), .val (.int (0 : Int32)), .val (.ref b65), .val (.int (((0 : Int32) + (1 : Int32)) + (1 : Int32))), .val (.ref b68), .val (.int (1 : Int32)), .val (.int (1 : Int32)), .val (.int (0 : Int32)), .val (.int (0 : Int32)), .val (.int (1 : Int32))] [(.int (1 : Int32)), (.ref b68)])) rfl (by rw [hml]; rfl) (Steps.refl _) (argsL := [(.int (1 : Int32))]) (rest := []) (lenOf pd_4 rfl) rfl (by show 2 * 0 + _ ≤ _; exact Nat.le_of_eq rfl) (hb hby at_304) (fun _ _ => ⟨rfl, e75, (by decide : 4 + 0 ≤ _), (by decide : 23 + 0 ≤ _)⟩)
                dsimp only [Pt.U, Pt.locs, Pt.cells, Pt.slots] at X78 l78 y78 z78 st78 hQ78
                subst l78 y78 z78
                obtain ⟨rfl, N78q, e78⟩ := hQ78
                have N78 := Fr.app N75 N78q
                refine own_pre (B := (T78.setTop (mkF m 310 #[.val (.int p1), .val (.int p2), .val (.int p3), .val (.int p4), .val (.int p5), .val (.int nn), .val (.int aa), .val (.int bb), .val (.int cc), .val (.int dd), .val (.int (1 : Int32)), .val (.int (0 : Int32)), .val (.int (0 : Int32)), .val (.ref b65), .val (.int (((0 : Int32) + (1 : Int32)) + (1 : Int32))), .val (.ref b68), .val (.int (1 : Int32)), .val (.int (1 : Int32)), .val (.int (0 : Int32)), .val (.int (0 : Int32)), .val (.int (1 : Int32))] [(.int (1 : Int32)), (.ref b65), (.int bb)]))) (fun t kt => ?_) ?_
                · refine st78.trans ?_
                  show Steps p.tables e below (T78.setTop (mkF m 307 _ [(.int bb)])) _
                  refine XS.aload X78.here hx rfl (hb hby at_307) rfl rfl ?_
                  show Steps p.tables e below (T78.setTop (mkF m 309 _ [(.ref b65), (.int bb)])) _
                  refine XS.iconst X78.here hx rfl (hb hby at_309) ?_
                  exact kt
                have pe80 : (own_upd (own_upd (fun _ => (0 : Int32)) ((0 : Int32)).toNatClampNeg aa) (((0 : Int32) + (1 : Int32))).toNatClampNeg bb) ((1 : Int32)).toNatClampNeg = bb := (own_upd_hit (by decide))
                obtain ⟨cl79, Ar79, S79, P79, H79⟩ := id V_b65_71
                have in79 := inb_of S79 (⟨by decide, by decide⟩ : ¬ (1 : Int32) < 0 ∧ (1 : Int32) < (4 : Int32))
                have at79 : cl79.slots[((1 : Int32)).toNatClampNeg]? = some (.int bb) := (H79 _ (Nat.lt_of_not_le fun y => in79 (Or.inr y))).trans (congrArg (fun z => some (Value.int z)) pe80)
                refine own_pre (B := (T78.setTop (mkF m 385 #[.val (.int p1), .val (.int p2), .val (.int p3), .val (.int p4), .val (.int p5), .val (.int nn), .val (.int aa), .val (.int bb), .val (.int cc), .val (.int dd), .val (.int (1 : Int32)), .val (.int (0 : Int32)), .val (.int (0 : Int32)), .val (.ref b65), .val (.int (((0 : Int32) + (1 : Int32)) + (1 : Int32))), .val (.ref b68), .val (.int (1 : Int32)), .val (.int (1 : Int32)), .val (.int (0 : Int32)), .val (.int (0 : Int32)), .val (.int (1 : Int32))] [(.int (1 : Int32))]))) (fun t kt => ?_) ?_
                · show Steps p.tables e below (T78.setTop (mkF m 310 _ [(.int (1 : Int32)), (.ref b65), (.int bb)])) _
                  refine X78.iaload hx (j := (1 : Int32)) (v := (.int bb)) (by rw [e78]; exact Ar79.1) (State.isArrayOf_alike hZ.alike Ar79.2.1) Ar79.2.2 in79 at79 (g := (mkF m 310 #[.val (.int p1), .val (.int p2), .val (.int p3), .val (.int p4), .val (.int p5), .val (.int nn), .val (.int aa), .val (.int bb), .val (.int cc), .val (.int dd), .val (.int (1 : Int32)), .val (.int (0 : Int32)), .val (.int (0 : Int32)), .val (.ref b65), .val (.int (((0 : Int32) + (1 : Int32)) + (1 : Int32))), .val (.ref b68), .val (.int (1 : Int32)), .val (.int (1 : Int32)), .val (.int (0 : Int32)), .val (.int (0 : Int32)), .val (.int (1 : Int32))] [(.int (1 : Int32)), (.ref b65), (.int bb)])) rfl rfl (hb hby at_310) _ ?_
                  show Steps p.tables e below (T78.setTop (mkF m 311 _ [(.int bb), (.int bb)])) _
                  refine XS.icmpNo X78.here hx rfl (hb hby at_311) rfl (teq (rfl : bb = bb)).2 ?_
                  show Steps p.tables e below (T78.setTop (mkF m 314 _ [])) _
                  refine XS.iconst X78.here hx rfl (hb hby at_314) ?_
                  show Steps p.tables e below (T78.setTop (mkF m 315 _ [(.int (1 : Int32))])) _
                  refine XS.goto X78.here hx rfl (pc0 := 315) (pc' := 319) rfl (hb hby at_315) (by decide) (by decide) ?_
                  show Steps p.tables e below (T78.setTop (mkF m 319 _ [(.int (1 : Int32))])) _
                  refine XS.istore X78.here hx rfl (hb hby at_319) rfl (l' := #[.val (.int p1), .val (.int p2), .val (.int p3), .val (.int p4), .val (.int p5), .val (.int nn), .val (.int aa), .val (.int bb), .val (.int cc), .val (.int dd), .val (.int (1 : Int32)), .val (.int (0 : Int32)), .val (.int (0 : Int32)), .val (.ref b65), .val (.int (((0 : Int32) + (1 : Int32)) + (1 : Int32))), .val (.ref b68), .val (.int (1 : Int32)), .val (.int (1 : Int32)), .val (.int (0 : Int32)), .val (.int (0 : Int32)), .val (.int (1 : Int32))]) rfl ?_
                  show Steps p.tables e below (T78.setTop (mkF m 321 _ [])) _
                  refine XS.iload X78.here hx rfl (hb hby at_321) rfl ?_
                  show Steps p.tables e below (T78.setTop (mkF m 323 _ [(.int (((0 : Int32) + (1 : Int32)) + (1 : Int32)))])) _
                  refine XS.iconst X78.here hx rfl (hb hby at_323) ?_
                  show Steps p.tables e below (T78.setTop (mkF m 324 _ [(.int (2 : Int32)), (.int (((0 : Int32) + (1 : Int32)) + (1 : Int32)))])) _
                  refine XS.icmpYes X78.here hx rfl (pc0 := 324) (pc' := 352) rfl (hb hby at_324) rfl (flt ((by decide) : ¬ ((2 : Int32) < (((0 : Int32) + (1 : Int32)) + (1 : Int32))))).2.2.2 (by decide) (by decide) ?_
                  show Steps p.tables e below (T78.setTop (mkF m 352 _ [])) _
                  refine XS.iload X78.here hx rfl (hb hby at_352) rfl ?_
                  show Steps p.tables e below (T78.setTop (mkF m 354 _ [(.int (((0 : Int32) + (1 : Int32)) + (1 : Int32)))])) _
                  refine XS.iconst X78.here hx rfl (hb hby at_354) ?_
                  show Steps p.tables e below (T78.setTop (mkF m 355 _ [(.int (3 : Int32)), (.int (((0 : Int32) + (1 : Int32)) + (1 : Int32)))])) _
                  refine XS.icmpYes X78.here hx rfl (pc0 := 355) (pc' := 383) rfl (hb hby at_355) rfl (flt ((by decide) : ¬ ((3 : Int32) < (((0 : Int32) + (1 : Int32)) + (1 : Int32))))).2.2.2 (by decide) (by decide) ?_
                  show Steps p.tables e below (T78.setTop (mkF m 383 _ [])) _
                  refine XS.iload X78.here hx rfl (hb hby at_383) rfl ?_
                  exact kt
                exact own_fin X78 (some (.int (1 : Int32))) (fun h => by rw [Bd.returns] at h; cases h) (BodyLoose.notSynchronized Bd) e78 (fun fs hr => retN X78 hx (t := .boolean) Bd.returns (by simp) (hb hby at_385) hr) ⟨rfl, N78⟩ (by decide) (by decide)
          · rcases hec with ⟨rfl, hqec⟩ | ⟨rfl, hqec⟩
            · rcases hed with ⟨rfl, hqed⟩ | ⟨rfl, hqed⟩
              · refine own_pre (B := (s₁.setTop (mkF m 109 #[.val (.int p1), .val (.int p2), .val (.int p3), .val (.int p4), .val (.int p5), .val (.int nn), .val (.int aa), .val (.int bb), .val (.int cc), .val (.int dd), .val (.int (0 : Int32)), .val (.int (1 : Int32)), .val (.int (1 : Int32)), .unset, .unset, .unset, .unset, .unset, .unset, .unset, .unset] [(.int (4 : Int32))]))) (fun t kt => ?_) ?_
                · show Steps p.tables e below (s₁.setTop (mkF m 108 _ [])) _
                  refine XS.iconst X0.here hx rfl (hb hby at_108) ?_
                  exact kt
                obtain ⟨T81, h81, k81, X81, e81, E81, A81, st81⟩ := newP X0 hx hZ (hw _ (List.mem_of_getElem? (i := 1) rfl)) e0 (g := (mkF m 109 #[.val (.int p1), .val (.int p2), .val (.int p3), .val (.int p4), .val (.int p5), .val (.int nn), .val (.int aa), .val (.int bb), .val (.int cc), .val (.int dd), .val (.int (0 : Int32)), .val (.int (1 : Int32)), .val (.int (1 : Int32)), .unset, .unset, .unset, .unset, .unset, .unset, .unset, .unset] [(.int (4 : Int32))])) rfl (hb hby at_109) rfl (by decide) (cap := 4) (by decide) (by decide) (by decide) (by decide)
                obtain ⟨b81, g81⟩ : ∃ z, z = h0.size := ⟨_, rfl⟩
                have g_b81 : n0 ≤ b81 := Nat.le_trans Z0 (Nat.le_of_eq g81.symm)
                have sz_b81 : h0.size ≤ b81 := Nat.le_trans (Keep.refl h0 []).1 (Nat.le_of_eq g81.symm)
                rw [← g81] at A81 st81
                have K81 := Keep.ext (Keep.refl h0 []) E81
                have V_b81 := own_Arr.new A81 (by decide) rfl
                refine own_pre (B := (T81.setTop (mkF m 122 #[.val (.int p1), .val (.int p2), .val (.int p3), .val (.int p4), .val (.int p5), .val (.int nn), .val (.int aa), .val (.int bb), .val (.int cc), .val (.int dd), .val (.int (0 : Int32)), .val (.int (1 : Int32)), .val (.int (1 : Int32)), .val (.ref b81), .val (.int (0 : Int32)), .unset, .unset, .unset, .unset, .unset, .unset] [(.int aa), (.int (0 : Int32)), (.ref b81)]))) (fun t kt => ?_) ?_
                · show Steps p.tables e below (s₁.setTop (mkF m 109 _ [(.int (4 : Int32))])) _
                  refine st81 _ ?_
                  show Steps p.tables e below (T81.setTop (mkF m 111 _ [(.ref b81)])) _
                  refine XS.astore X81.here hx rfl (hb hby at_111) rfl rfl (l' := #[.val (.int p1), .val (.int p2), .val (.int p3), .val (.int p4), .val (.int p5), .val (.int nn), .val (.int aa), .val (.int bb), .val (.int cc), .val (.int dd), .val (.int (0 : Int32)), .val (.int (1 : Int32)), .val (.int (1 : Int32)), .val (.ref b81), .unset, .unset, .unset, .unset, .unset, .unset, .unset]) rfl ?_
                  show Steps p.tables e below (T81.setTop (mkF m 113 _ [])) _
                  refine XS.iconst X81.here hx rfl (hb hby at_113) ?_
                  show Steps p.tables e below (T81.setTop (mkF m 114 _ [(.int (0 : Int32))])) _
                  refine XS.istore X81.here hx rfl (hb hby at_114) rfl (l' := #[.val (.int p1), .val (.int p2), .val (.int p3), .val (.int p4), .val (.int p5), .val (.int nn), .val (.int aa), .val (.int bb), .val (.int cc), .val (.int dd), .val (.int (0 : Int32)), .val (.int (1 : Int32)), .val (.int (1 : Int32)), .val (.ref b81), .val (.int (0 : Int32)), .unset, .unset, .unset, .unset, .unset, .unset]) rfl ?_
                  show Steps p.tables e below (T81.setTop (mkF m 116 _ [])) _
                  refine XS.aload X81.here hx rfl (hb hby at_116) rfl rfl ?_
                  show Steps p.tables e below (T81.setTop (mkF m 118 _ [(.ref b81)])) _
                  refine XS.iload X81.here hx rfl (hb hby at_118) rfl ?_
                  show Steps p.tables e below (T81.setTop (mkF m 120 _ [(.int (0 : Int32)), (.ref b81)])) _
                  refine XS.iload X81.here hx rfl (hb hby at_120) rfl ?_
                  exact kt
                obtain ⟨cl82, Ar82, S82, P82, H82⟩ := id V_b81
                have in82 := inb_of S82 (⟨by decide, by decide⟩ : ¬ (0 : Int32) < 0 ∧ (0 : Int32) < (4 : Int32))
                obtain ⟨T82, h82, X82, e82, W82, st82⟩ := stI X81 hx hZ e81 Ar82 (j := (0 : Int32)) in82 (g := (mkF m 122 #[.val (.int p1), .val (.int p2), .val (.int p3), .val (.int p4), .val (.int p5), .val (.int nn), .val (.int aa), .val (.int bb), .val (.int cc), .val (.int dd), .val (.int (0 : Int32)), .val (.int (1 : Int32)), .val (.int (1 : Int32)), .val (.ref b81), .val (.int (0 : Int32)), .unset, .unset, .unset, .unset, .unset, .unset] [(.int aa), (.int (0 : Int32)), (.ref b81)])) rfl rfl (hb hby at_122)
                have V_b81_82 := V_b81.set W82
                have N82 := Fr.snoc X82 N0 g_b81
                have K82 := Keep.wr K81 W82 (Or.inr sz_b81)
                refine own_pre (B := (T82.setTop (mkF m 158 #[.val (.int p1), .val (.int p2), .val (.int p3), .val (.int p4), .val (.int p5), .val (.int nn), .val (.int aa), .val (.int bb), .val (.int cc), .val (.int dd), .val (.int (0 : Int32)), .val (.int (1 : Int32)), .val (.int (1 : Int32)), .val (.ref b81), .val (.int ((0 : Int32) + (1 : Int32))), .unset, .unset, .unset, .unset, .unset, .unset] [(.int cc), (.int ((0 : Int32) + (1 : Int32))), (.ref b81)]))) (fun t kt => ?_) ?_
                · show Steps p.tables e below (T81.setTop (mkF m 122 _ [(.int aa), (.int (0 : Int32)), (.ref b81)])) _
                  refine st82 _ ?_
                  show Steps p.tables e below (T82.setTop (mkF m 123 _ [])) _
                  refine XS.iload X82.here hx rfl (hb hby at_123) rfl ?_
                  show Steps p.tables e below (T82.setTop (mkF m 125 _ [(.int (0 : Int32))])) _
                  refine XS.iconst X82.here hx rfl (hb hby at_125) ?_
                  show Steps p.tables e below (T82.setTop (mkF m 126 _ [(.int (1 : Int32)), (.int (0 : Int32))])) _
                  refine XS.iadd X82.here hx rfl (hb hby at_126) rfl ?_
                  show Steps p.tables e below (T82.setTop (mkF m 127 _ [(.int ((0 : Int32) + (1 : Int32)))])) _
                  refine XS.istore X82.here hx rfl (hb hby at_127) rfl (l' := #[.val (.int p1), .val (.int p2), .val (.int p3), .val (.int p4), .val (.int p5), .val (.int nn), .val (.int aa), .val (.int bb), .val (.int cc), .val (.int dd), .val (.int (0 : Int32)), .val (.int (1 : Int32)), .val (.int (1 : Int32)), .val (.ref b81), .val (.int ((0 : Int32) + (1 : Int32))), .unset, .unset, .unset, .unset, .unset, .unset]) rfl ?_
                  show Steps p.tables e below (T82.setTop (mkF m 129 _ [])) _
                  refine XS.iload X82.here hx rfl (hb hby at_129) rfl ?_
                  show Steps p.tables e below (T82.setTop (mkF m 131 _ [(.int (0 : Int32))])) _
                  refine XS.ifYes X82.here hx rfl (pc0 := 131) (pc' := 147) rfl (hb hby at_131) rfl ((if0 _ _).trans (teq (rfl : (0 : Int32) = (0 : Int32))).1) (by decide) (by decide) ?_
                  show Steps p.tables e below (T82.setTop (mkF m 147 _ [])) _
                  refine XS.iload X82.here hx rfl (hb hby at_147) rfl ?_
                  show Steps p.tables e below (T82.setTop (mkF m 149 _ [(.int (1 : Int32))])) _
                  refine XS.ifNo X82.here hx rfl (hb hby at_149) rfl ((if0 _ _).trans (feq ((by decide) : ¬ ((1 : Int32) = (0 : Int32)))).1) ?_
                  show Steps p.tables e below (T82.setTop (mkF m 152 _ [])) _
                  refine XS.aload X82.here hx rfl (hb hby at_152) rfl rfl ?_
                  show Steps p.tables e below (T82.setTop (mkF m 154 _ [(.ref b81)])) _
                  refine XS.iload X82.here hx rfl (hb hby at_154) rfl ?_
                  show Steps p.tables e below (T82.setTop (mkF m 156 _ [(.int ((0 : Int32) + (1 : Int32))), (.ref b81)])) _
                  refine XS.iload X82.here hx rfl (hb hby at_156) rfl ?_
                  exact kt
                obtain ⟨cl83, Ar83, S83, P83, H83⟩ := id V_b81_82
                have in83 := inb_of S83 (⟨by decide, by decide⟩ : ¬ ((0 : Int32) + (1 : Int32)) < 0 ∧ ((0 : Int32) + (1 : Int32)) < (4 : Int32))
                obtain ⟨T83, h83, X83, e83, W83, st83⟩ := stI X82 hx hZ e82 Ar83 (j := ((0 : Int32) + (1 : Int32))) in83 (g := (mkF m 158 #[.val (.int p1), .val (.int p2), .val (.int p3), .val (.int p4), .val (.int p5), .val (.int nn), .val (.int aa), .val (.int bb), .val (.int cc), .val (.int dd), .val (.int (0 : Int32)), .val (.int (1 : Int32)), .val (.int (1 : Int32)), .val (.ref b81), .val (.int ((0 : Int32) + (1 : Int32))), .unset, .unset, .unset, .unset, .unset, .unset] [(.int cc), (.int ((0 : Int32) + (1 : Int32))), (.ref b81)])) rfl rfl (hb hby at_158)
                have V_b81_83 := V_b81_82.set W83
                have N83 := Fr.snoc X83 N82 g_b81
                have K83 := Keep.wr K82 W83 (Or.inr sz_b81)
                refine own_pre (B := (T83.setTop (mkF m 176 #[.val (.int p1), .val (.int p2), .val (.int p3), .val (.int p4), .val (.int p5), .val (.int nn), .val (.int aa), .val (.int bb), .val (.int cc), .val (.int dd), .val (.int (0 : Int32)), .val (.int (1 : Int32)), .val (.int (1 : Int32)), .val (.ref b81), .val (.int (((0 : Int32) + (1 : Int32)) + (1 : Int32))), .unset, .unset, .unset, .unset, .unset, .unset] [(.int dd), (.int (((0 : Int32) + (1 : Int32)) + (1 : Int32))), (.ref b81)]))) (fun t kt => ?_) ?_
                · show Steps p.tables e below (T82.setTop (mkF m 158 _ [(.int cc), (.int ((0 : Int32) + (1 : Int32))), (.ref b81)])) _
                  refine st83 _ ?_
                  show Steps p.tables e below (T83.setTop (mkF m 159 _ [])) _
                  refine XS.iload X83.here hx rfl (hb hby at_159) rfl ?_
                  show Steps p.tables e below (T83.setTop (mkF m 161 _ [(.int ((0 : Int32) + (1 : Int32)))])) _
                  refine XS.iconst X83.here hx rfl (hb hby at_161) ?_
                  show Steps p.tables e below (T83.setTop (mkF m 162 _ [(.int (1 : Int32)), (.int ((0 : Int32) + (1 : Int32)))])) _
                  refine XS.iadd X83.here hx rfl (hb hby at_162) rfl ?_
                  show Steps p.tables e below (T83.setTop (mkF m 163 _ [(.int (((0 : Int32) + (1 : Int32)) + (1 : Int32)))])) _
                  refine XS.istore X83.here hx rfl (hb hby at_163) rfl (l' := #[.val (.int p1), .val (.int p2), .val (.int p3), .val (.int p4), .val (.int p5), .val (.int nn), .val (.int aa), .val (.int bb), .val (.int cc), .val (.int dd), .val (.int (0 : Int32)), .val (.int (1 : Int32)), .val (.int (1 : Int32)), .val (.ref b81), .val (.int (((0 : Int32) + (1 : Int32)) + (1 : Int32))), .unset, .unset, .unset, .unset, .unset, .unset]) rfl ?_
                  show Steps p.tables e below (T83.setTop (mkF m 165 _ [])) _
                  refine XS.iload X83.here hx rfl (hb hby at_165) rfl ?_
                  show Steps p.tables e below (T83.setTop (mkF m 167 _ [(.int (1 : Int32))])) _
                  refine XS.ifNo X83.here hx rfl (hb hby at_167) rfl ((if0 _ _).trans (feq ((by decide) : ¬ ((1 : Int32) = (0 : Int32)))).1) ?_
                  show Steps p.tables e below (T83.setTop (mkF m 170 _ [])) _
                  refine XS.aload X83.here hx rfl (hb hby at_170) rfl rfl ?_
                  show Steps p.tables e below (T83.setTop (mkF m 172 _ [(.ref b81)])) _
                  refine XS.iload X83.here hx rfl (hb hby at_172) rfl ?_
                  show Steps p.tables e below (T83.setTop (mkF m 174 _ [(.int (((0 : Int32) + (1 : Int32)) + (1 : Int32))), (.ref b81)])) _
                  refine XS.iload X83.here hx rfl (hb hby at_174) rfl ?_
                  exact kt
                obtain ⟨cl84, Ar84, S84, P84, H84⟩ := id V_b81_83
                have in84 := inb_of S84 (⟨by decide, by decide⟩ : ¬ (((0 : Int32) + (1 : Int32)) + (1 : Int32)) < 0 ∧ (((0 : Int32) + (1 : Int32)) + (1 : Int32)) < (4 : Int32))
                obtain ⟨T84, h84, X84, e84, W84, st84⟩ := stI X83 hx hZ e83 Ar84 (j := (((0 : Int32) + (1 : Int32)) + (1 : Int32))) in84 (g := (mkF m 176 #[.val (.int p1), .val (.int p2), .val (.int p3), .val (.int p4), .val (.int p5), .val (.int nn), .val (.int aa), .val (.int bb), .val (.int cc), .val (.int dd), .val (.int (0 : Int32)), .val (.int (1 : Int32)), .val (.int (1 : Int32)), .val (.ref b81), .val (.int (((0 : Int32) + (1 : Int32)) + (1 : Int32))), .unset, .unset, .unset, .unset, .unset, .unset] [(.int dd), (.int (((0 : Int32) + (1 : Int32)) + (1 : Int32))), (.ref b81)])) rfl rfl (hb hby at_176)
                have V_b81_84 := V_b81_83.set W84
                have N84 := Fr.snoc X84 N83 g_b81
                have K84 := Keep.wr K83 W84 (Or.inr sz_b81)
                refine own_pre (B := (T84.setTop (mkF m 183 #[.val (.int p1), .val (.int p2), .val (.int p3), .val (.int p4), .val (.int p5), .val (.int nn), .val (.int aa), .val (.int bb), .val (.int cc), .val (.int dd), .val (.int (0 : Int32)), .val (.int (1 : Int32)), .val (.int (1 : Int32)), .val (.ref b81), .val (.int ((((0 : Int32) + (1 : Int32)) + (1 : Int32)) + (1 : Int32))), .unset, .unset, .unset, .unset, .unset, .unset] []))) (fun t kt => ?_) ?_
                · show Steps p.tables e below (T83.setTop (mkF m 176 _ [(.int dd), (.int (((0 : Int32) + (1 : Int32)) + (1 : Int32))), (.ref b81)])) _
                  refine st84 _ ?_
                  show Steps p.tables e below (T84.setTop (mkF m 177 _ [])) _
                  refine XS.iload X84.here hx rfl (hb hby at_177) rfl ?_
                  show Steps p.tables e below (T84.setTop (mkF m 179 _ [(.int (((0 : Int32) + (1 : Int32)) + (1 : Int32)))])) _
                  refine XS.iconst X84.here hx rfl (hb hby at_179) ?_
                  show Steps p.tables e below (T84.setTop (mkF m 180 _ [(.int (1 : Int32)), (.int (((0 : Int32) + (1 : Int32)) + (1 : Int32)))])) _
                  refine XS.iadd X84.here hx rfl (hb hby at_180) rfl ?_
                  show Steps p.tables e below (T84.setTop (mkF m 181 _ [(.int ((((0 : Int32) + (1 : Int32)) + (1 : Int32)) + (1 : Int32)))])) _
                  refine XS.istore X84.here hx rfl (hb hby at_181) rfl (l' := #[.val (.int p1), .val (.int p2), .val (.int p3), .val (.int p4), .val (.int p5), .val (.int nn), .val (.int aa), .val (.int bb), .val (.int cc), .val (.int dd), .val (.int (0 : Int32)), .val (.int (1 : Int32)), .val (.int (1 : Int32)), .val (.ref b81), .val (.int ((((0 : Int32) + (1 : Int32)) + (1 : Int32)) + (1 : Int32))), .unset, .unset, .unset, .unset, .unset, .unset]) rfl ?_
                  exact kt
                obtain ⟨T85, h85, X85, e85, E85, A85, D85, -, st85⟩ := newO X84 hx hZ hown (hw _ (List.mem_of_getElem? (i := 2) rfl)) (hw _ (List.mem_of_getElem? (i := 3) rfl)) (hw _ (List.mem_of_getElem? (i := 4) rfl)) e84 (g := (mkF m 183 #[.val (.int p1), .val (.int p2), .val (.int p3), .val (.int p4), .val (.int p5), .val (.int nn), .val (.int aa), .val (.int bb), .val (.int cc), .val (.int dd), .val (.int (0 : Int32)), .val (.int (1 : Int32)), .val (.int (1 : Int32)), .val (.ref b81), .val (.int ((((0 : Int32) + (1 : Int32)) + (1 : Int32)) + (1 : Int32))), .unset, .unset, .unset, .unset, .unset, .unset] [])) rfl (hb hby at_183) (by decide) (by decide)
                obtain ⟨b85, g85⟩ : ∃ z, z = h84.size := ⟨_, rfl⟩
                have ne_b81_b85 : b81 ≠ b85 := Nat.ne_of_lt (Nat.lt_of_lt_of_le V_b81_84.lt (Nat.le_of_eq g85.symm))
                have g_b85 : n0 ≤ b85 := Nat.le_trans (Nat.le_trans (Nat.le_trans (Nat.le_trans (Nat.le_trans Z0 E81.1) (Keep.of_wr W82).1) (Keep.of_wr W83).1) (Keep.of_wr W84).1) (Nat.le_of_eq g85.symm)
                have sz_b85 : h0.size ≤ b85 := Nat.le_trans K84.1 (Nat.le_of_eq g85.symm)
                rw [← g85] at A85 D85 st85
                have V_b81_85 := V_b81_84.ext E85
                have K85 := Keep.ext K84 E85
                have E_b85 := A85
                have F_member_b85 : Fld Z h85 b85 "com/example/faregraph/faregraph/search/Members" "member" "[Z" .null := D85 (Or.inr (hw _ (List.mem_of_getElem? (i := 13) rfl))) (ty := (.array .boolean)) (by decide)
                have F_members_b85 : Fld Z h85 b85 "com/example/faregraph/faregraph/search/Members" "members" "[I" .null := D85 (Or.inr (hw _ (List.mem_of_getElem? (i := 15) rfl))) (ty := (.array .int)) (by decide)
                have F_count_b85 : Fld Z h85 b85 "com/example/faregraph/faregraph/search/Members" "count" "I" (.int (0 : Int32)) := D85 (Or.inl (hw _ (List.mem_of_getElem? (i := 22) rfl))) (ty := .int) (by decide)
                refine own_pre (B := (T85.setTop (mkF m 189 #[.val (.int p1), .val (.int p2), .val (.int p3), .val (.int p4), .val (.int p5), .val (.int nn), .val (.int aa), .val (.int bb), .val (.int cc), .val (.int dd), .val (.int (0 : Int32)), .val (.int (1 : Int32)), .val (.int (1 : Int32)), .val (.ref b81), .val (.int ((((0 : Int32) + (1 : Int32)) + (1 : Int32)) + (1 : Int32))), .unset, .unset, .unset, .unset, .unset, .unset] [(.int nn), (.ref b85), (.ref b85)]))) (fun t kt => ?_) ?_
                · show Steps p.tables e below (T84.setTop (mkF m 183 _ [])) _
                  refine st85 _ ?_
                  show Steps p.tables e below (T85.setTop (mkF m 186 _ [(.ref b85)])) _
                  refine XS.dup X85.here hx rfl (hb hby at_186) rfl rfl ?_
                  show Steps p.tables e below (T85.setTop (mkF m 187 _ [(.ref b85), (.ref b85)])) _
                  refine XS.iload X85.here hx rfl (hb hby at_187) rfl ?_
                  exact kt
                obtain ⟨_, _, ⟨T86, L86, k86, n86⟩, -, X86, ⟨Lc86, hQ86, l86, y86, z86⟩, st86⟩ := X85.specialBack hx (y := (⟨"com/example/faregraph/faregraph/search/Members", "<init>", "(I)V"⟩ : MethodName)) rfl hown (mvT hZ (hw _ (List.mem_of_getElem? (i := 5) rfl))) (mvT hZ (hw _ (List.mem_of_getElem? (i := 6) rfl))) (mvT hZ (hw _ (List.mem_of_getElem? (i := 7) rfl))) (by decide) (backOf (W := 1) (rm1 l Z a0 hw [] b85 nn h85 n0 (Nat.le_trans (Nat.le_trans (Nat.le_trans (Nat.le_trans (Nat.le_trans Z0 E81.1) (Keep.of_wr W82).1) (Keep.of_wr W83).1) (Keep.of_wr W84).1) E85.1) E_b85 F_member_b85 F_members_b85 F_count_b85 g_b85 hnn hcap) hZ (hw _ (List.mem_of_getElem? (i := 7) rfl)) (hw _ (List.mem_of_getElem? (i := 4) rfl)) (by decide) (by decide)) (g := (mkF m 189 #[.val (.int p1), .val (.int p2), .val (.int p3), .val (.int p4), .val (.int p5), .val (.int nn), .val (.int aa), .val (.int bb), .val (.int cc), .val (.int dd), .val (.int (0 : Int32)), .val (.int (1 : Int32)), .val (.int (1 : Int32)), .val (.ref b81), .val (.int ((((0 : Int32) + (1 : Int32)) + (1 : Int32)) + (1 : Int32))), .unset, .unset, .unset, .unset, .unset, .unset] [(.int nn), (.ref b85), (.ref b85)])) rfl (by rw [hml]; rfl) (Steps.refl _) (a := b85) (argsL := [(.int nn)]) (rest := [(.ref b85)]) (lenOf pd_0 rfl) rfl (by show 2 * 0 + _ ≤ _; exact Nat.le_of_eq rfl) (hb hby at_189) (fun _ _ => ⟨rfl, e85, (by decide : 2 + 2 ≤ _), (by decide : 7 + 16 ≤ _)⟩)
                dsimp only [Pt.U, Pt.locs, Pt.cells, Pt.slots] at X86 l86 y86 z86 st86 hQ86
                subst l86 y86 z86
                obtain ⟨rfl, N86q, KK86, mb, mc, szb, szc, M86⟩ := hQ86
                have N86 := Fr.app N84 N86q
                have ne_b81_mb : b81 ≠ mb := Nat.ne_of_lt (Nat.lt_of_lt_of_le V_b81_85.lt szb)
                have ne_b81_mc : b81 ≠ mc := Nat.ne_of_lt (Nat.lt_of_lt_of_le V_b81_85.lt szc)
                have g_mb : n0 ≤ mb := Nat.le_trans (Nat.le_trans (Nat.le_trans (Nat.le_trans (Nat.le_trans (Nat.le_trans Z0 E81.1) (Keep.of_wr W82).1) (Keep.of_wr W83).1) (Keep.of_wr W84).1) E85.1) szb
                have g_mc : n0 ≤ mc := Nat.le_trans (Nat.le_trans (Nat.le_trans (Nat.le_trans (Nat.le_trans (Nat.le_trans Z0 E81.1) (Keep.of_wr W82).1) (Keep.of_wr W83).1) (Keep.of_wr W84).1) E85.1) szc
                have sz_mb : h0.size ≤ mb := Nat.le_trans K85.1 szb
                have sz_mc : h0.size ≤ mc := Nat.le_trans K85.1 szc
                have V_b81_86 := V_b81_85.keep KK86 (ninS ne_b81_b85 nin0)
                have E_b85_86 := E_b85.keep KK86
                have KC86 := Keep.trans K85 KK86 (allS (P := fun x => x ∈ [] ∨ h0.size ≤ x) (Or.inr sz_b85) all0)
                refine own_pre (B := (T86.setTop (mkF m 198 #[.val (.int p1), .val (.int p2), .val (.int p3), .val (.int p4), .val (.int p5), .val (.int nn), .val (.int aa), .val (.int bb), .val (.int cc), .val (.int dd), .val (.int (0 : Int32)), .val (.int (1 : Int32)), .val (.int (1 : Int32)), .val (.ref b81), .val (.int ((((0 : Int32) + (1 : Int32)) + (1 : Int32)) + (1 : Int32))), .val (.ref b85), .unset, .unset, .unset, .unset, .unset] [(.int aa), (.ref b85)]))) (fun t kt => ?_) ?_
                · refine st86.trans ?_
                  show Steps p.tables e below (T86.setTop (mkF m 192 _ [(.ref b85)])) _
                  refine XS.astore X86.here hx rfl (hb hby at_192) rfl rfl (l' := #[.val (.int p1), .val (.int p2), .val (.int p3), .val (.int p4), .val (.int p5), .val (.int nn), .val (.int aa), .val (.int bb), .val (.int cc), .val (.int dd), .val (.int (0 : Int32)), .val (.int (1 : Int32)), .val (.int (1 : Int32)), .val (.ref b81), .val (.int ((((0 : Int32) + (1 : Int32)) + (1 : Int32)) + (1 : Int32))), .val (.ref b85), .unset, .unset, .unset, .unset, .unset]) rfl ?_
                  show Steps p.tables e below (T86.setTop (mkF m 194 _ [])) _
                  refine XS.aload X86.here hx rfl (hb hby at_194) rfl rfl ?_
                  show Steps p.tables e below (T86.setTop (mkF m 196 _ [(.ref b85)])) _
                  refine XS.iload X86.here hx rfl (hb hby at_196) rfl ?_
                  exact kt
                have hk0 : ¬ (0 : Int32) < 0 ∧ (0 : Int32) < nn := own_rng' (by have e : ((0 : Int32)).toInt = 0 := (by decide); omega)
                have hf_aa : (fun _ => (0 : Int32)) (aa).toNatClampNeg = 0 := by
                  simp only [own_upd, own_tn]
                obtain ⟨cq87, kq87, q87a, q87b, q87c⟩ := isOf hZ rfl M86.1
                obtain ⟨_, _, ⟨T87, L87, k87, n87⟩, -, X87, ⟨Lc87, hQ87, l87, y87, z87⟩, st87⟩ := X86.virtualBack hx (y := (⟨"com/example/faregraph/faregraph/search/Members", "add", "(I)Z"⟩ : MethodName)) (z := (⟨"com/example/faregraph/faregraph/search/Members", "add", "(I)Z"⟩ : MethodName)) hown (mvT hZ (hw _ (List.mem_of_getElem? (i := 16) rfl))) (mvT hZ (hw _ (List.mem_of_getElem? (i := 17) rfl))) (notFace_of_selects (args := #[]) (mvT hZ (hw _ (List.mem_of_getElem? (i := 19) rfl)))) (mvT hZ (hw _ (List.mem_of_getElem? (i := 19) rfl))) (mvT hZ (hw _ (List.mem_of_getElem? (i := 18) rfl))) (by decide) (backOf (W := 0) (rm3n l Z a0 hw [] b85 mb mc nn (0 : Int32) (fun _ => (0 : Int32)) (fun _ => (0 : Int32)) aa T86.heap n0 (Nat.le_trans (Nat.le_trans (Nat.le_trans (Nat.le_trans (Nat.le_trans (Nat.le_trans Z0 E81.1) (Keep.of_wr W82).1) (Keep.of_wr W83).1) (Keep.of_wr W84).1) E85.1) KK86.1) M86 ra hk0 hf_aa) hZ (hw _ (List.mem_of_getElem? (i := 20) rfl)) (hw _ (List.mem_of_getElem? (i := 4) rfl)) (by decide) (by decide)) q87a q87c (g := (mkF m 198 #[.val (.int p1), .val (.int p2), .val (.int p3), .val (.int p4), .val (.int p5), .val (.int nn), .val (.int aa), .val (.int bb), .val (.int cc), .val (.int dd), .val (.int (0 : Int32)), .val (.int (1 : Int32)), .val (.int (1 : Int32)), .val (.ref b81), .val (.int ((((0 : Int32) + (1 : Int32)) + (1 : Int32)) + (1 : Int32))), .val (.ref b85), .unset, .unset, .unset, .unset, .unset] [(.int aa), (.ref b85)])) rfl (by rw [hml]; rfl) (Steps.refl _) (argsL := [(.int aa)]) (rest := []) (lenOf pd_2 rfl) rfl (by show 2 * 0 + _ ≤ _; exact Nat.le_of_eq rfl) (hb hby at_198) (fun _ _ => ⟨rfl, rfl, (by decide : 4 + 0 ≤ _), (by decide : 23 + 0 ≤ _)⟩)
                dsimp only [Pt.U, Pt.locs, Pt.cells, Pt.slots] at X87 l87 y87 z87 st87 hQ87
                subst l87 y87 z87
                obtain ⟨rfl, N87q, KK87, M87⟩ := hQ87
                have N87 := Fr.app N86 N87q
                have V_b81_87 := V_b81_86.keep KK87 (ninS ne_b81_b85 (ninS ne_b81_mb (ninS ne_b81_mc nin0)))
                have E_b85_87 := E_b85_86.keep KK87
                have KC87 := Keep.trans KC86 KK87 (allS (P := fun x => x ∈ [] ∨ h0.size ≤ x) (Or.inr sz_b85) (allS (P := fun x => x ∈ [] ∨ h0.size ≤ x) (Or.inr sz_mb) (allS (P := fun x => x ∈ [] ∨ h0.size ≤ x) (Or.inr sz_mc) all0)))
                refine own_pre (B := (T87.setTop (mkF m 207 #[.val (.int p1), .val (.int p2), .val (.int p3), .val (.int p4), .val (.int p5), .val (.int nn), .val (.int aa), .val (.int bb), .val (.int cc), .val (.int dd), .val (.int (0 : Int32)), .val (.int (1 : Int32)), .val (.int (1 : Int32)), .val (.ref b81), .val (.int ((((0 : Int32) + (1 : Int32)) + (1 : Int32)) + (1 : Int32))), .val (.ref b85), .val (.int (1 : Int32)), .unset, .unset, .unset, .unset] [(.int bb), (.ref b85)]))) (fun t kt => ?_) ?_
                · refine st87.trans ?_
                  show Steps p.tables e below (T87.setTop (mkF m 201 _ [(.int (1 : Int32))])) _
                  refine XS.istore X87.here hx rfl (hb hby at_201) rfl (l' := #[.val (.int p1), .val (.int p2), .val (.int p3), .val (.int p4), .val (.int p5), .val (.int nn), .val (.int aa), .val (.int bb), .val (.int cc), .val (.int dd), .val (.int (0 : Int32)), .val (.int (1 : Int32)), .val (.int (1 : Int32)), .val (.ref b81), .val (.int ((((0 : Int32) + (1 : Int32)) + (1 : Int32)) + (1 : Int32))), .val (.ref b85), .val (.int (1 : Int32)), .unset, .unset, .unset, .unset]) rfl ?_
                  show Steps p.tables e below (T87.setTop (mkF m 203 _ [])) _
                  refine XS.aload X87.here hx rfl (hb hby at_203) rfl rfl ?_
                  show Steps p.tables e below (T87.setTop (mkF m 205 _ [(.ref b85)])) _
                  refine XS.iload X87.here hx rfl (hb hby at_205) rfl ?_
                  exact kt
                have hf_bb : (own_upd (fun _ => (0 : Int32)) (aa).toNatClampNeg 1) (bb).toNatClampNeg = 1 := by
                  simp only [own_upd, own_tn]
                  repeat' split
                  all_goals first | rfl | (exfalso; omega)
                obtain ⟨cq88, kq88, q88a, q88b, q88c⟩ := isOf hZ rfl M87.1
                obtain ⟨_, _, ⟨T88, L88, k88, n88⟩, -, X88, ⟨Lc88, hQ88, l88, y88, z88⟩, st88⟩ := X87.virtualBack hx (y := (⟨"com/example/faregraph/faregraph/search/Members", "add", "(I)Z"⟩ : MethodName)) (z := (⟨"com/example/faregraph/faregraph/search/Members", "add", "(I)Z"⟩ : MethodName)) hown (mvT hZ (hw _ (List.mem_of_getElem? (i := 16) rfl))) (mvT hZ (hw _ (List.mem_of_getElem? (i := 17) rfl))) (notFace_of_selects (args := #[]) (mvT hZ (hw _ (List.mem_of_getElem? (i := 19) rfl)))) (mvT hZ (hw _ (List.mem_of_getElem? (i := 19) rfl))) (mvT hZ (hw _ (List.mem_of_getElem? (i := 18) rfl))) (by decide) (backOf (W := 0) (rm3y l Z a0 hw [] b85 mb mc nn ((0 : Int32) + (1 : Int32)) (own_upd (fun _ => (0 : Int32)) (aa).toNatClampNeg 1) (own_upd (fun _ => (0 : Int32)) ((0 : Int32)).toNatClampNeg aa) bb T87.heap n0 (Nat.le_trans (Nat.le_trans (Nat.le_trans (Nat.le_trans (Nat.le_trans (Nat.le_trans (Nat.le_trans Z0 E81.1) (Keep.of_wr W82).1) (Keep.of_wr W83).1) (Keep.of_wr W84).1) E85.1) KK86.1) KK87.1) M87 rb hf_bb) hZ (hw _ (List.mem_of_getElem? (i := 20) rfl)) (hw _ (List.mem_of_getElem? (i := 4) rfl)) (by decide) (by decide)) q88a q88c (g := (mkF m 207 #[.val (.int p1), .val (.int p2), .val (.int p3), .val (.int p4), .val (.int p5), .val (.int nn), .val (.int aa), .val (.int bb), .val (.int cc), .val (.int dd), .val (.int (0 : Int32)), .val (.int (1 : Int32)), .val (.int (1 : Int32)), .val (.ref b81), .val (.int ((((0 : Int32) + (1 : Int32)) + (1 : Int32)) + (1 : Int32))), .val (.ref b85), .val (.int (1 : Int32)), .unset, .unset, .unset, .unset] [(.int bb), (.ref b85)])) rfl (by rw [hml]; rfl) (Steps.refl _) (argsL := [(.int bb)]) (rest := []) (lenOf pd_2 rfl) rfl (by show 2 * 0 + _ ≤ _; exact Nat.le_of_eq rfl) (hb hby at_207) (fun _ _ => ⟨rfl, rfl, (by decide : 4 + 0 ≤ _), (by decide : 23 + 0 ≤ _)⟩)
                dsimp only [Pt.U, Pt.locs, Pt.cells, Pt.slots] at X88 l88 y88 z88 st88 hQ88
                subst l88 y88 z88
                obtain ⟨rfl, N88q, e88⟩ := hQ88
                have N88 := Fr.app N87 N88q
                refine own_pre (B := (T88.setTop (mkF m 216 #[.val (.int p1), .val (.int p2), .val (.int p3), .val (.int p4), .val (.int p5), .val (.int nn), .val (.int aa), .val (.int bb), .val (.int cc), .val (.int dd), .val (.int (0 : Int32)), .val (.int (1 : Int32)), .val (.int (1 : Int32)), .val (.ref b81), .val (.int ((((0 : Int32) + (1 : Int32)) + (1 : Int32)) + (1 : Int32))), .val (.ref b85), .val (.int (1 : Int32)), .val (.int (0 : Int32)), .unset, .unset, .unset] [(.int cc), (.ref b85)]))) (fun t kt => ?_) ?_
                · refine st88.trans ?_
                  show Steps p.tables e below (T88.setTop (mkF m 210 _ [(.int (0 : Int32))])) _
                  refine XS.istore X88.here hx rfl (hb hby at_210) rfl (l' := #[.val (.int p1), .val (.int p2), .val (.int p3), .val (.int p4), .val (.int p5), .val (.int nn), .val (.int aa), .val (.int bb), .val (.int cc), .val (.int dd), .val (.int (0 : Int32)), .val (.int (1 : Int32)), .val (.int (1 : Int32)), .val (.ref b81), .val (.int ((((0 : Int32) + (1 : Int32)) + (1 : Int32)) + (1 : Int32))), .val (.ref b85), .val (.int (1 : Int32)), .val (.int (0 : Int32)), .unset, .unset, .unset]) rfl ?_
                  show Steps p.tables e below (T88.setTop (mkF m 212 _ [])) _
                  refine XS.aload X88.here hx rfl (hb hby at_212) rfl rfl ?_
                  show Steps p.tables e below (T88.setTop (mkF m 214 _ [(.ref b85)])) _
                  refine XS.iload X88.here hx rfl (hb hby at_214) rfl ?_
                  exact kt
                have hk1 : ¬ ((0 : Int32) + (1 : Int32)) < 0 ∧ ((0 : Int32) + (1 : Int32)) < nn := own_rng' (by have e : (((0 : Int32) + (1 : Int32))).toInt = 1 := (by decide); omega)
                have hf_cc : (own_upd (fun _ => (0 : Int32)) (aa).toNatClampNeg 1) (cc).toNatClampNeg = 0 := by
                  simp only [own_upd, own_tn]
                  repeat' split
                  all_goals first | rfl | (exfalso; omega)
                obtain ⟨cq89, kq89, q89a, q89b, q89c⟩ := isOf hZ e88 M87.1
                obtain ⟨_, _, ⟨T89, L89, k89, n89⟩, -, X89, ⟨Lc89, hQ89, l89, y89, z89⟩, st89⟩ := X88.virtualBack hx (y := (⟨"com/example/faregraph/faregraph/search/Members", "add", "(I)Z"⟩ : MethodName)) (z := (⟨"com/example/faregraph/faregraph/search/Members", "add", "(I)Z"⟩ : MethodName)) hown (mvT hZ (hw _ (List.mem_of_getElem? (i := 16) rfl))) (mvT hZ (hw _ (List.mem_of_getElem? (i := 17) rfl))) (notFace_of_selects (args := #[]) (mvT hZ (hw _ (List.mem_of_getElem? (i := 19) rfl)))) (mvT hZ (hw _ (List.mem_of_getElem? (i := 19) rfl))) (mvT hZ (hw _ (List.mem_of_getElem? (i := 18) rfl))) (by decide) (backOf (W := 0) (rm3n l Z a0 hw [] b85 mb mc nn ((0 : Int32) + (1 : Int32)) (own_upd (fun _ => (0 : Int32)) (aa).toNatClampNeg 1) (own_upd (fun _ => (0 : Int32)) ((0 : Int32)).toNatClampNeg aa) cc T87.heap n0 (Nat.le_trans (Nat.le_trans (Nat.le_trans (Nat.le_trans (Nat.le_trans (Nat.le_trans (Nat.le_trans Z0 E81.1) (Keep.of_wr W82).1) (Keep.of_wr W83).1) (Keep.of_wr W84).1) E85.1) KK86.1) KK87.1) M87 rc hk1 hf_cc) hZ (hw _ (List.mem_of_getElem? (i := 20) rfl)) (hw _ (List.mem_of_getElem? (i := 4) rfl)) (by decide) (by decide)) q89a q89c (g := (mkF m 216 #[.val (.int p1), .val (.int p2), .val (.int p3), .val (.int p4), .val (.int p5), .val (.int nn), .val (.int aa), .val (.int bb), .val (.int cc), .val (.int dd), .val (.int (0 : Int32)), .val (.int (1 : Int32)), .val (.int (1 : Int32)), .val (.ref b81), .val (.int ((((0 : Int32) + (1 : Int32)) + (1 : Int32)) + (1 : Int32))), .val (.ref b85), .val (.int (1 : Int32)), .val (.int (0 : Int32)), .unset, .unset, .unset] [(.int cc), (.ref b85)])) rfl (by rw [hml]; rfl) (Steps.refl _) (argsL := [(.int cc)]) (rest := []) (lenOf pd_2 rfl) rfl (by show 2 * 0 + _ ≤ _; exact Nat.le_of_eq rfl) (hb hby at_216) (fun _ _ => ⟨rfl, e88, (by decide : 4 + 0 ≤ _), (by decide : 23 + 0 ≤ _)⟩)
                dsimp only [Pt.U, Pt.locs, Pt.cells, Pt.slots] at X89 l89 y89 z89 st89 hQ89
                subst l89 y89 z89
                obtain ⟨rfl, N89q, KK89, M89⟩ := hQ89
                have N89 := Fr.app N88 N89q
                have V_b81_89 := V_b81_87.keep KK89 (ninS ne_b81_b85 (ninS ne_b81_mb (ninS ne_b81_mc nin0)))
                have E_b85_89 := E_b85_87.keep KK89
                have KC89 := Keep.trans KC87 KK89 (allS (P := fun x => x ∈ [] ∨ h0.size ≤ x) (Or.inr sz_b85) (allS (P := fun x => x ∈ [] ∨ h0.size ≤ x) (Or.inr sz_mb) (allS (P := fun x => x ∈ [] ∨ h0.size ≤ x) (Or.inr sz_mc) all0)))
                refine own_pre (B := (T89.setTop (mkF m 225 #[.val (.int p1), .val (.int p2), .val (.int p3), .val (.int p4), .val (.int p5), .val (.int nn), .val (.int aa), .val (.int bb), .val (.int cc), .val (.int dd), .val (.int (0 : Int32)), .val (.int (1 : Int32)), .val (.int (1 : Int32)), .val (.ref b81), .val (.int ((((0 : Int32) + (1 : Int32)) + (1 : Int32)) + (1 : Int32))), .val (.ref b85), .val (.int (1 : Int32)), .val (.int (0 : Int32)), .val (.int (1 : Int32)), .unset, .unset] [(.int dd), (.ref b85)]))) (fun t kt => ?_) ?_
                · refine st89.trans ?_
                  show Steps p.tables e below (T89.setTop (mkF m 219 _ [(.int (1 : Int32))])) _
                  refine XS.istore X89.here hx rfl (hb hby at_219) rfl (l' := #[.val (.int p1), .val (.int p2), .val (.int p3), .val (.int p4), .val (.int p5), .val (.int nn), .val (.int aa), .val (.int bb), .val (.int cc), .val (.int dd), .val (.int (0 : Int32)), .val (.int (1 : Int32)), .val (.int (1 : Int32)), .val (.ref b81), .val (.int ((((0 : Int32) + (1 : Int32)) + (1 : Int32)) + (1 : Int32))), .val (.ref b85), .val (.int (1 : Int32)), .val (.int (0 : Int32)), .val (.int (1 : Int32)), .unset, .unset]) rfl ?_
                  show Steps p.tables e below (T89.setTop (mkF m 221 _ [])) _
                  refine XS.aload X89.here hx rfl (hb hby at_221) rfl rfl ?_
                  show Steps p.tables e below (T89.setTop (mkF m 223 _ [(.ref b85)])) _
                  refine XS.iload X89.here hx rfl (hb hby at_223) rfl ?_
                  exact kt
                have hk2 : ¬ (((0 : Int32) + (1 : Int32)) + (1 : Int32)) < 0 ∧ (((0 : Int32) + (1 : Int32)) + (1 : Int32)) < nn := own_rng' (by have e : ((((0 : Int32) + (1 : Int32)) + (1 : Int32))).toInt = 2 := (by decide); omega)
                have hf_dd : (own_upd (own_upd (fun _ => (0 : Int32)) (aa).toNatClampNeg 1) (cc).toNatClampNeg 1) (dd).toNatClampNeg = 0 := by
                  simp only [own_upd, own_tn]
                  repeat' split
                  all_goals first | rfl | (exfalso; omega)
                obtain ⟨cq90, kq90, q90a, q90b, q90c⟩ := isOf hZ rfl M89.1
                obtain ⟨_, _, ⟨T90, L90, k90, n90⟩, -, X90, ⟨Lc90, hQ90, l90, y90, z90⟩, st90⟩ := X89.virtualBack hx (y := (⟨"com/example/faregraph/faregraph/search/Members", "add", "(I)Z"⟩ : MethodName)) (z := (⟨"com/example/faregraph/faregraph/search/Members", "add", "(I)Z"⟩ : MethodName)) hown (mvT hZ (hw _ (List.mem_of_getElem? (i := 16) rfl))) (mvT hZ (hw _ (List.mem_of_getElem? (i := 17) rfl))) (notFace_of_selects (args := #[]) (mvT hZ (hw _ (List.mem_of_getElem? (i := 19) rfl)))) (mvT hZ (hw _ (List.mem_of_getElem? (i := 19) rfl))) (mvT hZ (hw _ (List.mem_of_getElem? (i := 18) rfl))) (by decide) (backOf (W := 0) (rm3n l Z a0 hw [] b85 mb mc nn (((0 : Int32) + (1 : Int32)) + (1 : Int32)) (own_upd (own_upd (fun _ => (0 : Int32)) (aa).toNatClampNeg 1) (cc).toNatClampNeg 1) (own_upd (own_upd (fun _ => (0 : Int32)) ((0 : Int32)).toNatClampNeg aa) (((0 : Int32) + (1 : Int32))).toNatClampNeg cc) dd T89.heap n0 (Nat.le_trans (Nat.le_trans (Nat.le_trans (Nat.le_trans (Nat.le_trans (Nat.le_trans (Nat.le_trans (Nat.le_trans Z0 E81.1) (Keep.of_wr W82).1) (Keep.of_wr W83).1) (Keep.of_wr W84).1) E85.1) KK86.1) KK87.1) KK89.1) M89 rd hk2 hf_dd) hZ (hw _ (List.mem_of_getElem? (i := 20) rfl)) (hw _ (List.mem_of_getElem? (i := 4) rfl)) (by decide) (by decide)) q90a q90c (g := (mkF m 225 #[.val (.int p1), .val (.int p2), .val (.int p3), .val (.int p4), .val (.int p5), .val (.int nn), .val (.int aa), .val (.int bb), .val (.int cc), .val (.int dd), .val (.int (0 : Int32)), .val (.int (1 : Int32)), .val (.int (1 : Int32)), .val (.ref b81), .val (.int ((((0 : Int32) + (1 : Int32)) + (1 : Int32)) + (1 : Int32))), .val (.ref b85), .val (.int (1 : Int32)), .val (.int (0 : Int32)), .val (.int (1 : Int32)), .unset, .unset] [(.int dd), (.ref b85)])) rfl (by rw [hml]; rfl) (Steps.refl _) (argsL := [(.int dd)]) (rest := []) (lenOf pd_2 rfl) rfl (by show 2 * 0 + _ ≤ _; exact Nat.le_of_eq rfl) (hb hby at_225) (fun _ _ => ⟨rfl, rfl, (by decide : 4 + 0 ≤ _), (by decide : 23 + 0 ≤ _)⟩)
                dsimp only [Pt.U, Pt.locs, Pt.cells, Pt.slots] at X90 l90 y90 z90 st90 hQ90
                subst l90 y90 z90
                obtain ⟨rfl, N90q, KK90, M90⟩ := hQ90
                have N90 := Fr.app N89 N90q
                have V_b81_90 := V_b81_89.keep KK90 (ninS ne_b81_b85 (ninS ne_b81_mb (ninS ne_b81_mc nin0)))
                have E_b85_90 := E_b85_89.keep KK90
                have KC90 := Keep.trans KC89 KK90 (allS (P := fun x => x ∈ [] ∨ h0.size ≤ x) (Or.inr sz_b85) (allS (P := fun x => x ∈ [] ∨ h0.size ≤ x) (Or.inr sz_mb) (allS (P := fun x => x ∈ [] ∨ h0.size ≤ x) (Or.inr sz_mc) all0)))
                refine own_pre (B := (T90.setTop (mkF m 260 #[.val (.int p1), .val (.int p2), .val (.int p3), .val (.int p4), .val (.int p5), .val (.int nn), .val (.int aa), .val (.int bb), .val (.int cc), .val (.int dd), .val (.int (0 : Int32)), .val (.int (1 : Int32)), .val (.int (1 : Int32)), .val (.ref b81), .val (.int ((((0 : Int32) + (1 : Int32)) + (1 : Int32)) + (1 : Int32))), .val (.ref b85), .val (.int (1 : Int32)), .val (.int (0 : Int32)), .val (.int (1 : Int32)), .val (.int (1 : Int32)), .unset] [(.ref b85)]))) (fun t kt => ?_) ?_
                · refine st90.trans ?_
                  show Steps p.tables e below (T90.setTop (mkF m 228 _ [(.int (1 : Int32))])) _
                  refine XS.istore X90.here hx rfl (hb hby at_228) rfl (l' := #[.val (.int p1), .val (.int p2), .val (.int p3), .val (.int p4), .val (.int p5), .val (.int nn), .val (.int aa), .val (.int bb), .val (.int cc), .val (.int dd), .val (.int (0 : Int32)), .val (.int (1 : Int32)), .val (.int (1 : Int32)), .val (.ref b81), .val (.int ((((0 : Int32) + (1 : Int32)) + (1 : Int32)) + (1 : Int32))), .val (.ref b85), .val (.int (1 : Int32)), .val (.int (0 : Int32)), .val (.int (1 : Int32)), .val (.int (1 : Int32)), .unset]) rfl ?_
                  show Steps p.tables e below (T90.setTop (mkF m 230 _ [])) _
                  refine XS.iload X90.here hx rfl (hb hby at_230) rfl ?_
                  show Steps p.tables e below (T90.setTop (mkF m 232 _ [(.int (1 : Int32))])) _
                  refine XS.ifNo X90.here hx rfl (hb hby at_232) rfl ((if0 _ _).trans (feq ((by decide) : ¬ ((1 : Int32) = (0 : Int32)))).1) ?_
                  show Steps p.tables e below (T90.setTop (mkF m 235 _ [])) _
                  refine XS.iload X90.here hx rfl (hb hby at_235) rfl ?_
                  show Steps p.tables e below (T90.setTop (mkF m 237 _ [(.int (0 : Int32))])) _
                  refine XS.iload X90.here hx rfl (hb hby at_237) rfl ?_
                  show Steps p.tables e below (T90.setTop (mkF m 239 _ [(.int (0 : Int32)), (.int (0 : Int32))])) _
                  refine XS.icmpNo X90.here hx rfl (hb hby at_239) rfl (teq (rfl : (0 : Int32) = (0 : Int32))).2 ?_
                  show Steps p.tables e below (T90.setTop (mkF m 242 _ [])) _
                  refine XS.iload X90.here hx rfl (hb hby at_242) rfl ?_
                  show Steps p.tables e below (T90.setTop (mkF m 244 _ [(.int (1 : Int32))])) _
                  refine XS.iload X90.here hx rfl (hb hby at_244) rfl ?_
                  show Steps p.tables e below (T90.setTop (mkF m 246 _ [(.int (1 : Int32)), (.int (1 : Int32))])) _
                  refine XS.icmpNo X90.here hx rfl (hb hby at_246) rfl (teq (rfl : (1 : Int32) = (1 : Int32))).2 ?_
                  show Steps p.tables e below (T90.setTop (mkF m 249 _ [])) _
                  refine XS.iload X90.here hx rfl (hb hby at_249) rfl ?_
                  show Steps p.tables e below (T90.setTop (mkF m 251 _ [(.int (1 : Int32))])) _
                  refine XS.iload X90.here hx rfl (hb hby at_251) rfl ?_
                  show Steps p.tables e below (T90.setTop (mkF m 253 _ [(.int (1 : Int32)), (.int (1 : Int32))])) _
                  refine XS.icmpYes X90.here hx rfl (pc0 := 253) (pc' := 258) rfl (hb hby at_253) rfl (teq (rfl : (1 : Int32) = (1 : Int32))).1 (by decide) (by decide) ?_
                  show Steps p.tables e below (T90.setTop (mkF m 258 _ [])) _
                  refine XS.aload X90.here hx rfl (hb hby at_258) rfl rfl ?_
                  exact kt
                obtain ⟨cq91, kq91, q91a, q91b, q91c⟩ := isOf hZ rfl M90.1
                obtain ⟨_, _, ⟨T91, L91, k91, n91⟩, -, X91, ⟨Lc91, hQ91, l91, y91, z91⟩, st91⟩ := X90.virtualBack hx (y := (⟨"com/example/faregraph/faregraph/search/Members", "count", "()I"⟩ : MethodName)) (z := (⟨"com/example/faregraph/faregraph/search/Members", "count", "()I"⟩ : MethodName)) hown (mvT hZ (hw _ (List.mem_of_getElem? (i := 23) rfl))) (mvT hZ (hw _ (List.mem_of_getElem? (i := 24) rfl))) (notFace_of_selects (args := #[]) (mvT hZ (hw _ (List.mem_of_getElem? (i := 26) rfl)))) (mvT hZ (hw _ (List.mem_of_getElem? (i := 26) rfl))) (mvT hZ (hw _ (List.mem_of_getElem? (i := 25) rfl))) (by decide) (backOf (W := 0) (rm4 l Z a0 hw [] b85 mb mc nn ((((0 : Int32) + (1 : Int32)) + (1 : Int32)) + (1 : Int32)) (own_upd (own_upd (own_upd (fun _ => (0 : Int32)) (aa).toNatClampNeg 1) (cc).toNatClampNeg 1) (dd).toNatClampNeg 1) (own_upd (own_upd (own_upd (fun _ => (0 : Int32)) ((0 : Int32)).toNatClampNeg aa) (((0 : Int32) + (1 : Int32))).toNatClampNeg cc) ((((0 : Int32) + (1 : Int32)) + (1 : Int32))).toNatClampNeg dd) T90.heap n0 (Nat.le_trans (Nat.le_trans (Nat.le_trans (Nat.le_trans (Nat.le_trans (Nat.le_trans (Nat.le_trans (Nat.le_trans (Nat.le_trans Z0 E81.1) (Keep.of_wr W82).1) (Keep.of_wr W83).1) (Keep.of_wr W84).1) E85.1) KK86.1) KK87.1) KK89.1) KK90.1) M90) hZ (hw _ (List.mem_of_getElem? (i := 27) rfl)) (hw _ (List.mem_of_getElem? (i := 4) rfl)) (by decide) (by decide)) q91a q91c (g := (mkF m 260 #[.val (.int p1), .val (.int p2), .val (.int p3), .val (.int p4), .val (.int p5), .val (.int nn), .val (.int aa), .val (.int bb), .val (.int cc), .val (.int dd), .val (.int (0 : Int32)), .val (.int (1 : Int32)), .val (.int (1 : Int32)), .val (.ref b81), .val (.int ((((0 : Int32) + (1 : Int32)) + (1 : Int32)) + (1 : Int32))), .val (.ref b85), .val (.int (1 : Int32)), .val (.int (0 : Int32)), .val (.int (1 : Int32)), .val (.int (1 : Int32)), .unset] [(.ref b85)])) rfl (by rw [hml]; rfl) (Steps.refl _) (argsL := []) (rest := []) (lenOf pd_3 rfl) rfl (by show 2 * 0 + _ ≤ _; exact Nat.le_of_eq rfl) (hb hby at_260) (fun _ _ => ⟨rfl, rfl, (by decide : 4 + 0 ≤ _), (by decide : 23 + 0 ≤ _)⟩)
                dsimp only [Pt.U, Pt.locs, Pt.cells, Pt.slots] at X91 l91 y91 z91 st91 hQ91
                subst l91 y91 z91
                obtain ⟨rfl, N91q, e91⟩ := hQ91
                have N91 := Fr.app N90 N91q
                refine own_pre (B := (T91.setTop (mkF m 273 #[.val (.int p1), .val (.int p2), .val (.int p3), .val (.int p4), .val (.int p5), .val (.int nn), .val (.int aa), .val (.int bb), .val (.int cc), .val (.int dd), .val (.int (0 : Int32)), .val (.int (1 : Int32)), .val (.int (1 : Int32)), .val (.ref b81), .val (.int ((((0 : Int32) + (1 : Int32)) + (1 : Int32)) + (1 : Int32))), .val (.ref b85), .val (.int (1 : Int32)), .val (.int (0 : Int32)), .val (.int (1 : Int32)), .val (.int (1 : Int32)), .unset] [(.int (0 : Int32)), (.ref b85)]))) (fun t kt => ?_) ?_
                · refine st91.trans ?_
                  show Steps p.tables e below (T91.setTop (mkF m 263 _ [(.int ((((0 : Int32) + (1 : Int32)) + (1 : Int32)) + (1 : Int32)))])) _
                  refine XS.iload X91.here hx rfl (hb hby at_263) rfl ?_
                  show Steps p.tables e below (T91.setTop (mkF m 265 _ [(.int ((((0 : Int32) + (1 : Int32)) + (1 : Int32)) + (1 : Int32))), (.int ((((0 : Int32) + (1 : Int32)) + (1 : Int32)) + (1 : Int32)))])) _
                  refine XS.icmpYes X91.here hx rfl (pc0 := 265) (pc' := 270) rfl (hb hby at_265) rfl (teq (rfl : ((((0 : Int32) + (1 : Int32)) + (1 : Int32)) + (1 : Int32)) = ((((0 : Int32) + (1 : Int32)) + (1 : Int32)) + (1 : Int32)))).1 (by decide) (by decide) ?_
                  show Steps p.tables e below (T91.setTop (mkF m 270 _ [])) _
                  refine XS.aload X91.here hx rfl (hb hby at_270) rfl rfl ?_
                  show Steps p.tables e below (T91.setTop (mkF m 272 _ [(.ref b85)])) _
                  refine XS.iconst X91.here hx rfl (hb hby at_272) ?_
                  exact kt
                have pg92 : (own_upd (own_upd (own_upd (fun _ => (0 : Int32)) ((0 : Int32)).toNatClampNeg aa) (((0 : Int32) + (1 : Int32))).toNatClampNeg cc) ((((0 : Int32) + (1 : Int32)) + (1 : Int32))).toNatClampNeg dd) ((0 : Int32)).toNatClampNeg = aa := ((own_upd_ne (by decide)).trans ((own_upd_ne (by decide)).trans (own_upd_hit (by decide))))
                obtain ⟨cq92, kq92, q92a, q92b, q92c⟩ := isOf hZ e91 M90.1
                obtain ⟨_, _, ⟨T92, L92, k92, n92⟩, -, X92, ⟨Lc92, hQ92, l92, y92, z92⟩, st92⟩ := X91.virtualBack hx (y := (⟨"com/example/faregraph/faregraph/search/Members", "get", "(I)I"⟩ : MethodName)) (z := (⟨"com/example/faregraph/faregraph/search/Members", "get", "(I)I"⟩ : MethodName)) hown (mvT hZ (hw _ (List.mem_of_getElem? (i := 28) rfl))) (mvT hZ (hw _ (List.mem_of_getElem? (i := 29) rfl))) (notFace_of_selects (args := #[]) (mvT hZ (hw _ (List.mem_of_getElem? (i := 31) rfl)))) (mvT hZ (hw _ (List.mem_of_getElem? (i := 31) rfl))) (mvT hZ (hw _ (List.mem_of_getElem? (i := 30) rfl))) (by decide) (backOf (W := 0) (rm5 l Z a0 hw [] b85 mb mc nn ((((0 : Int32) + (1 : Int32)) + (1 : Int32)) + (1 : Int32)) (own_upd (own_upd (own_upd (fun _ => (0 : Int32)) (aa).toNatClampNeg 1) (cc).toNatClampNeg 1) (dd).toNatClampNeg 1) (own_upd (own_upd (own_upd (fun _ => (0 : Int32)) ((0 : Int32)).toNatClampNeg aa) (((0 : Int32) + (1 : Int32))).toNatClampNeg cc) ((((0 : Int32) + (1 : Int32)) + (1 : Int32))).toNatClampNeg dd) (0 : Int32) aa T90.heap n0 (Nat.le_trans (Nat.le_trans (Nat.le_trans (Nat.le_trans (Nat.le_trans (Nat.le_trans (Nat.le_trans (Nat.le_trans (Nat.le_trans Z0 E81.1) (Keep.of_wr W82).1) (Keep.of_wr W83).1) (Keep.of_wr W84).1) E85.1) KK86.1) KK87.1) KK89.1) KK90.1) M90 (own_rng' (by have e : ((0 : Int32)).toInt = 0 := (by decide); omega)) pg92) hZ (hw _ (List.mem_of_getElem? (i := 32) rfl)) (hw _ (List.mem_of_getElem? (i := 4) rfl)) (by decide) (by decide)) q92a q92c (g := (mkF m 273 #[.val (.int p1), .val (.int p2), .val (.int p3), .val (.int p4), .val (.int p5), .val (.int nn), .val (.int aa), .val (.int bb), .val (.int cc), .val (.int dd), .val (.int (0 : Int32)), .val (.int (1 : Int32)), .val (.int (1 : Int32)), .val (.ref b81), .val (.int ((((0 : Int32) + (1 : Int32)) + (1 : Int32)) + (1 : Int32))), .val (.ref b85), .val (.int (1 : Int32)), .val (.int (0 : Int32)), .val (.int (1 : Int32)), .val (.int (1 : Int32)), .unset] [(.int (0 : Int32)), (.ref b85)])) rfl (by rw [hml]; rfl) (Steps.refl _) (argsL := [(.int (0 : Int32))]) (rest := []) (lenOf pd_4 rfl) rfl (by show 2 * 0 + _ ≤ _; exact Nat.le_of_eq rfl) (hb hby at_273) (fun _ _ => ⟨rfl, e91, (by decide : 4 + 0 ≤ _), (by decide : 23 + 0 ≤ _)⟩)
                dsimp only [Pt.U, Pt.locs, Pt.cells, Pt.slots] at X92 l92 y92 z92 st92 hQ92
                subst l92 y92 z92
                obtain ⟨rfl, N92q, e92⟩ := hQ92
                have N92 := Fr.app N91 N92q
                refine own_pre (B := (T92.setTop (mkF m 279 #[.val (.int p1), .val (.int p2), .val (.int p3), .val (.int p4), .val (.int p5), .val (.int nn), .val (.int aa), .val (.int bb), .val (.int cc), .val (.int dd), .val (.int (0 : Int32)), .val (.int (1 : Int32)), .val (.int (1 : Int32)), .val (.ref b81), .val (.int ((((0 : Int32) + (1 : Int32)) + (1 : Int32)) + (1 : Int32))), .val (.ref b85), .val (.int (1 : Int32)), .val (.int (0 : Int32)), .val (.int (1 : Int32)), .val (.int (1 : Int32)), .unset] [(.int (0 : Int32)), (.ref b81), (.int aa)]))) (fun t kt => ?_) ?_
                · refine st92.trans ?_
                  show Steps p.tables e below (T92.setTop (mkF m 276 _ [(.int aa)])) _
                  refine XS.aload X92.here hx rfl (hb hby at_276) rfl rfl ?_
                  show Steps p.tables e below (T92.setTop (mkF m 278 _ [(.ref b81), (.int aa)])) _
                  refine XS.iconst X92.here hx rfl (hb hby at_278) ?_
                  exact kt
                have pe94 : (own_upd (own_upd (own_upd (fun _ => (0 : Int32)) ((0 : Int32)).toNatClampNeg aa) (((0 : Int32) + (1 : Int32))).toNatClampNeg cc) ((((0 : Int32) + (1 : Int32)) + (1 : Int32))).toNatClampNeg dd) ((0 : Int32)).toNatClampNeg = aa := ((own_upd_ne (by decide)).trans ((own_upd_ne (by decide)).trans (own_upd_hit (by decide))))
                obtain ⟨cl93, Ar93, S93, P93, H93⟩ := id V_b81_90
                have in93 := inb_of S93 (⟨by decide, by decide⟩ : ¬ (0 : Int32) < 0 ∧ (0 : Int32) < (4 : Int32))
                have at93 : cl93.slots[((0 : Int32)).toNatClampNeg]? = some (.int aa) := (H93 _ (Nat.lt_of_not_le fun y => in93 (Or.inr y))).trans (congrArg (fun z => some (Value.int z)) pe94)
                refine own_pre (B := (T92.setTop (mkF m 304 #[.val (.int p1), .val (.int p2), .val (.int p3), .val (.int p4), .val (.int p5), .val (.int nn), .val (.int aa), .val (.int bb), .val (.int cc), .val (.int dd), .val (.int (0 : Int32)), .val (.int (1 : Int32)), .val (.int (1 : Int32)), .val (.ref b81), .val (.int ((((0 : Int32) + (1 : Int32)) + (1 : Int32)) + (1 : Int32))), .val (.ref b85), .val (.int (1 : Int32)), .val (.int (0 : Int32)), .val (.int (1 : Int32)), .val (.int (1 : Int32)), .val (.int (1 : Int32))] [(.int (1 : Int32)), (.ref b85)]))) (fun t kt => ?_) ?_
                · show Steps p.tables e below (T92.setTop (mkF m 279 _ [(.int (0 : Int32)), (.ref b81), (.int aa)])) _
                  refine X92.iaload hx (j := (0 : Int32)) (v := (.int aa)) (by rw [e92]; exact Ar93.1) (State.isArrayOf_alike hZ.alike Ar93.2.1) Ar93.2.2 in93 at93 (g := (mkF m 279 #[.val (.int p1), .val (.int p2), .val (.int p3), .val (.int p4), .val (.int p5), .val (.int nn), .val (.int aa), .val (.int bb), .val (.int cc), .val (.int dd), .val (.int (0 : Int32)), .val (.int (1 : Int32)), .val (.int (1 : Int32)), .val (.ref b81), .val (.int ((((0 : Int32) + (1 : Int32)) + (1 : Int32)) + (1 : Int32))), .val (.ref b85), .val (.int (1 : Int32)), .val (.int (0 : Int32)), .val (.int (1 : Int32)), .val (.int (1 : Int32)), .unset] [(.int (0 : Int32)), (.ref b81), (.int aa)])) rfl rfl (hb hby at_279) _ ?_
                  show Steps p.tables e below (T92.setTop (mkF m 280 _ [(.int aa), (.int aa)])) _
                  refine XS.icmpNo X92.here hx rfl (hb hby at_280) rfl (teq (rfl : aa = aa)).2 ?_
                  show Steps p.tables e below (T92.setTop (mkF m 283 _ [])) _
                  refine XS.iconst X92.here hx rfl (hb hby at_283) ?_
                  show Steps p.tables e below (T92.setTop (mkF m 284 _ [(.int (1 : Int32))])) _
                  refine XS.goto X92.here hx rfl (pc0 := 284) (pc' := 288) rfl (hb hby at_284) (by decide) (by decide) ?_
                  show Steps p.tables e below (T92.setTop (mkF m 288 _ [(.int (1 : Int32))])) _
                  refine XS.istore X92.here hx rfl (hb hby at_288) rfl (l' := #[.val (.int p1), .val (.int p2), .val (.int p3), .val (.int p4), .val (.int p5), .val (.int nn), .val (.int aa), .val (.int bb), .val (.int cc), .val (.int dd), .val (.int (0 : Int32)), .val (.int (1 : Int32)), .val (.int (1 : Int32)), .val (.ref b81), .val (.int ((((0 : Int32) + (1 : Int32)) + (1 : Int32)) + (1 : Int32))), .val (.ref b85), .val (.int (1 : Int32)), .val (.int (0 : Int32)), .val (.int (1 : Int32)), .val (.int (1 : Int32)), .val (.int (1 : Int32))]) rfl ?_
                  show Steps p.tables e below (T92.setTop (mkF m 290 _ [])) _
                  refine XS.iload X92.here hx rfl (hb hby at_290) rfl ?_
                  show Steps p.tables e below (T92.setTop (mkF m 292 _ [(.int ((((0 : Int32) + (1 : Int32)) + (1 : Int32)) + (1 : Int32)))])) _
                  refine XS.iconst X92.here hx rfl (hb hby at_292) ?_
                  show Steps p.tables e below (T92.setTop (mkF m 293 _ [(.int (1 : Int32)), (.int ((((0 : Int32) + (1 : Int32)) + (1 : Int32)) + (1 : Int32)))])) _
                  refine XS.icmpNo X92.here hx rfl (hb hby at_293) rfl (tlt ((by decide) : (1 : Int32) < ((((0 : Int32) + (1 : Int32)) + (1 : Int32)) + (1 : Int32)))).2.2.2 ?_
                  show Steps p.tables e below (T92.setTop (mkF m 296 _ [])) _
                  refine XS.iload X92.here hx rfl (hb hby at_296) rfl ?_
                  show Steps p.tables e below (T92.setTop (mkF m 298 _ [(.int (1 : Int32))])) _
                  refine XS.ifNo X92.here hx rfl (hb hby at_298) rfl ((if0 _ _).trans (feq ((by decide) : ¬ ((1 : Int32) = (0 : Int32)))).1) ?_
                  show Steps p.tables e below (T92.setTop (mkF m 301 _ [])) _
                  refine XS.aload X92.here hx rfl (hb hby at_301) rfl rfl ?_
                  show Steps p.tables e below (T92.setTop (mkF m 303 _ [(.ref b85)])) _
                  refine XS.iconst X92.here hx rfl (hb hby at_303) ?_
                  exact kt
                have pg95 : (own_upd (own_upd (own_upd (fun _ => (0 : Int32)) ((0 : Int32)).toNatClampNeg aa) (((0 : Int32) + (1 : Int32))).toNatClampNeg cc) ((((0 : Int32) + (1 : Int32)) + (1 : Int32))).toNatClampNeg dd) ((1 : Int32)).toNatClampNeg = cc := ((own_upd_ne (by decide)).trans (own_upd_hit (by decide)))
                obtain ⟨cq95, kq95, q95a, q95b, q95c⟩ := isOf hZ e92 M90.1
                obtain ⟨_, _, ⟨T95, L95, k95, n95⟩, -, X95, ⟨Lc95, hQ95, l95, y95, z95⟩, st95⟩ := X92.virtualBack hx (y := (⟨"com/example/faregraph/faregraph/search/Members", "get", "(I)I"⟩ : MethodName)) (z := (⟨"com/example/faregraph/faregraph/search/Members", "get", "(I)I"⟩ : MethodName)) hown (mvT hZ (hw _ (List.mem_of_getElem? (i := 28) rfl))) (mvT hZ (hw _ (List.mem_of_getElem? (i := 29) rfl))) (notFace_of_selects (args := #[]) (mvT hZ (hw _ (List.mem_of_getElem? (i := 31) rfl)))) (mvT hZ (hw _ (List.mem_of_getElem? (i := 31) rfl))) (mvT hZ (hw _ (List.mem_of_getElem? (i := 30) rfl))) (by decide) (backOf (W := 0) (rm5 l Z a0 hw [] b85 mb mc nn ((((0 : Int32) + (1 : Int32)) + (1 : Int32)) + (1 : Int32)) (own_upd (own_upd (own_upd (fun _ => (0 : Int32)) (aa).toNatClampNeg 1) (cc).toNatClampNeg 1) (dd).toNatClampNeg 1) (own_upd (own_upd (own_upd (fun _ => (0 : Int32)) ((0 : Int32)).toNatClampNeg aa) (((0 : Int32) + (1 : Int32))).toNatClampNeg cc) ((((0 : Int32) + (1 : Int32)) + (1 : Int32))).toNatClampNeg dd) (1 : Int32) cc T90.heap n0 (Nat.le_trans (Nat.le_trans (Nat.le_trans (Nat.le_trans (Nat.le_trans (Nat.le_trans (Nat.le_trans (Nat.le_trans (Nat.le_trans Z0 E81.1) (Keep.of_wr W82).1) (Keep.of_wr W83).1) (Keep.of_wr W84).1) E85.1) KK86.1) KK87.1) KK89.1) KK90.1) M90 (own_rng' (by have e : ((1 : Int32)).toInt = 1 := (by decide); omega)) pg95) hZ (hw _ (List.mem_of_getElem? (i := 32) rfl)) (hw _ (List.mem_of_getElem? (i := 4) rfl)) (by decide) (by decide)) q95a q95c (g := (mkF m 304 #[.val (.int p1), .val (.int p2), .val (.int p3), .val (.int p4), .val (.int p5), .val (.int nn), .val (.int aa), .val (.int bb), .val (.int cc), .val (.int dd), .val (.int (0 : Int32)), .val (.int (1 : Int32)), .val (.int (1 : Int32)), .val (.ref b81), .val (.int ((((0 : Int32) + (1 : Int32)) + (1 : Int32)) + (1 : Int32))), .val (.ref b85), .val (.int (1 : Int32)), .val (.int (0 : Int32)), .val (.int (1 : Int32)), .val (.int (1 : Int32)), .val (.int (1 : Int32))] [(.int (1 : Int32)), (.ref b85)])) rfl (by rw [hml]; rfl) (Steps.refl _) (argsL := [(.int (1 : Int32))]) (rest := []) (lenOf pd_4 rfl) rfl (by show 2 * 0 + _ ≤ _; exact Nat.le_of_eq rfl) (hb hby at_304) (fun _ _ => ⟨rfl, e92, (by decide : 4 + 0 ≤ _), (by decide : 23 + 0 ≤ _)⟩)
                dsimp only [Pt.U, Pt.locs, Pt.cells, Pt.slots] at X95 l95 y95 z95 st95 hQ95
                subst l95 y95 z95
                obtain ⟨rfl, N95q, e95⟩ := hQ95
                have N95 := Fr.app N92 N95q
                refine own_pre (B := (T95.setTop (mkF m 310 #[.val (.int p1), .val (.int p2), .val (.int p3), .val (.int p4), .val (.int p5), .val (.int nn), .val (.int aa), .val (.int bb), .val (.int cc), .val (.int dd), .val (.int (0 : Int32)), .val (.int (1 : Int32)), .val (.int (1 : Int32)), .val (.ref b81), .val (.int ((((0 : Int32) + (1 : Int32)) + (1 : Int32)) + (1 : Int32))), .val (.ref b85), .val (.int (1 : Int32)), .val (.int (0 : Int32)), .val (.int (1 : Int32)), .val (.int (1 : Int32)), .val (.int (1 : Int32))] [(.int (1 : Int32)), (.ref b81), (.int cc)]))) (fun t kt => ?_) ?_
                · refine st95.trans ?_
                  show Steps p.tables e below (T95.setTop (mkF m 307 _ [(.int cc)])) _
                  refine XS.aload X95.here hx rfl (hb hby at_307) rfl rfl ?_
                  show Steps p.tables e below (T95.setTop (mkF m 309 _ [(.ref b81), (.int cc)])) _
                  refine XS.iconst X95.here hx rfl (hb hby at_309) ?_
                  exact kt
                have pe97 : (own_upd (own_upd (own_upd (fun _ => (0 : Int32)) ((0 : Int32)).toNatClampNeg aa) (((0 : Int32) + (1 : Int32))).toNatClampNeg cc) ((((0 : Int32) + (1 : Int32)) + (1 : Int32))).toNatClampNeg dd) ((1 : Int32)).toNatClampNeg = cc := ((own_upd_ne (by decide)).trans (own_upd_hit (by decide)))
                obtain ⟨cl96, Ar96, S96, P96, H96⟩ := id V_b81_90
                have in96 := inb_of S96 (⟨by decide, by decide⟩ : ¬ (1 : Int32) < 0 ∧ (1 : Int32) < (4 : Int32))
                have at96 : cl96.slots[((1 : Int32)).toNatClampNeg]? = some (.int cc) := (H96 _ (Nat.lt_of_not_le fun y => in96 (Or.inr y))).trans (congrArg (fun z => some (Value.int z)) pe97)
                refine own_pre (B := (T95.setTop (mkF m 335 #[.val (.int p1), .val (.int p2), .val (.int p3), .val (.int p4), .val (.int p5), .val (.int nn), .val (.int aa), .val (.int bb), .val (.int cc), .val (.int dd), .val (.int (0 : Int32)), .val (.int (1 : Int32)), .val (.int (1 : Int32)), .val (.ref b81), .val (.int ((((0 : Int32) + (1 : Int32)) + (1 : Int32)) + (1 : Int32))), .val (.ref b85), .val (.int (1 : Int32)), .val (.int (0 : Int32)), .val (.int (1 : Int32)), .val (.int (1 : Int32)), .val (.int (1 : Int32))] [(.int (2 : Int32)), (.ref b85)]))) (fun t kt => ?_) ?_
                · show Steps p.tables e below (T95.setTop (mkF m 310 _ [(.int (1 : Int32)), (.ref b81), (.int cc)])) _
                  refine X95.iaload hx (j := (1 : Int32)) (v := (.int cc)) (by rw [e95]; exact Ar96.1) (State.isArrayOf_alike hZ.alike Ar96.2.1) Ar96.2.2 in96 at96 (g := (mkF m 310 #[.val (.int p1), .val (.int p2), .val (.int p3), .val (.int p4), .val (.int p5), .val (.int nn), .val (.int aa), .val (.int bb), .val (.int cc), .val (.int dd), .val (.int (0 : Int32)), .val (.int (1 : Int32)), .val (.int (1 : Int32)), .val (.ref b81), .val (.int ((((0 : Int32) + (1 : Int32)) + (1 : Int32)) + (1 : Int32))), .val (.ref b85), .val (.int (1 : Int32)), .val (.int (0 : Int32)), .val (.int (1 : Int32)), .val (.int (1 : Int32)), .val (.int (1 : Int32))] [(.int (1 : Int32)), (.ref b81), (.int cc)])) rfl rfl (hb hby at_310) _ ?_
                  show Steps p.tables e below (T95.setTop (mkF m 311 _ [(.int cc), (.int cc)])) _
                  refine XS.icmpNo X95.here hx rfl (hb hby at_311) rfl (teq (rfl : cc = cc)).2 ?_
                  show Steps p.tables e below (T95.setTop (mkF m 314 _ [])) _
                  refine XS.iconst X95.here hx rfl (hb hby at_314) ?_
                  show Steps p.tables e below (T95.setTop (mkF m 315 _ [(.int (1 : Int32))])) _
                  refine XS.goto X95.here hx rfl (pc0 := 315) (pc' := 319) rfl (hb hby at_315) (by decide) (by decide) ?_
                  show Steps p.tables e below (T95.setTop (mkF m 319 _ [(.int (1 : Int32))])) _
                  refine XS.istore X95.here hx rfl (hb hby at_319) rfl (l' := #[.val (.int p1), .val (.int p2), .val (.int p3), .val (.int p4), .val (.int p5), .val (.int nn), .val (.int aa), .val (.int bb), .val (.int cc), .val (.int dd), .val (.int (0 : Int32)), .val (.int (1 : Int32)), .val (.int (1 : Int32)), .val (.ref b81), .val (.int ((((0 : Int32) + (1 : Int32)) + (1 : Int32)) + (1 : Int32))), .val (.ref b85), .val (.int (1 : Int32)), .val (.int (0 : Int32)), .val (.int (1 : Int32)), .val (.int (1 : Int32)), .val (.int (1 : Int32))]) rfl ?_
                  show Steps p.tables e below (T95.setTop (mkF m 321 _ [])) _
                  refine XS.iload X95.here hx rfl (hb hby at_321) rfl ?_
                  show Steps p.tables e below (T95.setTop (mkF m 323 _ [(.int ((((0 : Int32) + (1 : Int32)) + (1 : Int32)) + (1 : Int32)))])) _
                  refine XS.iconst X95.here hx rfl (hb hby at_323) ?_
                  show Steps p.tables e below (T95.setTop (mkF m 324 _ [(.int (2 : Int32)), (.int ((((0 : Int32) + (1 : Int32)) + (1 : Int32)) + (1 : Int32)))])) _
                  refine XS.icmpNo X95.here hx rfl (hb hby at_324) rfl (tlt ((by decide) : (2 : Int32) < ((((0 : Int32) + (1 : Int32)) + (1 : Int32)) + (1 : Int32)))).2.2.2 ?_
                  show Steps p.tables e below (T95.setTop (mkF m 327 _ [])) _
                  refine XS.iload X95.here hx rfl (hb hby at_327) rfl ?_
                  show Steps p.tables e below (T95.setTop (mkF m 329 _ [(.int (1 : Int32))])) _
                  refine XS.ifNo X95.here hx rfl (hb hby at_329) rfl ((if0 _ _).trans (feq ((by decide) : ¬ ((1 : Int32) = (0 : Int32)))).1) ?_
                  show Steps p.tables e below (T95.setTop (mkF m 332 _ [])) _
                  refine XS.aload X95.here hx rfl (hb hby at_332) rfl rfl ?_
                  show Steps p.tables e below (T95.setTop (mkF m 334 _ [(.ref b85)])) _
                  refine XS.iconst X95.here hx rfl (hb hby at_334) ?_
                  exact kt
                have pg98 : (own_upd (own_upd (own_upd (fun _ => (0 : Int32)) ((0 : Int32)).toNatClampNeg aa) (((0 : Int32) + (1 : Int32))).toNatClampNeg cc) ((((0 : Int32) + (1 : Int32)) + (1 : Int32))).toNatClampNeg dd) ((2 : Int32)).toNatClampNeg = dd := (own_upd_hit (by decide))
                obtain ⟨cq98, kq98, q98a, q98b, q98c⟩ := isOf hZ e95 M90.1
                obtain ⟨_, _, ⟨T98, L98, k98, n98⟩, -, X98, ⟨Lc98, hQ98, l98, y98, z98⟩, st98⟩ := X95.virtualBack hx (y := (⟨"com/example/faregraph/faregraph/search/Members", "get", "(I)I"⟩ : MethodName)) (z := (⟨"com/example/faregraph/faregraph/search/Members", "get", "(I)I"⟩ : MethodName)) hown (mvT hZ (hw _ (List.mem_of_getElem? (i := 28) rfl))) (mvT hZ (hw _ (List.mem_of_getElem? (i := 29) rfl))) (notFace_of_selects (args := #[]) (mvT hZ (hw _ (List.mem_of_getElem? (i := 31) rfl)))) (mvT hZ (hw _ (List.mem_of_getElem? (i := 31) rfl))) (mvT hZ (hw _ (List.mem_of_getElem? (i := 30) rfl))) (by decide) (backOf (W := 0) (rm5 l Z a0 hw [] b85 mb mc nn ((((0 : Int32) + (1 : Int32)) + (1 : Int32)) + (1 : Int32)) (own_upd (own_upd (own_upd (fun _ => (0 : Int32)) (aa).toNatClampNeg 1) (cc).toNatClampNeg 1) (dd).toNatClampNeg 1) (own_upd (own_upd (own_upd (fun _ => (0 : Int32)) ((0 : Int32)).toNatClampNeg aa) (((0 : Int32) + (1 : Int32))).toNatClampNeg cc) ((((0 : Int32) + (1 : Int32)) + (1 : Int32))).toNatClampNeg dd) (2 : Int32) dd T90.heap n0 (Nat.le_trans (Nat.le_trans (Nat.le_trans (Nat.le_trans (Nat.le_trans (Nat.le_trans (Nat.le_trans (Nat.le_trans (Nat.le_trans Z0 E81.1) (Keep.of_wr W82).1) (Keep.of_wr W83).1) (Keep.of_wr W84).1) E85.1) KK86.1) KK87.1) KK89.1) KK90.1) M90 (own_rng' (by have e : ((2 : Int32)).toInt = 2 := (by decide); omega)) pg98) hZ (hw _ (List.mem_of_getElem? (i := 32) rfl)) (hw _ (List.mem_of_getElem? (i := 4) rfl)) (by decide) (by decide)) q98a q98c (g := (mkF m 335 #[.val (.int p1), .val (.int p2), .val (.int p3), .val (.int p4), .val (.int p5), .val (.int nn), .val (.int aa), .val (.int bb), .val (.int cc), .val (.int dd), .val (.int (0 : Int32)), .val (.int (1 : Int32)), .val (.int (1 : Int32)), .val (.ref b81), .val (.int ((((0 : Int32) + (1 : Int32)) + (1 : Int32)) + (1 : Int32))), .val (.ref b85), .val (.int (1 : Int32)), .val (.int (0 : Int32)), .val (.int (1 : Int32)), .val (.int (1 : Int32)), .val (.int (1 : Int32))] [(.int (2 : Int32)), (.ref b85)])) rfl (by rw [hml]; rfl) (Steps.refl _) (argsL := [(.int (2 : Int32))]) (rest := []) (lenOf pd_4 rfl) rfl (by show 2 * 0 + _ ≤ _; exact Nat.le_of_eq rfl) (hb hby at_335) (fun _ _ => ⟨rfl, e95, (by decide : 4 + 0 ≤ _), (by decide : 23 + 0 ≤ _)⟩)
                dsimp only [Pt.U, Pt.locs, Pt.cells, Pt.slots] at X98 l98 y98 z98 st98 hQ98
                subst l98 y98 z98
                obtain ⟨rfl, N98q, e98⟩ := hQ98
                have N98 := Fr.app N95 N98q
                refine own_pre (B := (T98.setTop (mkF m 341 #[.val (.int p1), .val (.int p2), .val (.int p3), .val (.int p4), .val (.int p5), .val (.int nn), .val (.int aa), .val (.int bb), .val (.int cc), .val (.int dd), .val (.int (0 : Int32)), .val (.int (1 : Int32)), .val (.int (1 : Int32)), .val (.ref b81), .val (.int ((((0 : Int32) + (1 : Int32)) + (1 : Int32)) + (1 : Int32))), .val (.ref b85), .val (.int (1 : Int32)), .val (.int (0 : Int32)), .val (.int (1 : Int32)), .val (.int (1 : Int32)), .val (.int (1 : Int32))] [(.int (2 : Int32)), (.ref b81), (.int dd)]))) (fun t kt => ?_) ?_
                · refine st98.trans ?_
                  show Steps p.tables e below (T98.setTop (mkF m 338 _ [(.int dd)])) _
                  refine XS.aload X98.here hx rfl (hb hby at_338) rfl rfl ?_
                  show Steps p.tables e below (T98.setTop (mkF m 340 _ [(.ref b81), (.int dd)])) _
                  refine XS.iconst X98.here hx rfl (hb hby at_340) ?_
                  exact kt
                have pe100 : (own_upd (own_upd (own_upd (fun _ => (0 : Int32)) ((0 : Int32)).toNatClampNeg aa) (((0 : Int32) + (1 : Int32))).toNatClampNeg cc) ((((0 : Int32) + (1 : Int32)) + (1 : Int32))).toNatClampNeg dd) ((2 : Int32)).toNatClampNeg = dd := (own_upd_hit (by decide))
                obtain ⟨cl99, Ar99, S99, P99, H99⟩ := id V_b81_90
                have in99 := inb_of S99 (⟨by decide, by decide⟩ : ¬ (2 : Int32) < 0 ∧ (2 : Int32) < (4 : Int32))
                have at99 : cl99.slots[((2 : Int32)).toNatClampNeg]? = some (.int dd) := (H99 _ (Nat.lt_of_not_le fun y => in99 (Or.inr y))).trans (congrArg (fun z => some (Value.int z)) pe100)
                refine own_pre (B := (T98.setTop (mkF m 385 #[.val (.int p1), .val (.int p2), .val (.int p3), .val (.int p4), .val (.int p5), .val (.int nn), .val (.int aa), .val (.int bb), .val (.int cc), .val (.int dd), .val (.int (0 : Int32)), .val (.int (1 : Int32)), .val (.int (1 : Int32)), .val (.ref b81), .val (.int ((((0 : Int32) + (1 : Int32)) + (1 : Int32)) + (1 : Int32))), .val (.ref b85), .val (.int (1 : Int32)), .val (.int (0 : Int32)), .val (.int (1 : Int32)), .val (.int (1 : Int32)), .val (.int (1 : Int32))] [(.int (1 : Int32))]))) (fun t kt => ?_) ?_
                · show Steps p.tables e below (T98.setTop (mkF m 341 _ [(.int (2 : Int32)), (.ref b81), (.int dd)])) _
                  refine X98.iaload hx (j := (2 : Int32)) (v := (.int dd)) (by rw [e98]; exact Ar99.1) (State.isArrayOf_alike hZ.alike Ar99.2.1) Ar99.2.2 in99 at99 (g := (mkF m 341 #[.val (.int p1), .val (.int p2), .val (.int p3), .val (.int p4), .val (.int p5), .val (.int nn), .val (.int aa), .val (.int bb), .val (.int cc), .val (.int dd), .val (.int (0 : Int32)), .val (.int (1 : Int32)), .val (.int (1 : Int32)), .val (.ref b81), .val (.int ((((0 : Int32) + (1 : Int32)) + (1 : Int32)) + (1 : Int32))), .val (.ref b85), .val (.int (1 : Int32)), .val (.int (0 : Int32)), .val (.int (1 : Int32)), .val (.int (1 : Int32)), .val (.int (1 : Int32))] [(.int (2 : Int32)), (.ref b81), (.int dd)])) rfl rfl (hb hby at_341) _ ?_
                  show Steps p.tables e below (T98.setTop (mkF m 342 _ [(.int dd), (.int dd)])) _
                  refine XS.icmpNo X98.here hx rfl (hb hby at_342) rfl (teq (rfl : dd = dd)).2 ?_
                  show Steps p.tables e below (T98.setTop (mkF m 345 _ [])) _
                  refine XS.iconst X98.here hx rfl (hb hby at_345) ?_
                  show Steps p.tables e below (T98.setTop (mkF m 346 _ [(.int (1 : Int32))])) _
                  refine XS.goto X98.here hx rfl (pc0 := 346) (pc' := 350) rfl (hb hby at_346) (by decide) (by decide) ?_
                  show Steps p.tables e below (T98.setTop (mkF m 350 _ [(.int (1 : Int32))])) _
                  refine XS.istore X98.here hx rfl (hb hby at_350) rfl (l' := #[.val (.int p1), .val (.int p2), .val (.int p3), .val (.int p4), .val (.int p5), .val (.int nn), .val (.int aa), .val (.int bb), .val (.int cc), .val (.int dd), .val (.int (0 : Int32)), .val (.int (1 : Int32)), .val (.int (1 : Int32)), .val (.ref b81), .val (.int ((((0 : Int32) + (1 : Int32)) + (1 : Int32)) + (1 : Int32))), .val (.ref b85), .val (.int (1 : Int32)), .val (.int (0 : Int32)), .val (.int (1 : Int32)), .val (.int (1 : Int32)), .val (.int (1 : Int32))]) rfl ?_
                  show Steps p.tables e below (T98.setTop (mkF m 352 _ [])) _
                  refine XS.iload X98.here hx rfl (hb hby at_352) rfl ?_
                  show Steps p.tables e below (T98.setTop (mkF m 354 _ [(.int ((((0 : Int32) + (1 : Int32)) + (1 : Int32)) + (1 : Int32)))])) _
                  refine XS.iconst X98.here hx rfl (hb hby at_354) ?_
                  show Steps p.tables e below (T98.setTop (mkF m 355 _ [(.int (3 : Int32)), (.int ((((0 : Int32) + (1 : Int32)) + (1 : Int32)) + (1 : Int32)))])) _
                  refine XS.icmpYes X98.here hx rfl (pc0 := 355) (pc' := 383) rfl (hb hby at_355) rfl (flt ((by decide) : ¬ ((3 : Int32) < ((((0 : Int32) + (1 : Int32)) + (1 : Int32)) + (1 : Int32))))).2.2.2 (by decide) (by decide) ?_
                  show Steps p.tables e below (T98.setTop (mkF m 383 _ [])) _
                  refine XS.iload X98.here hx rfl (hb hby at_383) rfl ?_
                  exact kt
                exact own_fin X98 (some (.int (1 : Int32))) (fun h => by rw [Bd.returns] at h; cases h) (BodyLoose.notSynchronized Bd) e98 (fun fs hr => retN X98 hx (t := .boolean) Bd.returns (by simp) (hb hby at_385) hr) ⟨rfl, N98⟩ (by decide) (by decide)
              · refine own_pre (B := (s₁.setTop (mkF m 109 #[.val (.int p1), .val (.int p2), .val (.int p3), .val (.int p4), .val (.int p5), .val (.int nn), .val (.int aa), .val (.int bb), .val (.int cc), .val (.int dd), .val (.int (0 : Int32)), .val (.int (1 : Int32)), .val (.int (0 : Int32)), .unset, .unset, .unset, .unset, .unset, .unset, .unset, .unset] [(.int (4 : Int32))]))) (fun t kt => ?_) ?_
                · show Steps p.tables e below (s₁.setTop (mkF m 108 _ [])) _
                  refine XS.iconst X0.here hx rfl (hb hby at_108) ?_
                  exact kt
                obtain ⟨T101, h101, k101, X101, e101, E101, A101, st101⟩ := newP X0 hx hZ (hw _ (List.mem_of_getElem? (i := 1) rfl)) e0 (g := (mkF m 109 #[.val (.int p1), .val (.int p2), .val (.int p3), .val (.int p4), .val (.int p5), .val (.int nn), .val (.int aa), .val (.int bb), .val (.int cc), .val (.int dd), .val (.int (0 : Int32)), .val (.int (1 : Int32)), .val (.int (0 : Int32)), .unset, .unset, .unset, .unset, .unset, .unset, .unset, .unset] [(.int (4 : Int32))])) rfl (hb hby at_109) rfl (by decide) (cap := 4) (by decide) (by decide) (by decide) (by decide)
                obtain ⟨b101, g101⟩ : ∃ z, z = h0.size := ⟨_, rfl⟩
                have g_b101 : n0 ≤ b101 := Nat.le_trans Z0 (Nat.le_of_eq g101.symm)
                have sz_b101 : h0.size ≤ b101 := Nat.le_trans (Keep.refl h0 []).1 (Nat.le_of_eq g101.symm)
                rw [← g101] at A101 st101
                have K101 := Keep.ext (Keep.refl h0 []) E101
                have V_b101 := own_Arr.new A101 (by decide) rfl
                refine own_pre (B := (T101.setTop (mkF m 122 #[.val (.int p1), .val (.int p2), .val (.int p3), .val (.int p4), .val (.int p5), .val (.int nn), .val (.int aa), .val (.int bb), .val (.int cc), .val (.int dd), .val (.int (0 : Int32)), .val (.int (1 : Int32)), .val (.int (0 : Int32)), .val (.ref b101), .val (.int (0 : Int32)), .unset, .unset, .unset, .unset, .unset, .unset] [(.int aa), (.int (0 : Int32)), (.ref b101)]))) (fun t kt => ?_) ?_
                · show Steps p.tables e below (s₁.setTop (mkF m 109 _ [(.int (4 : Int32))])) _
                  refine st101 _ ?_
                  show Steps p.tables e below (T101.setTop (mkF m 111 _ [(.ref b101)])) _
                  refine XS.astore X101.here hx rfl (hb hby at_111) rfl rfl (l' := #[.val (.int p1), .val (.int p2), .val (.int p3), .val (.int p4), .val (.int p5), .val (.int nn), .val (.int aa), .val (.int bb), .val (.int cc), .val (.int dd), .val (.int (0 : Int32)), .val (.int (1 : Int32)), .val (.int (0 : Int32)), .val (.ref b101), .unset, .unset, .unset, .unset, .unset, .unset, .unset]) rfl ?_
                  show Steps p.tables e below (T101.setTop (mkF m 113 _ [])) _
                  refine XS.iconst X101.here hx rfl (hb hby at_113) ?_
                  show Steps p.tables e below (T101.setTop (mkF m 114 _ [(.int (0 : Int32))])) _
                  refine XS.istore X101.here hx rfl (hb hby at_114) rfl (l' := #[.val (.int p1), .val (.int p2), .val (.int p3), .val (.int p4), .val (.int p5), .val (.int nn), .val (.int aa), .val (.int bb), .val (.int cc), .val (.int dd), .val (.int (0 : Int32)), .val (.int (1 : Int32)), .val (.int (0 : Int32)), .val (.ref b101), .val (.int (0 : Int32)), .unset, .unset, .unset, .unset, .unset, .unset]) rfl ?_
                  show Steps p.tables e below (T101.setTop (mkF m 116 _ [])) _
                  refine XS.aload X101.here hx rfl (hb hby at_116) rfl rfl ?_
                  show Steps p.tables e below (T101.setTop (mkF m 118 _ [(.ref b101)])) _
                  refine XS.iload X101.here hx rfl (hb hby at_118) rfl ?_
                  show Steps p.tables e below (T101.setTop (mkF m 120 _ [(.int (0 : Int32)), (.ref b101)])) _
                  refine XS.iload X101.here hx rfl (hb hby at_120) rfl ?_
                  exact kt
                obtain ⟨cl102, Ar102, S102, P102, H102⟩ := id V_b101
                have in102 := inb_of S102 (⟨by decide, by decide⟩ : ¬ (0 : Int32) < 0 ∧ (0 : Int32) < (4 : Int32))
                obtain ⟨T102, h102, X102, e102, W102, st102⟩ := stI X101 hx hZ e101 Ar102 (j := (0 : Int32)) in102 (g := (mkF m 122 #[.val (.int p1), .val (.int p2), .val (.int p3), .val (.int p4), .val (.int p5), .val (.int nn), .val (.int aa), .val (.int bb), .val (.int cc), .val (.int dd), .val (.int (0 : Int32)), .val (.int (1 : Int32)), .val (.int (0 : Int32)), .val (.ref b101), .val (.int (0 : Int32)), .unset, .unset, .unset, .unset, .unset, .unset] [(.int aa), (.int (0 : Int32)), (.ref b101)])) rfl rfl (hb hby at_122)
                have V_b101_102 := V_b101.set W102
                have N102 := Fr.snoc X102 N0 g_b101
                have K102 := Keep.wr K101 W102 (Or.inr sz_b101)
                refine own_pre (B := (T102.setTop (mkF m 158 #[.val (.int p1), .val (.int p2), .val (.int p3), .val (.int p4), .val (.int p5), .val (.int nn), .val (.int aa), .val (.int bb), .val (.int cc), .val (.int dd), .val (.int (0 : Int32)), .val (.int (1 : Int32)), .val (.int (0 : Int32)), .val (.ref b101), .val (.int ((0 : Int32) + (1 : Int32))), .unset, .unset, .unset, .unset, .unset, .unset] [(.int cc), (.int ((0 : Int32) + (1 : Int32))), (.ref b101)]))) (fun t kt => ?_) ?_
                · show Steps p.tables e below (T101.setTop (mkF m 122 _ [(.int aa), (.int (0 : Int32)), (.ref b101)])) _
                  refine st102 _ ?_
                  show Steps p.tables e below (T102.setTop (mkF m 123 _ [])) _
                  refine XS.iload X102.here hx rfl (hb hby at_123) rfl ?_
                  show Steps p.tables e below (T102.setTop (mkF m 125 _ [(.int (0 : Int32))])) _
                  refine XS.iconst X102.here hx rfl (hb hby at_125) ?_
                  show Steps p.tables e below (T102.setTop (mkF m 126 _ [(.int (1 : Int32)), (.int (0 : Int32))])) _
                  refine XS.iadd X102.here hx rfl (hb hby at_126) rfl ?_
                  show Steps p.tables e below (T102.setTop (mkF m 127 _ [(.int ((0 : Int32) + (1 : Int32)))])) _
                  refine XS.istore X102.here hx rfl (hb hby at_127) rfl (l' := #[.val (.int p1), .val (.int p2), .val (.int p3), .val (.int p4), .val (.int p5), .val (.int nn), .val (.int aa), .val (.int bb), .val (.int cc), .val (.int dd), .val (.int (0 : Int32)), .val (.int (1 : Int32)), .val (.int (0 : Int32)), .val (.ref b101), .val (.int ((0 : Int32) + (1 : Int32))), .unset, .unset, .unset, .unset, .unset, .unset]) rfl ?_
                  show Steps p.tables e below (T102.setTop (mkF m 129 _ [])) _
                  refine XS.iload X102.here hx rfl (hb hby at_129) rfl ?_
                  show Steps p.tables e below (T102.setTop (mkF m 131 _ [(.int (0 : Int32))])) _
                  refine XS.ifYes X102.here hx rfl (pc0 := 131) (pc' := 147) rfl (hb hby at_131) rfl ((if0 _ _).trans (teq (rfl : (0 : Int32) = (0 : Int32))).1) (by decide) (by decide) ?_
                  show Steps p.tables e below (T102.setTop (mkF m 147 _ [])) _
                  refine XS.iload X102.here hx rfl (hb hby at_147) rfl ?_
                  show Steps p.tables e below (T102.setTop (mkF m 149 _ [(.int (1 : Int32))])) _
                  refine XS.ifNo X102.here hx rfl (hb hby at_149) rfl ((if0 _ _).trans (feq ((by decide) : ¬ ((1 : Int32) = (0 : Int32)))).1) ?_
                  show Steps p.tables e below (T102.setTop (mkF m 152 _ [])) _
                  refine XS.aload X102.here hx rfl (hb hby at_152) rfl rfl ?_
                  show Steps p.tables e below (T102.setTop (mkF m 154 _ [(.ref b101)])) _
                  refine XS.iload X102.here hx rfl (hb hby at_154) rfl ?_
                  show Steps p.tables e below (T102.setTop (mkF m 156 _ [(.int ((0 : Int32) + (1 : Int32))), (.ref b101)])) _
                  refine XS.iload X102.here hx rfl (hb hby at_156) rfl ?_
                  exact kt
                obtain ⟨cl103, Ar103, S103, P103, H103⟩ := id V_b101_102
                have in103 := inb_of S103 (⟨by decide, by decide⟩ : ¬ ((0 : Int32) + (1 : Int32)) < 0 ∧ ((0 : Int32) + (1 : Int32)) < (4 : Int32))
                obtain ⟨T103, h103, X103, e103, W103, st103⟩ := stI X102 hx hZ e102 Ar103 (j := ((0 : Int32) + (1 : Int32))) in103 (g := (mkF m 158 #[.val (.int p1), .val (.int p2), .val (.int p3), .val (.int p4), .val (.int p5), .val (.int nn), .val (.int aa), .val (.int bb), .val (.int cc), .val (.int dd), .val (.int (0 : Int32)), .val (.int (1 : Int32)), .val (.int (0 : Int32)), .val (.ref b101), .val (.int ((0 : Int32) + (1 : Int32))), .unset, .unset, .unset, .unset, .unset, .unset] [(.int cc), (.int ((0 : Int32) + (1 : Int32))), (.ref b101)])) rfl rfl (hb hby at_158)
                have V_b101_103 := V_b101_102.set W103
                have N103 := Fr.snoc X103 N102 g_b101
                have K103 := Keep.wr K102 W103 (Or.inr sz_b101)
                refine own_pre (B := (T103.setTop (mkF m 183 #[.val (.int p1), .val (.int p2), .val (.int p3), .val (.int p4), .val (.int p5), .val (.int nn), .val (.int aa), .val (.int bb), .val (.int cc), .val (.int dd), .val (.int (0 : Int32)), .val (.int (1 : Int32)), .val (.int (0 : Int32)), .val (.ref b101), .val (.int (((0 : Int32) + (1 : Int32)) + (1 : Int32))), .unset, .unset, .unset, .unset, .unset, .unset] []))) (fun t kt => ?_) ?_
                · show Steps p.tables e below (T102.setTop (mkF m 158 _ [(.int cc), (.int ((0 : Int32) + (1 : Int32))), (.ref b101)])) _
                  refine st103 _ ?_
                  show Steps p.tables e below (T103.setTop (mkF m 159 _ [])) _
                  refine XS.iload X103.here hx rfl (hb hby at_159) rfl ?_
                  show Steps p.tables e below (T103.setTop (mkF m 161 _ [(.int ((0 : Int32) + (1 : Int32)))])) _
                  refine XS.iconst X103.here hx rfl (hb hby at_161) ?_
                  show Steps p.tables e below (T103.setTop (mkF m 162 _ [(.int (1 : Int32)), (.int ((0 : Int32) + (1 : Int32)))])) _
                  refine XS.iadd X103.here hx rfl (hb hby at_162) rfl ?_
                  show Steps p.tables e below (T103.setTop (mkF m 163 _ [(.int (((0 : Int32) + (1 : Int32)) + (1 : Int32)))])) _
                  refine XS.istore X103.here hx rfl (hb hby at_163) rfl (l' := #[.val (.int p1), .val (.int p2), .val (.int p3), .val (.int p4), .val (.int p5), .val (.int nn), .val (.int aa), .val (.int bb), .val (.int cc), .val (.int dd), .val (.int (0 : Int32)), .val (.int (1 : Int32)), .val (.int (0 : Int32)), .val (.ref b101), .val (.int (((0 : Int32) + (1 : Int32)) + (1 : Int32))), .unset, .unset, .unset, .unset, .unset, .unset]) rfl ?_
                  show Steps p.tables e below (T103.setTop (mkF m 165 _ [])) _
                  refine XS.iload X103.here hx rfl (hb hby at_165) rfl ?_
                  show Steps p.tables e below (T103.setTop (mkF m 167 _ [(.int (0 : Int32))])) _
                  refine XS.ifYes X103.here hx rfl (pc0 := 167) (pc' := 183) rfl (hb hby at_167) rfl ((if0 _ _).trans (teq (rfl : (0 : Int32) = (0 : Int32))).1) (by decide) (by decide) ?_
                  exact kt
                obtain ⟨T104, h104, X104, e104, E104, A104, D104, -, st104⟩ := newO X103 hx hZ hown (hw _ (List.mem_of_getElem? (i := 2) rfl)) (hw _ (List.mem_of_getElem? (i := 3) rfl)) (hw _ (List.mem_of_getElem? (i := 4) rfl)) e103 (g := (mkF m 183 #[.val (.int p1), .val (.int p2), .val (.int p3), .val (.int p4), .val (.int p5), .val (.int nn), .val (.int aa), .val (.int bb), .val (.int cc), .val (.int dd), .val (.int (0 : Int32)), .val (.int (1 : Int32)), .val (.int (0 : Int32)), .val (.ref b101), .val (.int (((0 : Int32) + (1 : Int32)) + (1 : Int32))), .unset, .unset, .unset, .unset, .unset, .unset] [])) rfl (hb hby at_183) (by decide) (by decide)
                obtain ⟨b104, g104⟩ : ∃ z, z = h103.size := ⟨_, rfl⟩
                have ne_b101_b104 : b101 ≠ b104 := Nat.ne_of_lt (Nat.lt_of_lt_of_le V_b101_103.lt (Nat.le_of_eq g104.symm))
                have g_b104 : n0 ≤ b104 := Nat.le_trans (Nat.le_trans (Nat.le_trans (Nat.le_trans Z0 E101.1) (Keep.of_wr W102).1) (Keep.of_wr W103).1) (Nat.le_of_eq g104.symm)
                have sz_b104 : h0.size ≤ b104 := Nat.le_trans K103.1 (Nat.le_of_eq g104.symm)
                rw [← g104] at A104 D104 st104
                have V_b101_104 := V_b101_103.ext E104
                have K104 := Keep.ext K103 E104
                have E_b104 := A104
                have F_member_b104 : Fld Z h104 b104 "com/example/faregraph/faregraph/search/Members" "member" "[Z" .null := D104 (Or.inr (hw _ (List.mem_of_getElem? (i := 13) rfl))) (ty := (.array .boolean)) (by decide)
                have F_members_b104 : Fld Z h104 b104 "com/example/faregraph/faregraph/search/Members" "members" "[I" .null := D104 (Or.inr (hw _ (List.mem_of_getElem? (i := 15) rfl))) (ty := (.array .int)) (by decide)
                have F_count_b104 : Fld Z h104 b104 "com/example/faregraph/faregraph/search/Members" "count" "I" (.int (0 : Int32)) := D104 (Or.inl (hw _ (List.mem_of_getElem? (i := 22) rfl))) (ty := .int) (by decide)
                refine own_pre (B := (T104.setTop (mkF m 189 #[.val (.int p1), .val (.int p2), .val (.int p3), .val (.int p4), .val (.int p5), .val (.int nn), .val (.int aa), .val (.int bb), .val (.int cc), .val (.int dd), .val (.int (0 : Int32)), .val (.int (1 : Int32)), .val (.int (0 : Int32)), .val (.ref b101), .val (.int (((0 : Int32) + (1 : Int32)) + (1 : Int32))), .unset, .unset, .unset, .unset, .unset, .unset] [(.int nn), (.ref b104), (.ref b104)]))) (fun t kt => ?_) ?_
                · show Steps p.tables e below (T103.setTop (mkF m 183 _ [])) _
                  refine st104 _ ?_
                  show Steps p.tables e below (T104.setTop (mkF m 186 _ [(.ref b104)])) _
                  refine XS.dup X104.here hx rfl (hb hby at_186) rfl rfl ?_
                  show Steps p.tables e below (T104.setTop (mkF m 187 _ [(.ref b104), (.ref b104)])) _
                  refine XS.iload X104.here hx rfl (hb hby at_187) rfl ?_
                  exact kt
                obtain ⟨_, _, ⟨T105, L105, k105, n105⟩, -, X105, ⟨Lc105, hQ105, l105, y105, z105⟩, st105⟩ := X104.specialBack hx (y := (⟨"com/example/faregraph/faregraph/search/Members", "<init>", "(I)V"⟩ : MethodName)) rfl hown (mvT hZ (hw _ (List.mem_of_getElem? (i := 5) rfl))) (mvT hZ (hw _ (List.mem_of_getElem? (i := 6) rfl))) (mvT hZ (hw _ (List.mem_of_getElem? (i := 7) rfl))) (by decide) (backOf (W := 1) (rm1 l Z a0 hw [] b104 nn h104 n0 (Nat.le_trans (Nat.le_trans (Nat.le_trans (Nat.le_trans Z0 E101.1) (Keep.of_wr W102).1) (Keep.of_wr W103).1) E104.1) E_b104 F_member_b104 F_members_b104 F_count_b104 g_b104 hnn hcap) hZ (hw _ (List.mem_of_getElem? (i := 7) rfl)) (hw _ (List.mem_of_getElem? (i := 4) rfl)) (by decide) (by decide)) (g := (mkF m 189 #[.val (.int p1), .val (.int p2), .val (.int p3), .val (.int p4), .val (.int p5), .val (.int nn), .val (.int aa), .val (.int bb), .val (.int cc), .val (.int dd), .val (.int (0 : Int32)), .val (.int (1 : Int32)), .val (.int (0 : Int32)), .val (.ref b101), .val (.int (((0 : Int32) + (1 : Int32)) + (1 : Int32))), .unset, .unset, .unset, .unset, .unset, .unset] [(.int nn), (.ref b104), (.ref b104)])) rfl (by rw [hml]; rfl) (Steps.refl _) (a := b104) (argsL := [(.int nn)]) (rest := [(.ref b104)]) (lenOf pd_0 rfl) rfl (by show 2 * 0 + _ ≤ _; exact Nat.le_of_eq rfl) (hb hby at_189) (fun _ _ => ⟨rfl, e104, (by decide : 2 + 2 ≤ _), (by decide : 7 + 16 ≤ _)⟩)
                dsimp only [Pt.U, Pt.locs, Pt.cells, Pt.slots] at X105 l105 y105 z105 st105 hQ105
                subst l105 y105 z105
                obtain ⟨rfl, N105q, KK105, mb, mc, szb, szc, M105⟩ := hQ105
                have N105 := Fr.app N103 N105q
                have ne_b101_mb : b101 ≠ mb := Nat.ne_of_lt (Nat.lt_of_lt_of_le V_b101_104.lt szb)
                have ne_b101_mc : b101 ≠ mc := Nat.ne_of_lt (Nat.lt_of_lt_of_le V_b101_104.lt szc)
                have g_mb : n0 ≤ mb := Nat.le_trans (Nat.le_trans (Nat.le_trans (Nat.le_trans (Nat.le_trans Z0 E101.1) (Keep.of_wr W102).1) (Keep.of_wr W103).1) E104.1) szb
                have g_mc : n0 ≤ mc := Nat.le_trans (Nat.le_trans (Nat.le_trans (Nat.le_trans (Nat.le_trans Z0 E101.1) (Keep.of_wr W102).1) (Keep.of_wr W103).1) E104.1) szc
                have sz_mb : h0.size ≤ mb := Nat.le_trans K104.1 szb
                have sz_mc : h0.size ≤ mc := Nat.le_trans K104.1 szc
                have V_b101_105 := V_b101_104.keep KK105 (ninS ne_b101_b104 nin0)
                have E_b104_105 := E_b104.keep KK105
                have KC105 := Keep.trans K104 KK105 (allS (P := fun x => x ∈ [] ∨ h0.size ≤ x) (Or.inr sz_b104) all0)
                refine own_pre (B := (T105.setTop (mkF m 198 #[.val (.int p1), .val (.int p2), .val (.int p3), .val (.int p4), .val (.int p5), .val (.int nn), .val (.int aa), .val (.int bb), .val (.int cc), .val (.int dd), .val (.int (0 : Int32)), .val (.int (1 : Int32)), .val (.int (0 : Int32)), .val (.ref b101), .val (.int (((0 : Int32) + (1 : Int32)) + (1 : Int32))), .val (.ref b104), .unset, .unset, .unset, .unset, .unset] [(.int aa), (.ref b104)]))) (fun t kt => ?_) ?_
                · refine st105.trans ?_
                  show Steps p.tables e below (T105.setTop (mkF m 192 _ [(.ref b104)])) _
                  refine XS.astore X105.here hx rfl (hb hby at_192) rfl rfl (l' := #[.val (.int p1), .val (.int p2), .val (.int p3), .val (.int p4), .val (.int p5), .val (.int nn), .val (.int aa), .val (.int bb), .val (.int cc), .val (.int dd), .val (.int (0 : Int32)), .val (.int (1 : Int32)), .val (.int (0 : Int32)), .val (.ref b101), .val (.int (((0 : Int32) + (1 : Int32)) + (1 : Int32))), .val (.ref b104), .unset, .unset, .unset, .unset, .unset]) rfl ?_
                  show Steps p.tables e below (T105.setTop (mkF m 194 _ [])) _
                  refine XS.aload X105.here hx rfl (hb hby at_194) rfl rfl ?_
                  show Steps p.tables e below (T105.setTop (mkF m 196 _ [(.ref b104)])) _
                  refine XS.iload X105.here hx rfl (hb hby at_196) rfl ?_
                  exact kt
                have hk0 : ¬ (0 : Int32) < 0 ∧ (0 : Int32) < nn := own_rng' (by have e : ((0 : Int32)).toInt = 0 := (by decide); omega)
                have hf_aa : (fun _ => (0 : Int32)) (aa).toNatClampNeg = 0 := by
                  simp only [own_upd, own_tn]
                obtain ⟨cq106, kq106, q106a, q106b, q106c⟩ := isOf hZ rfl M105.1
                obtain ⟨_, _, ⟨T106, L106, k106, n106⟩, -, X106, ⟨Lc106, hQ106, l106, y106, z106⟩, st106⟩ := X105.virtualBack hx (y := (⟨"com/example/faregraph/faregraph/search/Members", "add", "(I)Z"⟩ : MethodName)) (z := (⟨"com/example/faregraph/faregraph/search/Members", "add", "(I)Z"⟩ : MethodName)) hown (mvT hZ (hw _ (List.mem_of_getElem? (i := 16) rfl))) (mvT hZ (hw _ (List.mem_of_getElem? (i := 17) rfl))) (notFace_of_selects (args := #[]) (mvT hZ (hw _ (List.mem_of_getElem? (i := 19) rfl)))) (mvT hZ (hw _ (List.mem_of_getElem? (i := 19) rfl))) (mvT hZ (hw _ (List.mem_of_getElem? (i := 18) rfl))) (by decide) (backOf (W := 0) (rm3n l Z a0 hw [] b104 mb mc nn (0 : Int32) (fun _ => (0 : Int32)) (fun _ => (0 : Int32)) aa T105.heap n0 (Nat.le_trans (Nat.le_trans (Nat.le_trans (Nat.le_trans (Nat.le_trans Z0 E101.1) (Keep.of_wr W102).1) (Keep.of_wr W103).1) E104.1) KK105.1) M105 ra hk0 hf_aa) hZ (hw _ (List.mem_of_getElem? (i := 20) rfl)) (hw _ (List.mem_of_getElem? (i := 4) rfl)) (by decide) (by decide)) q106a q106c (g := (mkF m 198 #[.val (.int p1), .val (.int p2), .val (.int p3), .val (.int p4), .val (.int p5), .val (.int nn), .val (.int aa), .val (.int bb), .val (.int cc), .val (.int dd), .val (.int (0 : Int32)), .val (.int (1 : Int32)), .val (.int (0 : Int32)), .val (.ref b101), .val (.int (((0 : Int32) + (1 : Int32)) + (1 : Int32))), .val (.ref b104), .unset, .unset, .unset, .unset, .unset] [(.int aa), (.ref b104)])) rfl (by rw [hml]; rfl) (Steps.refl _) (argsL := [(.int aa)]) (rest := []) (lenOf pd_2 rfl) rfl (by show 2 * 0 + _ ≤ _; exact Nat.le_of_eq rfl) (hb hby at_198) (fun _ _ => ⟨rfl, rfl, (by decide : 4 + 0 ≤ _), (by decide : 23 + 0 ≤ _)⟩)
                dsimp only [Pt.U, Pt.locs, Pt.cells, Pt.slots] at X106 l106 y106 z106 st106 hQ106
                subst l106 y106 z106
                obtain ⟨rfl, N106q, KK106, M106⟩ := hQ106
                have N106 := Fr.app N105 N106q
                have V_b101_106 := V_b101_105.keep KK106 (ninS ne_b101_b104 (ninS ne_b101_mb (ninS ne_b101_mc nin0)))
                have E_b104_106 := E_b104_105.keep KK106
                have KC106 := Keep.trans KC105 KK106 (allS (P := fun x => x ∈ [] ∨ h0.size ≤ x) (Or.inr sz_b104) (allS (P := fun x => x ∈ [] ∨ h0.size ≤ x) (Or.inr sz_mb) (allS (P := fun x => x ∈ [] ∨ h0.size ≤ x) (Or.inr sz_mc) all0)))
                refine own_pre (B := (T106.setTop (mkF m 207 #[.val (.int p1), .val (.int p2), .val (.int p3), .val (.int p4), .val (.int p5), .val (.int nn), .val (.int aa), .val (.int bb), .val (.int cc), .val (.int dd), .val (.int (0 : Int32)), .val (.int (1 : Int32)), .val (.int (0 : Int32)), .val (.ref b101), .val (.int (((0 : Int32) + (1 : Int32)) + (1 : Int32))), .val (.ref b104), .val (.int (1 : Int32)), .unset, .unset, .unset, .unset] [(.int bb), (.ref b104)]))) (fun t kt => ?_) ?_
                · refine st106.trans ?_
                  show Steps p.tables e below (T106.setTop (mkF m 201 _ [(.int (1 : Int32))])) _
                  refine XS.istore X106.here hx rfl (hb hby at_201) rfl (l' := #[.val (.int p1), .val (.int p2), .val (.int p3), .val (.int p4), .val (.int p5), .val (.int nn), .val (.int aa), .val (.int bb), .val (.int cc), .val (.int dd), .val (.int (0 : Int32)), .val (.int (1 : Int32)), .val (.int (0 : Int32)), .val (.ref b101), .val (.int (((0 : Int32) + (1 : Int32)) + (1 : Int32))), .val (.ref b104), .val (.int (1 : Int32)), .unset, .unset, .unset, .unset]) rfl ?_
                  show Steps p.tables e below (T106.setTop (mkF m 203 _ [])) _
                  refine XS.aload X106.here hx rfl (hb hby at_203) rfl rfl ?_
                  show Steps p.tables e below (T106.setTop (mkF m 205 _ [(.ref b104)])) _
                  refine XS.iload X106.here hx rfl (hb hby at_205) rfl ?_
                  exact kt
                have hf_bb : (own_upd (fun _ => (0 : Int32)) (aa).toNatClampNeg 1) (bb).toNatClampNeg = 1 := by
                  simp only [own_upd, own_tn]
                  repeat' split
                  all_goals first | rfl | (exfalso; omega)
                obtain ⟨cq107, kq107, q107a, q107b, q107c⟩ := isOf hZ rfl M106.1
                obtain ⟨_, _, ⟨T107, L107, k107, n107⟩, -, X107, ⟨Lc107, hQ107, l107, y107, z107⟩, st107⟩ := X106.virtualBack hx (y := (⟨"com/example/faregraph/faregraph/search/Members", "add", "(I)Z"⟩ : MethodName)) (z := (⟨"com/example/faregraph/faregraph/search/Members", "add", "(I)Z"⟩ : MethodName)) hown (mvT hZ (hw _ (List.mem_of_getElem? (i := 16) rfl))) (mvT hZ (hw _ (List.mem_of_getElem? (i := 17) rfl))) (notFace_of_selects (args := #[]) (mvT hZ (hw _ (List.mem_of_getElem? (i := 19) rfl)))) (mvT hZ (hw _ (List.mem_of_getElem? (i := 19) rfl))) (mvT hZ (hw _ (List.mem_of_getElem? (i := 18) rfl))) (by decide) (backOf (W := 0) (rm3y l Z a0 hw [] b104 mb mc nn ((0 : Int32) + (1 : Int32)) (own_upd (fun _ => (0 : Int32)) (aa).toNatClampNeg 1) (own_upd (fun _ => (0 : Int32)) ((0 : Int32)).toNatClampNeg aa) bb T106.heap n0 (Nat.le_trans (Nat.le_trans (Nat.le_trans (Nat.le_trans (Nat.le_trans (Nat.le_trans Z0 E101.1) (Keep.of_wr W102).1) (Keep.of_wr W103).1) E104.1) KK105.1) KK106.1) M106 rb hf_bb) hZ (hw _ (List.mem_of_getElem? (i := 20) rfl)) (hw _ (List.mem_of_getElem? (i := 4) rfl)) (by decide) (by decide)) q107a q107c (g := (mkF m 207 #[.val (.int p1), .val (.int p2), .val (.int p3), .val (.int p4), .val (.int p5), .val (.int nn), .val (.int aa), .val (.int bb), .val (.int cc), .val (.int dd), .val (.int (0 : Int32)), .val (.int (1 : Int32)), .val (.int (0 : Int32)), .val (.ref b101), .val (.int (((0 : Int32) + (1 : Int32)) + (1 : Int32))), .val (.ref b104), .val (.int (1 : Int32)), .unset, .unset, .unset, .unset] [(.int bb), (.ref b104)])) rfl (by rw [hml]; rfl) (Steps.refl _) (argsL := [(.int bb)]) (rest := []) (lenOf pd_2 rfl) rfl (by show 2 * 0 + _ ≤ _; exact Nat.le_of_eq rfl) (hb hby at_207) (fun _ _ => ⟨rfl, rfl, (by decide : 4 + 0 ≤ _), (by decide : 23 + 0 ≤ _)⟩)
                dsimp only [Pt.U, Pt.locs, Pt.cells, Pt.slots] at X107 l107 y107 z107 st107 hQ107
                subst l107 y107 z107
                obtain ⟨rfl, N107q, e107⟩ := hQ107
                have N107 := Fr.app N106 N107q
                refine own_pre (B := (T107.setTop (mkF m 216 #[.val (.int p1), .val (.int p2), .val (.int p3), .val (.int p4), .val (.int p5), .val (.int nn), .val (.int aa), .val (.int bb), .val (.int cc), .val (.int dd), .val (.int (0 : Int32)), .val (.int (1 : Int32)), .val (.int (0 : Int32)), .val (.ref b101), .val (.int (((0 : Int32) + (1 : Int32)) + (1 : Int32))), .val (.ref b104), .val (.int (1 : Int32)), .val (.int (0 : Int32)), .unset, .unset, .unset] [(.int cc), (.ref b104)]))) (fun t kt => ?_) ?_
                · refine st107.trans ?_
                  show Steps p.tables e below (T107.setTop (mkF m 210 _ [(.int (0 : Int32))])) _
                  refine XS.istore X107.here hx rfl (hb hby at_210) rfl (l' := #[.val (.int p1), .val (.int p2), .val (.int p3), .val (.int p4), .val (.int p5), .val (.int nn), .val (.int aa), .val (.int bb), .val (.int cc), .val (.int dd), .val (.int (0 : Int32)), .val (.int (1 : Int32)), .val (.int (0 : Int32)), .val (.ref b101), .val (.int (((0 : Int32) + (1 : Int32)) + (1 : Int32))), .val (.ref b104), .val (.int (1 : Int32)), .val (.int (0 : Int32)), .unset, .unset, .unset]) rfl ?_
                  show Steps p.tables e below (T107.setTop (mkF m 212 _ [])) _
                  refine XS.aload X107.here hx rfl (hb hby at_212) rfl rfl ?_
                  show Steps p.tables e below (T107.setTop (mkF m 214 _ [(.ref b104)])) _
                  refine XS.iload X107.here hx rfl (hb hby at_214) rfl ?_
                  exact kt
                have hk1 : ¬ ((0 : Int32) + (1 : Int32)) < 0 ∧ ((0 : Int32) + (1 : Int32)) < nn := own_rng' (by have e : (((0 : Int32) + (1 : Int32))).toInt = 1 := (by decide); omega)
                have hf_cc : (own_upd (fun _ => (0 : Int32)) (aa).toNatClampNeg 1) (cc).toNatClampNeg = 0 := by
                  simp only [own_upd, own_tn]
                  repeat' split
                  all_goals first | rfl | (exfalso; omega)
                obtain ⟨cq108, kq108, q108a, q108b, q108c⟩ := isOf hZ e107 M106.1
                obtain ⟨_, _, ⟨T108, L108, k108, n108⟩, -, X108, ⟨Lc108, hQ108, l108, y108, z108⟩, st108⟩ := X107.virtualBack hx (y := (⟨"com/example/faregraph/faregraph/search/Members", "add", "(I)Z"⟩ : MethodName)) (z := (⟨"com/example/faregraph/faregraph/search/Members", "add", "(I)Z"⟩ : MethodName)) hown (mvT hZ (hw _ (List.mem_of_getElem? (i := 16) rfl))) (mvT hZ (hw _ (List.mem_of_getElem? (i := 17) rfl))) (notFace_of_selects (args := #[]) (mvT hZ (hw _ (List.mem_of_getElem? (i := 19) rfl)))) (mvT hZ (hw _ (List.mem_of_getElem? (i := 19) rfl))) (mvT hZ (hw _ (List.mem_of_getElem? (i := 18) rfl))) (by decide) (backOf (W := 0) (rm3n l Z a0 hw [] b104 mb mc nn ((0 : Int32) + (1 : Int32)) (own_upd (fun _ => (0 : Int32)) (aa).toNatClampNeg 1) (own_upd (fun _ => (0 : Int32)) ((0 : Int32)).toNatClampNeg aa) cc T106.heap n0 (Nat.le_trans (Nat.le_trans (Nat.le_trans (Nat.le_trans (Nat.le_trans (Nat.le_trans Z0 E101.1) (Keep.of_wr W102).1) (Keep.of_wr W103).1) E104.1) KK105.1) KK106.1) M106 rc hk1 hf_cc) hZ (hw _ (List.mem_of_getElem? (i := 20) rfl)) (hw _ (List.mem_of_getElem? (i := 4) rfl)) (by decide) (by decide)) q108a q108c (g := (mkF m 216 #[.val (.int p1), .val (.int p2), .val (.int p3), .val (.int p4), .val (.int p5), .val (.int nn), .val (.int aa), .val (.int bb), .val (.int cc), .val (.int dd), .val (.int (0 : Int32)), .val (.int (1 : Int32)), .val (.int (0 : Int32)), .val (.ref b101), .val (.int (((0 : Int32) + (1 : Int32)) + (1 : Int32))), .val (.ref b104), .val (.int (1 : Int32)), .val (.int (0 : Int32)), .unset, .unset, .unset] [(.int cc), (.ref b104)])) rfl (by rw [hml]; rfl) (Steps.refl _) (argsL := [(.int cc)]) (rest := []) (lenOf pd_2 rfl) rfl (by show 2 * 0 + _ ≤ _; exact Nat.le_of_eq rfl) (hb hby at_216) (fun _ _ => ⟨rfl, e107, (by decide : 4 + 0 ≤ _), (by decide : 23 + 0 ≤ _)⟩)
                dsimp only [Pt.U, Pt.locs, Pt.cells, Pt.slots] at X108 l108 y108 z108 st108 hQ108
                subst l108 y108 z108
                obtain ⟨rfl, N108q, KK108, M108⟩ := hQ108
                have N108 := Fr.app N107 N108q
                have V_b101_108 := V_b101_106.keep KK108 (ninS ne_b101_b104 (ninS ne_b101_mb (ninS ne_b101_mc nin0)))
                have E_b104_108 := E_b104_106.keep KK108
                have KC108 := Keep.trans KC106 KK108 (allS (P := fun x => x ∈ [] ∨ h0.size ≤ x) (Or.inr sz_b104) (allS (P := fun x => x ∈ [] ∨ h0.size ≤ x) (Or.inr sz_mb) (allS (P := fun x => x ∈ [] ∨ h0.size ≤ x) (Or.inr sz_mc) all0)))
                refine own_pre (B := (T108.setTop (mkF m 225 #[.val (.int p1), .val (.int p2), .val (.int p3), .val (.int p4), .val (.int p5), .val (.int nn), .val (.int aa), .val (.int bb), .val (.int cc), .val (.int dd), .val (.int (0 : Int32)), .val (.int (1 : Int32)), .val (.int (0 : Int32)), .val (.ref b101), .val (.int (((0 : Int32) + (1 : Int32)) + (1 : Int32))), .val (.ref b104), .val (.int (1 : Int32)), .val (.int (0 : Int32)), .val (.int (1 : Int32)), .unset, .unset] [(.int dd), (.ref b104)]))) (fun t kt => ?_) ?_
                · refine st108.trans ?_
                  show Steps p.tables e below (T108.setTop (mkF m 219 _ [(.int (1 : Int32))])) _
                  refine XS.istore X108.here hx rfl (hb hby at_219) rfl (l' := #[.val (.int p1), .val (.int p2), .val (.int p3), .val (.int p4), .val (.int p5), .val (.int nn), .val (.int aa), .val (.int bb), .val (.int cc), .val (.int dd), .val (.int (0 : Int32)), .val (.int (1 : Int32)), .val (.int (0 : Int32)), .val (.ref b101), .val (.int (((0 : Int32) + (1 : Int32)) + (1 : Int32))), .val (.ref b104), .val (.int (1 : Int32)), .val (.int (0 : Int32)), .val (.int (1 : Int32)), .unset, .unset]) rfl ?_
                  show Steps p.tables e below (T108.setTop (mkF m 221 _ [])) _
                  refine XS.aload X108.here hx rfl (hb hby at_221) rfl rfl ?_
                  show Steps p.tables e below (T108.setTop (mkF m 223 _ [(.ref b104)])) _
                  refine XS.iload X108.here hx rfl (hb hby at_223) rfl ?_
                  exact kt
                have hf_dd : (own_upd (own_upd (fun _ => (0 : Int32)) (aa).toNatClampNeg 1) (cc).toNatClampNeg 1) (dd).toNatClampNeg = 1 := by
                  simp only [own_upd, own_tn]
                  repeat' split
                  all_goals first | rfl | (exfalso; omega)
                obtain ⟨cq109, kq109, q109a, q109b, q109c⟩ := isOf hZ rfl M108.1
                obtain ⟨_, _, ⟨T109, L109, k109, n109⟩, -, X109, ⟨Lc109, hQ109, l109, y109, z109⟩, st109⟩ := X108.virtualBack hx (y := (⟨"com/example/faregraph/faregraph/search/Members", "add", "(I)Z"⟩ : MethodName)) (z := (⟨"com/example/faregraph/faregraph/search/Members", "add", "(I)Z"⟩ : MethodName)) hown (mvT hZ (hw _ (List.mem_of_getElem? (i := 16) rfl))) (mvT hZ (hw _ (List.mem_of_getElem? (i := 17) rfl))) (notFace_of_selects (args := #[]) (mvT hZ (hw _ (List.mem_of_getElem? (i := 19) rfl)))) (mvT hZ (hw _ (List.mem_of_getElem? (i := 19) rfl))) (mvT hZ (hw _ (List.mem_of_getElem? (i := 18) rfl))) (by decide) (backOf (W := 0) (rm3y l Z a0 hw [] b104 mb mc nn (((0 : Int32) + (1 : Int32)) + (1 : Int32)) (own_upd (own_upd (fun _ => (0 : Int32)) (aa).toNatClampNeg 1) (cc).toNatClampNeg 1) (own_upd (own_upd (fun _ => (0 : Int32)) ((0 : Int32)).toNatClampNeg aa) (((0 : Int32) + (1 : Int32))).toNatClampNeg cc) dd T108.heap n0 (Nat.le_trans (Nat.le_trans (Nat.le_trans (Nat.le_trans (Nat.le_trans (Nat.le_trans (Nat.le_trans Z0 E101.1) (Keep.of_wr W102).1) (Keep.of_wr W103).1) E104.1) KK105.1) KK106.1) KK108.1) M108 rd hf_dd) hZ (hw _ (List.mem_of_getElem? (i := 20) rfl)) (hw _ (List.mem_of_getElem? (i := 4) rfl)) (by decide) (by decide)) q109a q109c (g := (mkF m 225 #[.val (.int p1), .val (.int p2), .val (.int p3), .val (.int p4), .val (.int p5), .val (.int nn), .val (.int aa), .val (.int bb), .val (.int cc), .val (.int dd), .val (.int (0 : Int32)), .val (.int (1 : Int32)), .val (.int (0 : Int32)), .val (.ref b101), .val (.int (((0 : Int32) + (1 : Int32)) + (1 : Int32))), .val (.ref b104), .val (.int (1 : Int32)), .val (.int (0 : Int32)), .val (.int (1 : Int32)), .unset, .unset] [(.int dd), (.ref b104)])) rfl (by rw [hml]; rfl) (Steps.refl _) (argsL := [(.int dd)]) (rest := []) (lenOf pd_2 rfl) rfl (by show 2 * 0 + _ ≤ _; exact Nat.le_of_eq rfl) (hb hby at_225) (fun _ _ => ⟨rfl, rfl, (by decide : 4 + 0 ≤ _), (by decide : 23 + 0 ≤ _)⟩)
                dsimp only [Pt.U, Pt.locs, Pt.cells, Pt.slots] at X109 l109 y109 z109 st109 hQ109
                subst l109 y109 z109
                obtain ⟨rfl, N109q, e109⟩ := hQ109
                have N109 := Fr.app N108 N109q
                refine own_pre (B := (T109.setTop (mkF m 260 #[.val (.int p1), .val (.int p2), .val (.int p3), .val (.int p4), .val (.int p5), .val (.int nn), .val (.int aa), .val (.int bb), .val (.int cc), .val (.int dd), .val (.int (0 : Int32)), .val (.int (1 : Int32)), .val (.int (0 : Int32)), .val (.ref b101), .val (.int (((0 : Int32) + (1 : Int32)) + (1 : Int32))), .val (.ref b104), .val (.int (1 : Int32)), .val (.int (0 : Int32)), .val (.int (1 : Int32)), .val (.int (0 : Int32)), .unset] [(.ref b104)]))) (fun t kt => ?_) ?_
                · refine st109.trans ?_
                  show Steps p.tables e below (T109.setTop (mkF m 228 _ [(.int (0 : Int32))])) _
                  refine XS.istore X109.here hx rfl (hb hby at_228) rfl (l' := #[.val (.int p1), .val (.int p2), .val (.int p3), .val (.int p4), .val (.int p5), .val (.int nn), .val (.int aa), .val (.int bb), .val (.int cc), .val (.int dd), .val (.int (0 : Int32)), .val (.int (1 : Int32)), .val (.int (0 : Int32)), .val (.ref b101), .val (.int (((0 : Int32) + (1 : Int32)) + (1 : Int32))), .val (.ref b104), .val (.int (1 : Int32)), .val (.int (0 : Int32)), .val (.int (1 : Int32)), .val (.int (0 : Int32)), .unset]) rfl ?_
                  show Steps p.tables e below (T109.setTop (mkF m 230 _ [])) _
                  refine XS.iload X109.here hx rfl (hb hby at_230) rfl ?_
                  show Steps p.tables e below (T109.setTop (mkF m 232 _ [(.int (1 : Int32))])) _
                  refine XS.ifNo X109.here hx rfl (hb hby at_232) rfl ((if0 _ _).trans (feq ((by decide) : ¬ ((1 : Int32) = (0 : Int32)))).1) ?_
                  show Steps p.tables e below (T109.setTop (mkF m 235 _ [])) _
                  refine XS.iload X109.here hx rfl (hb hby at_235) rfl ?_
                  show Steps p.tables e below (T109.setTop (mkF m 237 _ [(.int (0 : Int32))])) _
                  refine XS.iload X109.here hx rfl (hb hby at_237) rfl ?_
                  show Steps p.tables e below (T109.setTop (mkF m 239 _ [(.int (0 : Int32)), (.int (0 : Int32))])) _
                  refine XS.icmpNo X109.here hx rfl (hb hby at_239) rfl (teq (rfl : (0 : Int32) = (0 : Int32))).2 ?_
                  show Steps p.tables e below (T109.setTop (mkF m 242 _ [])) _
                  refine XS.iload X109.here hx rfl (hb hby at_242) rfl ?_
                  show Steps p.tables e below (T109.setTop (mkF m 244 _ [(.int (1 : Int32))])) _
                  refine XS.iload X109.here hx rfl (hb hby at_244) rfl ?_
                  show Steps p.tables e below (T109.setTop (mkF m 246 _ [(.int (1 : Int32)), (.int (1 : Int32))])) _
                  refine XS.icmpNo X109.here hx rfl (hb hby at_246) rfl (teq (rfl : (1 : Int32) = (1 : Int32))).2 ?_
                  show Steps p.tables e below (T109.setTop (mkF m 249 _ [])) _
                  refine XS.iload X109.here hx rfl (hb hby at_249) rfl ?_
                  show Steps p.tables e below (T109.setTop (mkF m 251 _ [(.int (0 : Int32))])) _
                  refine XS.iload X109.here hx rfl (hb hby at_251) rfl ?_
                  show Steps p.tables e below (T109.setTop (mkF m 253 _ [(.int (0 : Int32)), (.int (0 : Int32))])) _
                  refine XS.icmpYes X109.here hx rfl (pc0 := 253) (pc' := 258) rfl (hb hby at_253) rfl (teq (rfl : (0 : Int32) = (0 : Int32))).1 (by decide) (by decide) ?_
                  show Steps p.tables e below (T109.setTop (mkF m 258 _ [])) _
                  refine XS.aload X109.here hx rfl (hb hby at_258) rfl rfl ?_
                  exact kt
                obtain ⟨cq110, kq110, q110a, q110b, q110c⟩ := isOf hZ e109 M108.1
                obtain ⟨_, _, ⟨T110, L110, k110, n110⟩, -, X110, ⟨Lc110, hQ110, l110, y110, z110⟩, st110⟩ := X109.virtualBack hx (y := (⟨"com/example/faregraph/faregraph/search/Members", "count", "()I"⟩ : MethodName)) (z := (⟨"com/example/faregraph/faregraph/search/Members", "count", "()I"⟩ : MethodName)) hown (mvT hZ (hw _ (List.mem_of_getElem? (i := 23) rfl))) (mvT hZ (hw _ (List.mem_of_getElem? (i := 24) rfl))) (notFace_of_selects (args := #[]) (mvT hZ (hw _ (List.mem_of_getElem? (i := 26) rfl)))) (mvT hZ (hw _ (List.mem_of_getElem? (i := 26) rfl))) (mvT hZ (hw _ (List.mem_of_getElem? (i := 25) rfl))) (by decide) (backOf (W := 0) (rm4 l Z a0 hw [] b104 mb mc nn (((0 : Int32) + (1 : Int32)) + (1 : Int32)) (own_upd (own_upd (fun _ => (0 : Int32)) (aa).toNatClampNeg 1) (cc).toNatClampNeg 1) (own_upd (own_upd (fun _ => (0 : Int32)) ((0 : Int32)).toNatClampNeg aa) (((0 : Int32) + (1 : Int32))).toNatClampNeg cc) T108.heap n0 (Nat.le_trans (Nat.le_trans (Nat.le_trans (Nat.le_trans (Nat.le_trans (Nat.le_trans (Nat.le_trans Z0 E101.1) (Keep.of_wr W102).1) (Keep.of_wr W103).1) E104.1) KK105.1) KK106.1) KK108.1) M108) hZ (hw _ (List.mem_of_getElem? (i := 27) rfl)) (hw _ (List.mem_of_getElem? (i := 4) rfl)) (by decide) (by decide)) q110a q110c (g := (mkF m 260 #[.val (.int p1), .val (.int p2), .val (.int p3), .val (.int p4), .val (.int p5), .val (.int nn), .val (.int aa), .val (.int bb), .val (.int cc), .val (.int dd), .val (.int (0 : Int32)), .val (.int (1 : Int32)), .val (.int (0 : Int32)), .val (.ref b101), .val (.int (((0 : Int32) + (1 : Int32)) + (1 : Int32))), .val (.ref b104), .val (.int (1 : Int32)), .val (.int (0 : Int32)), .val (.int (1 : Int32)), .val (.int (0 : Int32)), .unset] [(.ref b104)])) rfl (by rw [hml]; rfl) (Steps.refl _) (argsL := []) (rest := []) (lenOf pd_3 rfl) rfl (by show 2 * 0 + _ ≤ _; exact Nat.le_of_eq rfl) (hb hby at_260) (fun _ _ => ⟨rfl, e109, (by decide : 4 + 0 ≤ _), (by decide : 23 + 0 ≤ _)⟩)
                dsimp only [Pt.U, Pt.locs, Pt.cells, Pt.slots] at X110 l110 y110 z110 st110 hQ110
                subst l110 y110 z110
                obtain ⟨rfl, N110q, e110⟩ := hQ110
                have N110 := Fr.app N109 N110q
                refine own_pre (B := (T110.setTop (mkF m 273 #[.val (.int p1), .val (.int p2), .val (.int p3), .val (.int p4), .val (.int p5), .val (.int nn), .val (.int aa), .val (.int bb), .val (.int cc), .val (.int dd), .val (.int (0 : Int32)), .val (.int (1 : Int32)), .val (.int (0 : Int32)), .val (.ref b101), .val (.int (((0 : Int32) + (1 : Int32)) + (1 : Int32))), .val (.ref b104), .val (.int (1 : Int32)), .val (.int (0 : Int32)), .val (.int (1 : Int32)), .val (.int (0 : Int32)), .unset] [(.int (0 : Int32)), (.ref b104)]))) (fun t kt => ?_) ?_
                · refine st110.trans ?_
                  show Steps p.tables e below (T110.setTop (mkF m 263 _ [(.int (((0 : Int32) + (1 : Int32)) + (1 : Int32)))])) _
                  refine XS.iload X110.here hx rfl (hb hby at_263) rfl ?_
                  show Steps p.tables e below (T110.setTop (mkF m 265 _ [(.int (((0 : Int32) + (1 : Int32)) + (1 : Int32))), (.int (((0 : Int32) + (1 : Int32)) + (1 : Int32)))])) _
                  refine XS.icmpYes X110.here hx rfl (pc0 := 265) (pc' := 270) rfl (hb hby at_265) rfl (teq (rfl : (((0 : Int32) + (1 : Int32)) + (1 : Int32)) = (((0 : Int32) + (1 : Int32)) + (1 : Int32)))).1 (by decide) (by decide) ?_
                  show Steps p.tables e below (T110.setTop (mkF m 270 _ [])) _
                  refine XS.aload X110.here hx rfl (hb hby at_270) rfl rfl ?_
                  show Steps p.tables e below (T110.setTop (mkF m 272 _ [(.ref b104)])) _
                  refine XS.iconst X110.here hx rfl (hb hby at_272) ?_
                  exact kt
                have pg111 : (own_upd (own_upd (fun _ => (0 : Int32)) ((0 : Int32)).toNatClampNeg aa) (((0 : Int32) + (1 : Int32))).toNatClampNeg cc) ((0 : Int32)).toNatClampNeg = aa := ((own_upd_ne (by decide)).trans (own_upd_hit (by decide)))
                obtain ⟨cq111, kq111, q111a, q111b, q111c⟩ := isOf hZ e110 M108.1
                obtain ⟨_, _, ⟨T111, L111, k111, n111⟩, -, X111, ⟨Lc111, hQ111, l111, y111, z111⟩, st111⟩ := X110.virtualBack hx (y := (⟨"com/example/faregraph/faregraph/search/Members", "get", "(I)I"⟩ : MethodName)) (z := (⟨"com/example/faregraph/faregraph/search/Members", "get", "(I)I"⟩ : MethodName)) hown (mvT hZ (hw _ (List.mem_of_getElem? (i := 28) rfl))) (mvT hZ (hw _ (List.mem_of_getElem? (i := 29) rfl))) (notFace_of_selects (args := #[]) (mvT hZ (hw _ (List.mem_of_getElem? (i := 31) rfl)))) (mvT hZ (hw _ (List.mem_of_getElem? (i := 31) rfl))) (mvT hZ (hw _ (List.mem_of_getElem? (i := 30) rfl))) (by decide) (backOf (W := 0) (rm5 l Z a0 hw [] b104 mb mc nn (((0 : Int32) + (1 : Int32)) + (1 : Int32)) (own_upd (own_upd (fun _ => (0 : Int32)) (aa).toNatClampNeg 1) (cc).toNatClampNeg 1) (own_upd (own_upd (fun _ => (0 : Int32)) ((0 : Int32)).toNatClampNeg aa) (((0 : Int32) + (1 : Int32))).toNatClampNeg cc) (0 : Int32) aa T108.heap n0 (Nat.le_trans (Nat.le_trans (Nat.le_trans (Nat.le_trans (Nat.le_trans (Nat.le_trans (Nat.le_trans Z0 E101.1) (Keep.of_wr W102).1) (Keep.of_wr W103).1) E104.1) KK105.1) KK106.1) KK108.1) M108 (own_rng' (by have e : ((0 : Int32)).toInt = 0 := (by decide); omega)) pg111) hZ (hw _ (List.mem_of_getElem? (i := 32) rfl)) (hw _ (List.mem_of_getElem? (i := 4) rfl)) (by decide) (by decide)) q111a q111c (g := (mkF m 273 #[.val (.int p1), .val (.int p2), .val (.int p3), .val (.int p4), .val (.int p5), .val (.int nn), .val (.int aa), .val (.int bb), .val (.int cc), .val (.int dd), .val (.int (0 : Int32)), .val (.int (1 : Int32)), .val (.int (0 : Int32)), .val (.ref b101), .val (.int (((0 : Int32) + (1 : Int32)) + (1 : Int32))), .val (.ref b104), .val (.int (1 : Int32)), .val (.int (0 : Int32)), .val (.int (1 : Int32)), .val (.int (0 : Int32)), .unset] [(.int (0 : Int32)), (.ref b104)])) rfl (by rw [hml]; rfl) (Steps.refl _) (argsL := [(.int (0 : Int32))]) (rest := []) (lenOf pd_4 rfl) rfl (by show 2 * 0 + _ ≤ _; exact Nat.le_of_eq rfl) (hb hby at_273) (fun _ _ => ⟨rfl, e110, (by decide : 4 + 0 ≤ _), (by decide : 23 + 0 ≤ _)⟩)
                dsimp only [Pt.U, Pt.locs, Pt.cells, Pt.slots] at X111 l111 y111 z111 st111 hQ111
                subst l111 y111 z111
                obtain ⟨rfl, N111q, e111⟩ := hQ111
                have N111 := Fr.app N110 N111q
                refine own_pre (B := (T111.setTop (mkF m 279 #[.val (.int p1), .val (.int p2), .val (.int p3), .val (.int p4), .val (.int p5), .val (.int nn), .val (.int aa), .val (.int bb), .val (.int cc), .val (.int dd), .val (.int (0 : Int32)), .val (.int (1 : Int32)), .val (.int (0 : Int32)), .val (.ref b101), .val (.int (((0 : Int32) + (1 : Int32)) + (1 : Int32))), .val (.ref b104), .val (.int (1 : Int32)), .val (.int (0 : Int32)), .val (.int (1 : Int32)), .val (.int (0 : Int32)), .unset] [(.int (0 : Int32)), (.ref b101), (.int aa)]))) (fun t kt => ?_) ?_
                · refine st111.trans ?_
                  show Steps p.tables e below (T111.setTop (mkF m 276 _ [(.int aa)])) _
                  refine XS.aload X111.here hx rfl (hb hby at_276) rfl rfl ?_
                  show Steps p.tables e below (T111.setTop (mkF m 278 _ [(.ref b101), (.int aa)])) _
                  refine XS.iconst X111.here hx rfl (hb hby at_278) ?_
                  exact kt
                have pe113 : (own_upd (own_upd (fun _ => (0 : Int32)) ((0 : Int32)).toNatClampNeg aa) (((0 : Int32) + (1 : Int32))).toNatClampNeg cc) ((0 : Int32)).toNatClampNeg = aa := ((own_upd_ne (by decide)).trans (own_upd_hit (by decide)))
                obtain ⟨cl112, Ar112, S112, P112, H112⟩ := id V_b101_108
                have in112 := inb_of S112 (⟨by decide, by decide⟩ : ¬ (0 : Int32) < 0 ∧ (0 : Int32) < (4 : Int32))
                have at112 : cl112.slots[((0 : Int32)).toNatClampNeg]? = some (.int aa) := (H112 _ (Nat.lt_of_not_le fun y => in112 (Or.inr y))).trans (congrArg (fun z => some (Value.int z)) pe113)
                refine own_pre (B := (T111.setTop (mkF m 304 #[.val (.int p1), .val (.int p2), .val (.int p3), .val (.int p4), .val (.int p5), .val (.int nn), .val (.int aa), .val (.int bb), .val (.int cc), .val (.int dd), .val (.int (0 : Int32)), .val (.int (1 : Int32)), .val (.int (0 : Int32)), .val (.ref b101), .val (.int (((0 : Int32) + (1 : Int32)) + (1 : Int32))), .val (.ref b104), .val (.int (1 : Int32)), .val (.int (0 : Int32)), .val (.int (1 : Int32)), .val (.int (0 : Int32)), .val (.int (1 : Int32))] [(.int (1 : Int32)), (.ref b104)]))) (fun t kt => ?_) ?_
                · show Steps p.tables e below (T111.setTop (mkF m 279 _ [(.int (0 : Int32)), (.ref b101), (.int aa)])) _
                  refine X111.iaload hx (j := (0 : Int32)) (v := (.int aa)) (by rw [e111]; exact Ar112.1) (State.isArrayOf_alike hZ.alike Ar112.2.1) Ar112.2.2 in112 at112 (g := (mkF m 279 #[.val (.int p1), .val (.int p2), .val (.int p3), .val (.int p4), .val (.int p5), .val (.int nn), .val (.int aa), .val (.int bb), .val (.int cc), .val (.int dd), .val (.int (0 : Int32)), .val (.int (1 : Int32)), .val (.int (0 : Int32)), .val (.ref b101), .val (.int (((0 : Int32) + (1 : Int32)) + (1 : Int32))), .val (.ref b104), .val (.int (1 : Int32)), .val (.int (0 : Int32)), .val (.int (1 : Int32)), .val (.int (0 : Int32)), .unset] [(.int (0 : Int32)), (.ref b101), (.int aa)])) rfl rfl (hb hby at_279) _ ?_
                  show Steps p.tables e below (T111.setTop (mkF m 280 _ [(.int aa), (.int aa)])) _
                  refine XS.icmpNo X111.here hx rfl (hb hby at_280) rfl (teq (rfl : aa = aa)).2 ?_
                  show Steps p.tables e below (T111.setTop (mkF m 283 _ [])) _
                  refine XS.iconst X111.here hx rfl (hb hby at_283) ?_
                  show Steps p.tables e below (T111.setTop (mkF m 284 _ [(.int (1 : Int32))])) _
                  refine XS.goto X111.here hx rfl (pc0 := 284) (pc' := 288) rfl (hb hby at_284) (by decide) (by decide) ?_
                  show Steps p.tables e below (T111.setTop (mkF m 288 _ [(.int (1 : Int32))])) _
                  refine XS.istore X111.here hx rfl (hb hby at_288) rfl (l' := #[.val (.int p1), .val (.int p2), .val (.int p3), .val (.int p4), .val (.int p5), .val (.int nn), .val (.int aa), .val (.int bb), .val (.int cc), .val (.int dd), .val (.int (0 : Int32)), .val (.int (1 : Int32)), .val (.int (0 : Int32)), .val (.ref b101), .val (.int (((0 : Int32) + (1 : Int32)) + (1 : Int32))), .val (.ref b104), .val (.int (1 : Int32)), .val (.int (0 : Int32)), .val (.int (1 : Int32)), .val (.int (0 : Int32)), .val (.int (1 : Int32))]) rfl ?_
                  show Steps p.tables e below (T111.setTop (mkF m 290 _ [])) _
                  refine XS.iload X111.here hx rfl (hb hby at_290) rfl ?_
                  show Steps p.tables e below (T111.setTop (mkF m 292 _ [(.int (((0 : Int32) + (1 : Int32)) + (1 : Int32)))])) _
                  refine XS.iconst X111.here hx rfl (hb hby at_292) ?_
                  show Steps p.tables e below (T111.setTop (mkF m 293 _ [(.int (1 : Int32)), (.int (((0 : Int32) + (1 : Int32)) + (1 : Int32)))])) _
                  refine XS.icmpNo X111.here hx rfl (hb hby at_293) rfl (tlt ((by decide) : (1 : Int32) < (((0 : Int32) + (1 : Int32)) + (1 : Int32)))).2.2.2 ?_
                  show Steps p.tables e below (T111.setTop (mkF m 296 _ [])) _
                  refine XS.iload X111.here hx rfl (hb hby at_296) rfl ?_
                  show Steps p.tables e below (T111.setTop (mkF m 298 _ [(.int (1 : Int32))])) _
                  refine XS.ifNo X111.here hx rfl (hb hby at_298) rfl ((if0 _ _).trans (feq ((by decide) : ¬ ((1 : Int32) = (0 : Int32)))).1) ?_
                  show Steps p.tables e below (T111.setTop (mkF m 301 _ [])) _
                  refine XS.aload X111.here hx rfl (hb hby at_301) rfl rfl ?_
                  show Steps p.tables e below (T111.setTop (mkF m 303 _ [(.ref b104)])) _
                  refine XS.iconst X111.here hx rfl (hb hby at_303) ?_
                  exact kt
                have pg114 : (own_upd (own_upd (fun _ => (0 : Int32)) ((0 : Int32)).toNatClampNeg aa) (((0 : Int32) + (1 : Int32))).toNatClampNeg cc) ((1 : Int32)).toNatClampNeg = cc := (own_upd_hit (by decide))
                obtain ⟨cq114, kq114, q114a, q114b, q114c⟩ := isOf hZ e111 M108.1
                obtain ⟨_, _, ⟨T114, L114, k114, n114⟩, -, X114, ⟨Lc114, hQ114, l114, y114, z114⟩, st114⟩ := X111.virtualBack hx (y := (⟨"com/example/faregraph/faregraph/search/Members", "get", "(I)I"⟩ : MethodName)) (z := (⟨"com/example/faregraph/faregraph/search/Members", "get", "(I)I"⟩ : MethodName)) hown (mvT hZ (hw _ (List.mem_of_getElem? (i := 28) rfl))) (mvT hZ (hw _ (List.mem_of_getElem? (i := 29) rfl))) (notFace_of_selects (args := #[]) (mvT hZ (hw _ (List.mem_of_getElem? (i := 31) rfl)))) (mvT hZ (hw _ (List.mem_of_getElem? (i := 31) rfl))) (mvT hZ (hw _ (List.mem_of_getElem? (i := 30) rfl))) (by decide) (backOf (W := 0) (rm5 l Z a0 hw [] b104 mb mc nn (((0 : Int32) + (1 : Int32)) + (1 : Int32)) (own_upd (own_upd (fun _ => (0 : Int32)) (aa).toNatClampNeg 1) (cc).toNatClampNeg 1) (own_upd (own_upd (fun _ => (0 : Int32)) ((0 : Int32)).toNatClampNeg aa) (((0 : Int32) + (1 : Int32))).toNatClampNeg cc) (1 : Int32) cc T108.heap n0 (Nat.le_trans (Nat.le_trans (Nat.le_trans (Nat.le_trans (Nat.le_trans (Nat.le_trans (Nat.le_trans Z0 E101.1) (Keep.of_wr W102).1) (Keep.of_wr W103).1) E104.1) KK105.1) KK106.1) KK108.1) M108 (own_rng' (by have e : ((1 : Int32)).toInt = 1 := (by decide); omega)) pg114) hZ (hw _ (List.mem_of_getElem? (i := 32) rfl)) (hw _ (List.mem_of_getElem? (i := 4) rfl)) (by decide) (by decide)) q114a q114c (g := (mkF m 304 #[.val (.int p1), .val (.int p2), .val (.int p3), .val (.int p4), .val (.int p5), .val (.int nn), .val (.int aa), .val (.int bb), .val (.int cc), .val (.int dd), .val (.int (0 : Int32)), .val (.int (1 : Int32)), .val (.int (0 : Int32)), .val (.ref b101), .val (.int (((0 : Int32) + (1 : Int32)) + (1 : Int32))), .val (.ref b104), .val (.int (1 : Int32)), .val (.int (0 : Int32)), .val (.int (1 : Int32)), .val (.int (0 : Int32)), .val (.int (1 : Int32))] [(.int (1 : Int32)), (.ref b104)])) rfl (by rw [hml]; rfl) (Steps.refl _) (argsL := [(.int (1 : Int32))]) (rest := []) (lenOf pd_4 rfl) rfl (by show 2 * 0 + _ ≤ _; exact Nat.le_of_eq rfl) (hb hby at_304) (fun _ _ => ⟨rfl, e111, (by decide : 4 + 0 ≤ _), (by decide : 23 + 0 ≤ _)⟩)
                dsimp only [Pt.U, Pt.locs, Pt.cells, Pt.slots] at X114 l114 y114 z114 st114 hQ114
                subst l114 y114 z114
                obtain ⟨rfl, N114q, e114⟩ := hQ114
                have N114 := Fr.app N111 N114q
                refine own_pre (B := (T114.setTop (mkF m 310 #[.val (.int p1), .val (.int p2), .val (.int p3), .val (.int p4), .val (.int p5), .val (.int nn), .val (.int aa), .val (.int bb), .val (.int cc), .val (.int dd), .val (.int (0 : Int32)), .val (.int (1 : Int32)), .val (.int (0 : Int32)), .val (.ref b101), .val (.int (((0 : Int32) + (1 : Int32)) + (1 : Int32))), .val (.ref b104), .val (.int (1 : Int32)), .val (.int (0 : Int32)), .val (.int (1 : Int32)), .val (.int (0 : Int32)), .val (.int (1 : Int32))] [(.int (1 : Int32)), (.ref b101), (.int cc)]))) (fun t kt => ?_) ?_
                · refine st114.trans ?_
                  show Steps p.tables e below (T114.setTop (mkF m 307 _ [(.int cc)])) _
                  refine XS.aload X114.here hx rfl (hb hby at_307) rfl rfl ?_
                  show Steps p.tables e below (T114.setTop (mkF m 309 _ [(.ref b101), (.int cc)])) _
                  refine XS.iconst X114.here hx rfl (hb hby at_309) ?_
                  exact kt
                have pe116 : (own_upd (own_upd (fun _ => (0 : Int32)) ((0 : Int32)).toNatClampNeg aa) (((0 : Int32) + (1 : Int32))).toNatClampNeg cc) ((1 : Int32)).toNatClampNeg = cc := (own_upd_hit (by decide))
                obtain ⟨cl115, Ar115, S115, P115, H115⟩ := id V_b101_108
                have in115 := inb_of S115 (⟨by decide, by decide⟩ : ¬ (1 : Int32) < 0 ∧ (1 : Int32) < (4 : Int32))
                have at115 : cl115.slots[((1 : Int32)).toNatClampNeg]? = some (.int cc) := (H115 _ (Nat.lt_of_not_le fun y => in115 (Or.inr y))).trans (congrArg (fun z => some (Value.int z)) pe116)
                refine own_pre (B := (T114.setTop (mkF m 385 #[.val (.int p1), .val (.int p2), .val (.int p3), .val (.int p4), .val (.int p5), .val (.int nn), .val (.int aa), .val (.int bb), .val (.int cc), .val (.int dd), .val (.int (0 : Int32)), .val (.int (1 : Int32)), .val (.int (0 : Int32)), .val (.ref b101), .val (.int (((0 : Int32) + (1 : Int32)) + (1 : Int32))), .val (.ref b104), .val (.int (1 : Int32)), .val (.int (0 : Int32)), .val (.int (1 : Int32)), .val (.int (0 : Int32)), .val (.int (1 : Int32))] [(.int (1 : Int32))]))) (fun t kt => ?_) ?_
                · show Steps p.tables e below (T114.setTop (mkF m 310 _ [(.int (1 : Int32)), (.ref b101), (.int cc)])) _
                  refine X114.iaload hx (j := (1 : Int32)) (v := (.int cc)) (by rw [e114]; exact Ar115.1) (State.isArrayOf_alike hZ.alike Ar115.2.1) Ar115.2.2 in115 at115 (g := (mkF m 310 #[.val (.int p1), .val (.int p2), .val (.int p3), .val (.int p4), .val (.int p5), .val (.int nn), .val (.int aa), .val (.int bb), .val (.int cc), .val (.int dd), .val (.int (0 : Int32)), .val (.int (1 : Int32)), .val (.int (0 : Int32)), .val (.ref b101), .val (.int (((0 : Int32) + (1 : Int32)) + (1 : Int32))), .val (.ref b104), .val (.int (1 : Int32)), .val (.int (0 : Int32)), .val (.int (1 : Int32)), .val (.int (0 : Int32)), .val (.int (1 : Int32))] [(.int (1 : Int32)), (.ref b101), (.int cc)])) rfl rfl (hb hby at_310) _ ?_
                  show Steps p.tables e below (T114.setTop (mkF m 311 _ [(.int cc), (.int cc)])) _
                  refine XS.icmpNo X114.here hx rfl (hb hby at_311) rfl (teq (rfl : cc = cc)).2 ?_
                  show Steps p.tables e below (T114.setTop (mkF m 314 _ [])) _
                  refine XS.iconst X114.here hx rfl (hb hby at_314) ?_
                  show Steps p.tables e below (T114.setTop (mkF m 315 _ [(.int (1 : Int32))])) _
                  refine XS.goto X114.here hx rfl (pc0 := 315) (pc' := 319) rfl (hb hby at_315) (by decide) (by decide) ?_
                  show Steps p.tables e below (T114.setTop (mkF m 319 _ [(.int (1 : Int32))])) _
                  refine XS.istore X114.here hx rfl (hb hby at_319) rfl (l' := #[.val (.int p1), .val (.int p2), .val (.int p3), .val (.int p4), .val (.int p5), .val (.int nn), .val (.int aa), .val (.int bb), .val (.int cc), .val (.int dd), .val (.int (0 : Int32)), .val (.int (1 : Int32)), .val (.int (0 : Int32)), .val (.ref b101), .val (.int (((0 : Int32) + (1 : Int32)) + (1 : Int32))), .val (.ref b104), .val (.int (1 : Int32)), .val (.int (0 : Int32)), .val (.int (1 : Int32)), .val (.int (0 : Int32)), .val (.int (1 : Int32))]) rfl ?_
                  show Steps p.tables e below (T114.setTop (mkF m 321 _ [])) _
                  refine XS.iload X114.here hx rfl (hb hby at_321) rfl ?_
                  show Steps p.tables e below (T114.setTop (mkF m 323 _ [(.int (((0 : Int32) + (1 : Int32)) + (1 : Int32)))])) _
                  refine XS.iconst X114.here hx rfl (hb hby at_323) ?_
                  show Steps p.tables e below (T114.setTop (mkF m 324 _ [(.int (2 : Int32)), (.int (((0 : Int32) + (1 : Int32)) + (1 : Int32)))])) _
                  refine XS.icmpYes X114.here hx rfl (pc0 := 324) (pc' := 352) rfl (hb hby at_324) rfl (flt ((by decide) : ¬ ((2 : Int32) < (((0 : Int32) + (1 : Int32)) + (1 : Int32))))).2.2.2 (by decide) (by decide) ?_
                  show Steps p.tables e below (T114.setTop (mkF m 352 _ [])) _
                  refine XS.iload X114.here hx rfl (hb hby at_352) rfl ?_
                  show Steps p.tables e below (T114.setTop (mkF m 354 _ [(.int (((0 : Int32) + (1 : Int32)) + (1 : Int32)))])) _
                  refine XS.iconst X114.here hx rfl (hb hby at_354) ?_
                  show Steps p.tables e below (T114.setTop (mkF m 355 _ [(.int (3 : Int32)), (.int (((0 : Int32) + (1 : Int32)) + (1 : Int32)))])) _
                  refine XS.icmpYes X114.here hx rfl (pc0 := 355) (pc' := 383) rfl (hb hby at_355) rfl (flt ((by decide) : ¬ ((3 : Int32) < (((0 : Int32) + (1 : Int32)) + (1 : Int32))))).2.2.2 (by decide) (by decide) ?_
                  show Steps p.tables e below (T114.setTop (mkF m 383 _ [])) _
                  refine XS.iload X114.here hx rfl (hb hby at_383) rfl ?_
                  exact kt
                exact own_fin X114 (some (.int (1 : Int32))) (fun h => by rw [Bd.returns] at h; cases h) (BodyLoose.notSynchronized Bd) e114 (fun fs hr => retN X114 hx (t := .boolean) Bd.returns (by simp) (hb hby at_385) hr) ⟨rfl, N114⟩ (by decide) (by decide)
            · rcases hed with ⟨rfl, hqed⟩ | ⟨rfl, hqed⟩
              · refine own_pre (B := (s₁.setTop (mkF m 109 #[.val (.int p1), .val (.int p2), .val (.int p3), .val (.int p4), .val (.int p5), .val (.int nn), .val (.int aa), .val (.int bb), .val (.int cc), .val (.int dd), .val (.int (0 : Int32)), .val (.int (0 : Int32)), .val (.int (1 : Int32)), .unset, .unset, .unset, .unset, .unset, .unset, .unset, .unset] [(.int (4 : Int32))]))) (fun t kt => ?_) ?_
                · show Steps p.tables e below (s₁.setTop (mkF m 108 _ [])) _
                  refine XS.iconst X0.here hx rfl (hb hby at_108) ?_
                  exact kt
                obtain ⟨T117, h117, k117, X117, e117, E117, A117, st117⟩ := newP X0 hx hZ (hw _ (List.mem_of_getElem? (i := 1) rfl)) e0 (g := (mkF m 109 #[.val (.int p1), .val (.int p2), .val (.int p3), .val (.int p4), .val (.int p5), .val (.int nn), .val (.int aa), .val (.int bb), .val (.int cc), .val (.int dd), .val (.int (0 : Int32)), .val (.int (0 : Int32)), .val (.int (1 : Int32)), .unset, .unset, .unset, .unset, .unset, .unset, .unset, .unset] [(.int (4 : Int32))])) rfl (hb hby at_109) rfl (by decide) (cap := 4) (by decide) (by decide) (by decide) (by decide)
                obtain ⟨b117, g117⟩ : ∃ z, z = h0.size := ⟨_, rfl⟩
                have g_b117 : n0 ≤ b117 := Nat.le_trans Z0 (Nat.le_of_eq g117.symm)
                have sz_b117 : h0.size ≤ b117 := Nat.le_trans (Keep.refl h0 []).1 (Nat.le_of_eq g117.symm)
                rw [← g117] at A117 st117
                have K117 := Keep.ext (Keep.refl h0 []) E117
                have V_b117 := own_Arr.new A117 (by decide) rfl
                refine own_pre (B := (T117.setTop (mkF m 122 #[.val (.int p1), .val (.int p2), .val (.int p3), .val (.int p4), .val (.int p5), .val (.int nn), .val (.int aa), .val (.int bb), .val (.int cc), .val (.int dd), .val (.int (0 : Int32)), .val (.int (0 : Int32)), .val (.int (1 : Int32)), .val (.ref b117), .val (.int (0 : Int32)), .unset, .unset, .unset, .unset, .unset, .unset] [(.int aa), (.int (0 : Int32)), (.ref b117)]))) (fun t kt => ?_) ?_
                · show Steps p.tables e below (s₁.setTop (mkF m 109 _ [(.int (4 : Int32))])) _
                  refine st117 _ ?_
                  show Steps p.tables e below (T117.setTop (mkF m 111 _ [(.ref b117)])) _
                  refine XS.astore X117.here hx rfl (hb hby at_111) rfl rfl (l' := #[.val (.int p1), .val (.int p2), .val (.int p3), .val (.int p4), .val (.int p5), .val (.int nn), .val (.int aa), .val (.int bb), .val (.int cc), .val (.int dd), .val (.int (0 : Int32)), .val (.int (0 : Int32)), .val (.int (1 : Int32)), .val (.ref b117), .unset, .unset, .unset, .unset, .unset, .unset, .unset]) rfl ?_
                  show Steps p.tables e below (T117.setTop (mkF m 113 _ [])) _
                  refine XS.iconst X117.here hx rfl (hb hby at_113) ?_
                  show Steps p.tables e below (T117.setTop (mkF m 114 _ [(.int (0 : Int32))])) _
                  refine XS.istore X117.here hx rfl (hb hby at_114) rfl (l' := #[.val (.int p1), .val (.int p2), .val (.int p3), .val (.int p4), .val (.int p5), .val (.int nn), .val (.int aa), .val (.int bb), .val (.int cc), .val (.int dd), .val (.int (0 : Int32)), .val (.int (0 : Int32)), .val (.int (1 : Int32)), .val (.ref b117), .val (.int (0 : Int32)), .unset, .unset, .unset, .unset, .unset, .unset]) rfl ?_
                  show Steps p.tables e below (T117.setTop (mkF m 116 _ [])) _
                  refine XS.aload X117.here hx rfl (hb hby at_116) rfl rfl ?_
                  show Steps p.tables e below (T117.setTop (mkF m 118 _ [(.ref b117)])) _
                  refine XS.iload X117.here hx rfl (hb hby at_118) rfl ?_
                  show Steps p.tables e below (T117.setTop (mkF m 120 _ [(.int (0 : Int32)), (.ref b117)])) _
                  refine XS.iload X117.here hx rfl (hb hby at_120) rfl ?_
                  exact kt
                obtain ⟨cl118, Ar118, S118, P118, H118⟩ := id V_b117
                have in118 := inb_of S118 (⟨by decide, by decide⟩ : ¬ (0 : Int32) < 0 ∧ (0 : Int32) < (4 : Int32))
                obtain ⟨T118, h118, X118, e118, W118, st118⟩ := stI X117 hx hZ e117 Ar118 (j := (0 : Int32)) in118 (g := (mkF m 122 #[.val (.int p1), .val (.int p2), .val (.int p3), .val (.int p4), .val (.int p5), .val (.int nn), .val (.int aa), .val (.int bb), .val (.int cc), .val (.int dd), .val (.int (0 : Int32)), .val (.int (0 : Int32)), .val (.int (1 : Int32)), .val (.ref b117), .val (.int (0 : Int32)), .unset, .unset, .unset, .unset, .unset, .unset] [(.int aa), (.int (0 : Int32)), (.ref b117)])) rfl rfl (hb hby at_122)
                have V_b117_118 := V_b117.set W118
                have N118 := Fr.snoc X118 N0 g_b117
                have K118 := Keep.wr K117 W118 (Or.inr sz_b117)
                refine own_pre (B := (T118.setTop (mkF m 176 #[.val (.int p1), .val (.int p2), .val (.int p3), .val (.int p4), .val (.int p5), .val (.int nn), .val (.int aa), .val (.int bb), .val (.int cc), .val (.int dd), .val (.int (0 : Int32)), .val (.int (0 : Int32)), .val (.int (1 : Int32)), .val (.ref b117), .val (.int ((0 : Int32) + (1 : Int32))), .unset, .unset, .unset, .unset, .unset, .unset] [(.int dd), (.int ((0 : Int32) + (1 : Int32))), (.ref b117)]))) (fun t kt => ?_) ?_
                · show Steps p.tables e below (T117.setTop (mkF m 122 _ [(.int aa), (.int (0 : Int32)), (.ref b117)])) _
                  refine st118 _ ?_
                  show Steps p.tables e below (T118.setTop (mkF m 123 _ [])) _
                  refine XS.iload X118.here hx rfl (hb hby at_123) rfl ?_
                  show Steps p.tables e below (T118.setTop (mkF m 125 _ [(.int (0 : Int32))])) _
                  refine XS.iconst X118.here hx rfl (hb hby at_125) ?_
                  show Steps p.tables e below (T118.setTop (mkF m 126 _ [(.int (1 : Int32)), (.int (0 : Int32))])) _
                  refine XS.iadd X118.here hx rfl (hb hby at_126) rfl ?_
                  show Steps p.tables e below (T118.setTop (mkF m 127 _ [(.int ((0 : Int32) + (1 : Int32)))])) _
                  refine XS.istore X118.here hx rfl (hb hby at_127) rfl (l' := #[.val (.int p1), .val (.int p2), .val (.int p3), .val (.int p4), .val (.int p5), .val (.int nn), .val (.int aa), .val (.int bb), .val (.int cc), .val (.int dd), .val (.int (0 : Int32)), .val (.int (0 : Int32)), .val (.int (1 : Int32)), .val (.ref b117), .val (.int ((0 : Int32) + (1 : Int32))), .unset, .unset, .unset, .unset, .unset, .unset]) rfl ?_
                  show Steps p.tables e below (T118.setTop (mkF m 129 _ [])) _
                  refine XS.iload X118.here hx rfl (hb hby at_129) rfl ?_
                  show Steps p.tables e below (T118.setTop (mkF m 131 _ [(.int (0 : Int32))])) _
                  refine XS.ifYes X118.here hx rfl (pc0 := 131) (pc' := 147) rfl (hb hby at_131) rfl ((if0 _ _).trans (teq (rfl : (0 : Int32) = (0 : Int32))).1) (by decide) (by decide) ?_
                  show Steps p.tables e below (T118.setTop (mkF m 147 _ [])) _
                  refine XS.iload X118.here hx rfl (hb hby at_147) rfl ?_
                  show Steps p.tables e below (T118.setTop (mkF m 149 _ [(.int (0 : Int32))])) _
                  refine XS.ifYes X118.here hx rfl (pc0 := 149) (pc' := 165) rfl (hb hby at_149) rfl ((if0 _ _).trans (teq (rfl : (0 : Int32) = (0 : Int32))).1) (by decide) (by decide) ?_
                  show Steps p.tables e below (T118.setTop (mkF m 165 _ [])) _
                  refine XS.iload X118.here hx rfl (hb hby at_165) rfl ?_
                  show Steps p.tables e below (T118.setTop (mkF m 167 _ [(.int (1 : Int32))])) _
                  refine XS.ifNo X118.here hx rfl (hb hby at_167) rfl ((if0 _ _).trans (feq ((by decide) : ¬ ((1 : Int32) = (0 : Int32)))).1) ?_
                  show Steps p.tables e below (T118.setTop (mkF m 170 _ [])) _
                  refine XS.aload X118.here hx rfl (hb hby at_170) rfl rfl ?_
                  show Steps p.tables e below (T118.setTop (mkF m 172 _ [(.ref b117)])) _
                  refine XS.iload X118.here hx rfl (hb hby at_172) rfl ?_
                  show Steps p.tables e below (T118.setTop (mkF m 174 _ [(.int ((0 : Int32) + (1 : Int32))), (.ref b117)])) _
                  refine XS.iload X118.here hx rfl (hb hby at_174) rfl ?_
                  exact kt
                obtain ⟨cl119, Ar119, S119, P119, H119⟩ := id V_b117_118
                have in119 := inb_of S119 (⟨by decide, by decide⟩ : ¬ ((0 : Int32) + (1 : Int32)) < 0 ∧ ((0 : Int32) + (1 : Int32)) < (4 : Int32))
                obtain ⟨T119, h119, X119, e119, W119, st119⟩ := stI X118 hx hZ e118 Ar119 (j := ((0 : Int32) + (1 : Int32))) in119 (g := (mkF m 176 #[.val (.int p1), .val (.int p2), .val (.int p3), .val (.int p4), .val (.int p5), .val (.int nn), .val (.int aa), .val (.int bb), .val (.int cc), .val (.int dd), .val (.int (0 : Int32)), .val (.int (0 : Int32)), .val (.int (1 : Int32)), .val (.ref b117), .val (.int ((0 : Int32) + (1 : Int32))), .unset, .unset, .unset, .unset, .unset, .unset] [(.int dd), (.int ((0 : Int32) + (1 : Int32))), (.ref b117)])) rfl rfl (hb hby at_176)
                have V_b117_119 := V_b117_118.set W119
                have N119 := Fr.snoc X119 N118 g_b117
                have K119 := Keep.wr K118 W119 (Or.inr sz_b117)
                refine own_pre (B := (T119.setTop (mkF m 183 #[.val (.int p1), .val (.int p2), .val (.int p3), .val (.int p4), .val (.int p5), .val (.int nn), .val (.int aa), .val (.int bb), .val (.int cc), .val (.int dd), .val (.int (0 : Int32)), .val (.int (0 : Int32)), .val (.int (1 : Int32)), .val (.ref b117), .val (.int (((0 : Int32) + (1 : Int32)) + (1 : Int32))), .unset, .unset, .unset, .unset, .unset, .unset] []))) (fun t kt => ?_) ?_
                · show Steps p.tables e below (T118.setTop (mkF m 176 _ [(.int dd), (.int ((0 : Int32) + (1 : Int32))), (.ref b117)])) _
                  refine st119 _ ?_
                  show Steps p.tables e below (T119.setTop (mkF m 177 _ [])) _
                  refine XS.iload X119.here hx rfl (hb hby at_177) rfl ?_
                  show Steps p.tables e below (T119.setTop (mkF m 179 _ [(.int ((0 : Int32) + (1 : Int32)))])) _
                  refine XS.iconst X119.here hx rfl (hb hby at_179) ?_
                  show Steps p.tables e below (T119.setTop (mkF m 180 _ [(.int (1 : Int32)), (.int ((0 : Int32) + (1 : Int32)))])) _
                  refine XS.iadd X119.here hx rfl (hb hby at_180) rfl ?_
                  show Steps p.tables e below (T119.setTop (mkF m 181 _ [(.int (((0 : Int32) + (1 : Int32)) + (1 : Int32)))])) _
                  refine XS.istore X119.here hx rfl (hb hby at_181) rfl (l' := #[.val (.int p1), .val (.int p2), .val (.int p3), .val (.int p4), .val (.int p5), .val (.int nn), .val (.int aa), .val (.int bb), .val (.int cc), .val (.int dd), .val (.int (0 : Int32)), .val (.int (0 : Int32)), .val (.int (1 : Int32)), .val (.ref b117), .val (.int (((0 : Int32) + (1 : Int32)) + (1 : Int32))), .unset, .unset, .unset, .unset, .unset, .unset]) rfl ?_
                  exact kt
                obtain ⟨T120, h120, X120, e120, E120, A120, D120, -, st120⟩ := newO X119 hx hZ hown (hw _ (List.mem_of_getElem? (i := 2) rfl)) (hw _ (List.mem_of_getElem? (i := 3) rfl)) (hw _ (List.mem_of_getElem? (i := 4) rfl)) e119 (g := (mkF m 183 #[.val (.int p1), .val (.int p2), .val (.int p3), .val (.int p4), .val (.int p5), .val (.int nn), .val (.int aa), .val (.int bb), .val (.int cc), .val (.int dd), .val (.int (0 : Int32)), .val (.int (0 : Int32)), .val (.int (1 : Int32)), .val (.ref b117), .val (.int (((0 : Int32) + (1 : Int32)) + (1 : Int32))), .unset, .unset, .unset, .unset, .unset, .unset] [])) rfl (hb hby at_183) (by decide) (by decide)
                obtain ⟨b120, g120⟩ : ∃ z, z = h119.size := ⟨_, rfl⟩
                have ne_b117_b120 : b117 ≠ b120 := Nat.ne_of_lt (Nat.lt_of_lt_of_le V_b117_119.lt (Nat.le_of_eq g120.symm))
                have g_b120 : n0 ≤ b120 := Nat.le_trans (Nat.le_trans (Nat.le_trans (Nat.le_trans Z0 E117.1) (Keep.of_wr W118).1) (Keep.of_wr W119).1) (Nat.le_of_eq g120.symm)
                have sz_b120 : h0.size ≤ b120 := Nat.le_trans K119.1 (Nat.le_of_eq g120.symm)
                rw [← g120] at A120 D120 st120
                have V_b117_120 := V_b117_119.ext E120
                have K120 := Keep.ext K119 E120
                have E_b120 := A120
                have F_member_b120 : Fld Z h120 b120 "com/example/faregraph/faregraph/search/Members" "member" "[Z" .null := D120 (Or.inr (hw _ (List.mem_of_getElem? (i := 13) rfl))) (ty := (.array .boolean)) (by decide)
                have F_members_b120 : Fld Z h120 b120 "com/example/faregraph/faregraph/search/Members" "members" "[I" .null := D120 (Or.inr (hw _ (List.mem_of_getElem? (i := 15) rfl))) (ty := (.array .int)) (by decide)
                have F_count_b120 : Fld Z h120 b120 "com/example/faregraph/faregraph/search/Members" "count" "I" (.int (0 : Int32)) := D120 (Or.inl (hw _ (List.mem_of_getElem? (i := 22) rfl))) (ty := .int) (by decide)
                refine own_pre (B := (T120.setTop (mkF m 189 #[.val (.int p1), .val (.int p2), .val (.int p3), .val (.int p4), .val (.int p5), .val (.int nn), .val (.int aa), .val (.int bb), .val (.int cc), .val (.int dd), .val (.int (0 : Int32)), .val (.int (0 : Int32)), .val (.int (1 : Int32)), .val (.ref b117), .val (.int (((0 : Int32) + (1 : Int32)) + (1 : Int32))), .unset, .unset, .unset, .unset, .unset, .unset] [(.int nn), (.ref b120), (.ref b120)]))) (fun t kt => ?_) ?_
                · show Steps p.tables e below (T119.setTop (mkF m 183 _ [])) _
                  refine st120 _ ?_
                  show Steps p.tables e below (T120.setTop (mkF m 186 _ [(.ref b120)])) _
                  refine XS.dup X120.here hx rfl (hb hby at_186) rfl rfl ?_
                  show Steps p.tables e below (T120.setTop (mkF m 187 _ [(.ref b120), (.ref b120)])) _
                  refine XS.iload X120.here hx rfl (hb hby at_187) rfl ?_
                  exact kt
                obtain ⟨_, _, ⟨T121, L121, k121, n121⟩, -, X121, ⟨Lc121, hQ121, l121, y121, z121⟩, st121⟩ := X120.specialBack hx (y := (⟨"com/example/faregraph/faregraph/search/Members", "<init>", "(I)V"⟩ : MethodName)) rfl hown (mvT hZ (hw _ (List.mem_of_getElem? (i := 5) rfl))) (mvT hZ (hw _ (List.mem_of_getElem? (i := 6) rfl))) (mvT hZ (hw _ (List.mem_of_getElem? (i := 7) rfl))) (by decide) (backOf (W := 1) (rm1 l Z a0 hw [] b120 nn h120 n0 (Nat.le_trans (Nat.le_trans (Nat.le_trans (Nat.le_trans Z0 E117.1) (Keep.of_wr W118).1) (Keep.of_wr W119).1) E120.1) E_b120 F_member_b120 F_members_b120 F_count_b120 g_b120 hnn hcap) hZ (hw _ (List.mem_of_getElem? (i := 7) rfl)) (hw _ (List.mem_of_getElem? (i := 4) rfl)) (by decide) (by decide)) (g := (mkF m 189 #[.val (.int p1), .val (.int p2), .val (.int p3), .val (.int p4), .val (.int p5), .val (.int nn), .val (.int aa), .val (.int bb), .val (.int cc), .val (.int dd), .val (.int (0 : Int32)), .val (.int (0 : Int32)), .val (.int (1 : Int32)), .val (.ref b117), .val (.int (((0 : Int32) + (1 : Int32)) + (1 : Int32))), .unset, .unset, .unset, .unset, .unset, .unset] [(.int nn), (.ref b120), (.ref b120)])) rfl (by rw [hml]; rfl) (Steps.refl _) (a := b120) (argsL := [(.int nn)]) (rest := [(.ref b120)]) (lenOf pd_0 rfl) rfl (by show 2 * 0 + _ ≤ _; exact Nat.le_of_eq rfl) (hb hby at_189) (fun _ _ => ⟨rfl, e120, (by decide : 2 + 2 ≤ _), (by decide : 7 + 16 ≤ _)⟩)
                dsimp only [Pt.U, Pt.locs, Pt.cells, Pt.slots] at X121 l121 y121 z121 st121 hQ121
                subst l121 y121 z121
                obtain ⟨rfl, N121q, KK121, mb, mc, szb, szc, M121⟩ := hQ121
                have N121 := Fr.app N119 N121q
                have ne_b117_mb : b117 ≠ mb := Nat.ne_of_lt (Nat.lt_of_lt_of_le V_b117_120.lt szb)
                have ne_b117_mc : b117 ≠ mc := Nat.ne_of_lt (Nat.lt_of_lt_of_le V_b117_120.lt szc)
                have g_mb : n0 ≤ mb := Nat.le_trans (Nat.le_trans (Nat.le_trans (Nat.le_trans (Nat.le_trans Z0 E117.1) (Keep.of_wr W118).1) (Keep.of_wr W119).1) E120.1) szb
                have g_mc : n0 ≤ mc := Nat.le_trans (Nat.le_trans (Nat.le_trans (Nat.le_trans (Nat.le_trans Z0 E117.1) (Keep.of_wr W118).1) (Keep.of_wr W119).1) E120.1) szc
                have sz_mb : h0.size ≤ mb := Nat.le_trans K120.1 szb
                have sz_mc : h0.size ≤ mc := Nat.le_trans K120.1 szc
                have V_b117_121 := V_b117_120.keep KK121 (ninS ne_b117_b120 nin0)
                have E_b120_121 := E_b120.keep KK121
                have KC121 := Keep.trans K120 KK121 (allS (P := fun x => x ∈ [] ∨ h0.size ≤ x) (Or.inr sz_b120) all0)
                refine own_pre (B := (T121.setTop (mkF m 198 #[.val (.int p1), .val (.int p2), .val (.int p3), .val (.int p4), .val (.int p5), .val (.int nn), .val (.int aa), .val (.int bb), .val (.int cc), .val (.int dd), .val (.int (0 : Int32)), .val (.int (0 : Int32)), .val (.int (1 : Int32)), .val (.ref b117), .val (.int (((0 : Int32) + (1 : Int32)) + (1 : Int32))), .val (.ref b120), .unset, .unset, .unset, .unset, .unset] [(.int aa), (.ref b120)]))) (fun t kt => ?_) ?_
                · refine st121.trans ?_
                  show Steps p.tables e below (T121.setTop (mkF m 192 _ [(.ref b120)])) _
                  refine XS.astore X121.here hx rfl (hb hby at_192) rfl rfl (l' := #[.val (.int p1), .val (.int p2), .val (.int p3), .val (.int p4), .val (.int p5), .val (.int nn), .val (.int aa), .val (.int bb), .val (.int cc), .val (.int dd), .val (.int (0 : Int32)), .val (.int (0 : Int32)), .val (.int (1 : Int32)), .val (.ref b117), .val (.int (((0 : Int32) + (1 : Int32)) + (1 : Int32))), .val (.ref b120), .unset, .unset, .unset, .unset, .unset]) rfl ?_
                  show Steps p.tables e below (T121.setTop (mkF m 194 _ [])) _
                  refine XS.aload X121.here hx rfl (hb hby at_194) rfl rfl ?_
                  show Steps p.tables e below (T121.setTop (mkF m 196 _ [(.ref b120)])) _
                  refine XS.iload X121.here hx rfl (hb hby at_196) rfl ?_
                  exact kt
                have hk0 : ¬ (0 : Int32) < 0 ∧ (0 : Int32) < nn := own_rng' (by have e : ((0 : Int32)).toInt = 0 := (by decide); omega)
                have hf_aa : (fun _ => (0 : Int32)) (aa).toNatClampNeg = 0 := by
                  simp only [own_upd, own_tn]
                obtain ⟨cq122, kq122, q122a, q122b, q122c⟩ := isOf hZ rfl M121.1
                obtain ⟨_, _, ⟨T122, L122, k122, n122⟩, -, X122, ⟨Lc122, hQ122, l122, y122, z122⟩, st122⟩ := X121.virtualBack hx (y := (⟨"com/example/faregraph/faregraph/search/Members", "add", "(I)Z"⟩ : MethodName)) (z := (⟨"com/example/faregraph/faregraph/search/Members", "add", "(I)Z"⟩ : MethodName)) hown (mvT hZ (hw _ (List.mem_of_getElem? (i := 16) rfl))) (mvT hZ (hw _ (List.mem_of_getElem? (i := 17) rfl))) (notFace_of_selects (args := #[]) (mvT hZ (hw _ (List.mem_of_getElem? (i := 19) rfl)))) (mvT hZ (hw _ (List.mem_of_getElem? (i := 19) rfl))) (mvT hZ (hw _ (List.mem_of_getElem? (i := 18) rfl))) (by decide) (backOf (W := 0) (rm3n l Z a0 hw [] b120 mb mc nn (0 : Int32) (fun _ => (0 : Int32)) (fun _ => (0 : Int32)) aa T121.heap n0 (Nat.le_trans (Nat.le_trans (Nat.le_trans (Nat.le_trans (Nat.le_trans Z0 E117.1) (Keep.of_wr W118).1) (Keep.of_wr W119).1) E120.1) KK121.1) M121 ra hk0 hf_aa) hZ (hw _ (List.mem_of_getElem? (i := 20) rfl)) (hw _ (List.mem_of_getElem? (i := 4) rfl)) (by decide) (by decide)) q122a q122c (g := (mkF m 198 #[.val (.int p1), .val (.int p2), .val (.int p3), .val (.int p4), .val (.int p5), .val (.int nn), .val (.int aa), .val (.int bb), .val (.int cc), .val (.int dd), .val (.int (0 : Int32)), .val (.int (0 : Int32)), .val (.int (1 : Int32)), .val (.ref b117), .val (.int (((0 : Int32) + (1 : Int32)) + (1 : Int32))), .val (.ref b120), .unset, .unset, .unset, .unset, .unset] [(.int aa), (.ref b120)])) rfl (by rw [hml]; rfl) (Steps.refl _) (argsL := [(.int aa)]) (rest := []) (lenOf pd_2 rfl) rfl (by show 2 * 0 + _ ≤ _; exact Nat.le_of_eq rfl) (hb hby at_198) (fun _ _ => ⟨rfl, rfl, (by decide : 4 + 0 ≤ _), (by decide : 23 + 0 ≤ _)⟩)
                dsimp only [Pt.U, Pt.locs, Pt.cells, Pt.slots] at X122 l122 y122 z122 st122 hQ122
                subst l122 y122 z122
                obtain ⟨rfl, N122q, KK122, M122⟩ := hQ122
                have N122 := Fr.app N121 N122q
                have V_b117_122 := V_b117_121.keep KK122 (ninS ne_b117_b120 (ninS ne_b117_mb (ninS ne_b117_mc nin0)))
                have E_b120_122 := E_b120_121.keep KK122
                have KC122 := Keep.trans KC121 KK122 (allS (P := fun x => x ∈ [] ∨ h0.size ≤ x) (Or.inr sz_b120) (allS (P := fun x => x ∈ [] ∨ h0.size ≤ x) (Or.inr sz_mb) (allS (P := fun x => x ∈ [] ∨ h0.size ≤ x) (Or.inr sz_mc) all0)))
                refine own_pre (B := (T122.setTop (mkF m 207 #[.val (.int p1), .val (.int p2), .val (.int p3), .val (.int p4), .val (.int p5), .val (.int nn), .val (.int aa), .val (.int bb), .val (.int cc), .val (.int dd), .val (.int (0 : Int32)), .val (.int (0 : Int32)), .val (.int (1 : Int32)), .val (.ref b117), .val (.int (((0 : Int32) + (1 : Int32)) + (1 : Int32))), .val (.ref b120), .val (.int (1 : Int32)), .unset, .unset, .unset, .unset] [(.int bb), (.ref b120)]))) (fun t kt => ?_) ?_
                · refine st122.trans ?_
                  show Steps p.tables e below (T122.setTop (mkF m 201 _ [(.int (1 : Int32))])) _
                  refine XS.istore X122.here hx rfl (hb hby at_201) rfl (l' := #[.val (.int p1), .val (.int p2), .val (.int p3), .val (.int p4), .val (.int p5), .val (.int nn), .val (.int aa), .val (.int bb), .val (.int cc), .val (.int dd), .val (.int (0 : Int32)), .val (.int (0 : Int32)), .val (.int (1 : Int32)), .val (.ref b117), .val (.int (((0 : Int32) + (1 : Int32)) + (1 : Int32))), .val (.ref b120), .val (.int (1 : Int32)), .unset, .unset, .unset, .unset]) rfl ?_
                  show Steps p.tables e below (T122.setTop (mkF m 203 _ [])) _
                  refine XS.aload X122.here hx rfl (hb hby at_203) rfl rfl ?_
                  show Steps p.tables e below (T122.setTop (mkF m 205 _ [(.ref b120)])) _
                  refine XS.iload X122.here hx rfl (hb hby at_205) rfl ?_
                  exact kt
                have hf_bb : (own_upd (fun _ => (0 : Int32)) (aa).toNatClampNeg 1) (bb).toNatClampNeg = 1 := by
                  simp only [own_upd, own_tn]
                  repeat' split
                  all_goals first | rfl | (exfalso; omega)
                obtain ⟨cq123, kq123, q123a, q123b, q123c⟩ := isOf hZ rfl M122.1
                obtain ⟨_, _, ⟨T123, L123, k123, n123⟩, -, X123, ⟨Lc123, hQ123, l123, y123, z123⟩, st123⟩ := X122.virtualBack hx (y := (⟨"com/example/faregraph/faregraph/search/Members", "add", "(I)Z"⟩ : MethodName)) (z := (⟨"com/example/faregraph/faregraph/search/Members", "add", "(I)Z"⟩ : MethodName)) hown (mvT hZ (hw _ (List.mem_of_getElem? (i := 16) rfl))) (mvT hZ (hw _ (List.mem_of_getElem? (i := 17) rfl))) (notFace_of_selects (args := #[]) (mvT hZ (hw _ (List.mem_of_getElem? (i := 19) rfl)))) (mvT hZ (hw _ (List.mem_of_getElem? (i := 19) rfl))) (mvT hZ (hw _ (List.mem_of_getElem? (i := 18) rfl))) (by decide) (backOf (W := 0) (rm3y l Z a0 hw [] b120 mb mc nn ((0 : Int32) + (1 : Int32)) (own_upd (fun _ => (0 : Int32)) (aa).toNatClampNeg 1) (own_upd (fun _ => (0 : Int32)) ((0 : Int32)).toNatClampNeg aa) bb T122.heap n0 (Nat.le_trans (Nat.le_trans (Nat.le_trans (Nat.le_trans (Nat.le_trans (Nat.le_trans Z0 E117.1) (Keep.of_wr W118).1) (Keep.of_wr W119).1) E120.1) KK121.1) KK122.1) M122 rb hf_bb) hZ (hw _ (List.mem_of_getElem? (i := 20) rfl)) (hw _ (List.mem_of_getElem? (i := 4) rfl)) (by decide) (by decide)) q123a q123c (g := (mkF m 207 #[.val (.int p1), .val (.int p2), .val (.int p3), .val (.int p4), .val (.int p5), .val (.int nn), .val (.int aa), .val (.int bb), .val (.int cc), .val (.int dd), .val (.int (0 : Int32)), .val (.int (0 : Int32)), .val (.int (1 : Int32)), .val (.ref b117), .val (.int (((0 : Int32) + (1 : Int32)) + (1 : Int32))), .val (.ref b120), .val (.int (1 : Int32)), .unset, .unset, .unset, .unset] [(.int bb), (.ref b120)])) rfl (by rw [hml]; rfl) (Steps.refl _) (argsL := [(.int bb)]) (rest := []) (lenOf pd_2 rfl) rfl (by show 2 * 0 + _ ≤ _; exact Nat.le_of_eq rfl) (hb hby at_207) (fun _ _ => ⟨rfl, rfl, (by decide : 4 + 0 ≤ _), (by decide : 23 + 0 ≤ _)⟩)
                dsimp only [Pt.U, Pt.locs, Pt.cells, Pt.slots] at X123 l123 y123 z123 st123 hQ123
                subst l123 y123 z123
                obtain ⟨rfl, N123q, e123⟩ := hQ123
                have N123 := Fr.app N122 N123q
                refine own_pre (B := (T123.setTop (mkF m 216 #[.val (.int p1), .val (.int p2), .val (.int p3), .val (.int p4), .val (.int p5), .val (.int nn), .val (.int aa), .val (.int bb), .val (.int cc), .val (.int dd), .val (.int (0 : Int32)), .val (.int (0 : Int32)), .val (.int (1 : Int32)), .val (.ref b117), .val (.int (((0 : Int32) + (1 : Int32)) + (1 : Int32))), .val (.ref b120), .val (.int (1 : Int32)), .val (.int (0 : Int32)), .unset, .unset, .unset] [(.int cc), (.ref b120)]))) (fun t kt => ?_) ?_
                · refine st123.trans ?_
                  show Steps p.tables e below (T123.setTop (mkF m 210 _ [(.int (0 : Int32))])) _
                  refine XS.istore X123.here hx rfl (hb hby at_210) rfl (l' := #[.val (.int p1), .val (.int p2), .val (.int p3), .val (.int p4), .val (.int p5), .val (.int nn), .val (.int aa), .val (.int bb), .val (.int cc), .val (.int dd), .val (.int (0 : Int32)), .val (.int (0 : Int32)), .val (.int (1 : Int32)), .val (.ref b117), .val (.int (((0 : Int32) + (1 : Int32)) + (1 : Int32))), .val (.ref b120), .val (.int (1 : Int32)), .val (.int (0 : Int32)), .unset, .unset, .unset]) rfl ?_
                  show Steps p.tables e below (T123.setTop (mkF m 212 _ [])) _
                  refine XS.aload X123.here hx rfl (hb hby at_212) rfl rfl ?_
                  show Steps p.tables e below (T123.setTop (mkF m 214 _ [(.ref b120)])) _
                  refine XS.iload X123.here hx rfl (hb hby at_214) rfl ?_
                  exact kt
                have hf_cc : (own_upd (fun _ => (0 : Int32)) (aa).toNatClampNeg 1) (cc).toNatClampNeg = 1 := by
                  simp only [own_upd, own_tn]
                  repeat' split
                  all_goals first | rfl | (exfalso; omega)
                obtain ⟨cq124, kq124, q124a, q124b, q124c⟩ := isOf hZ e123 M122.1
                obtain ⟨_, _, ⟨T124, L124, k124, n124⟩, -, X124, ⟨Lc124, hQ124, l124, y124, z124⟩, st124⟩ := X123.virtualBack hx (y := (⟨"com/example/faregraph/faregraph/search/Members", "add", "(I)Z"⟩ : MethodName)) (z := (⟨"com/example/faregraph/faregraph/search/Members", "add", "(I)Z"⟩ : MethodName)) hown (mvT hZ (hw _ (List.mem_of_getElem? (i := 16) rfl))) (mvT hZ (hw _ (List.mem_of_getElem? (i := 17) rfl))) (notFace_of_selects (args := #[]) (mvT hZ (hw _ (List.mem_of_getElem? (i := 19) rfl)))) (mvT hZ (hw _ (List.mem_of_getElem? (i := 19) rfl))) (mvT hZ (hw _ (List.mem_of_getElem? (i := 18) rfl))) (by decide) (backOf (W := 0) (rm3y l Z a0 hw [] b120 mb mc nn ((0 : Int32) + (1 : Int32)) (own_upd (fun _ => (0 : Int32)) (aa).toNatClampNeg 1) (own_upd (fun _ => (0 : Int32)) ((0 : Int32)).toNatClampNeg aa) cc T122.heap n0 (Nat.le_trans (Nat.le_trans (Nat.le_trans (Nat.le_trans (Nat.le_trans (Nat.le_trans Z0 E117.1) (Keep.of_wr W118).1) (Keep.of_wr W119).1) E120.1) KK121.1) KK122.1) M122 rc hf_cc) hZ (hw _ (List.mem_of_getElem? (i := 20) rfl)) (hw _ (List.mem_of_getElem? (i := 4) rfl)) (by decide) (by decide)) q124a q124c (g := (mkF m 216 #[.val (.int p1), .val (.int p2), .val (.int p3), .val (.int p4), .val (.int p5), .val (.int nn), .val (.int aa), .val (.int bb), .val (.int cc), .val (.int dd), .val (.int (0 : Int32)), .val (.int (0 : Int32)), .val (.int (1 : Int32)), .val (.ref b117), .val (.int (((0 : Int32) + (1 : Int32)) + (1 : Int32))), .val (.ref b120), .val (.int (1 : Int32)), .val (.int (0 : Int32)), .unset, .unset, .unset] [(.int cc), (.ref b120)])) rfl (by rw [hml]; rfl) (Steps.refl _) (argsL := [(.int cc)]) (rest := []) (lenOf pd_2 rfl) rfl (by show 2 * 0 + _ ≤ _; exact Nat.le_of_eq rfl) (hb hby at_216) (fun _ _ => ⟨rfl, e123, (by decide : 4 + 0 ≤ _), (by decide : 23 + 0 ≤ _)⟩)
                dsimp only [Pt.U, Pt.locs, Pt.cells, Pt.slots] at X124 l124 y124 z124 st124 hQ124
                subst l124 y124 z124
                obtain ⟨rfl, N124q, e124⟩ := hQ124
                have N124 := Fr.app N123 N124q
                refine own_pre (B := (T124.setTop (mkF m 225 #[.val (.int p1), .val (.int p2), .val (.int p3), .val (.int p4), .val (.int p5), .val (.int nn), .val (.int aa), .val (.int bb), .val (.int cc), .val (.int dd), .val (.int (0 : Int32)), .val (.int (0 : Int32)), .val (.int (1 : Int32)), .val (.ref b117), .val (.int (((0 : Int32) + (1 : Int32)) + (1 : Int32))), .val (.ref b120), .val (.int (1 : Int32)), .val (.int (0 : Int32)), .val (.int (0 : Int32)), .unset, .unset] [(.int dd), (.ref b120)]))) (fun t kt => ?_) ?_
                · refine st124.trans ?_
                  show Steps p.tables e below (T124.setTop (mkF m 219 _ [(.int (0 : Int32))])) _
                  refine XS.istore X124.here hx rfl (hb hby at_219) rfl (l' := #[.val (.int p1), .val (.int p2), .val (.int p3), .val (.int p4), .val (.int p5), .val (.int nn), .val (.int aa), .val (.int bb), .val (.int cc), .val (.int dd), .val (.int (0 : Int32)), .val (.int (0 : Int32)), .val (.int (1 : Int32)), .val (.ref b117), .val (.int (((0 : Int32) + (1 : Int32)) + (1 : Int32))), .val (.ref b120), .val (.int (1 : Int32)), .val (.int (0 : Int32)), .val (.int (0 : Int32)), .unset, .unset]) rfl ?_
                  show Steps p.tables e below (T124.setTop (mkF m 221 _ [])) _
                  refine XS.aload X124.here hx rfl (hb hby at_221) rfl rfl ?_
                  show Steps p.tables e below (T124.setTop (mkF m 223 _ [(.ref b120)])) _
                  refine XS.iload X124.here hx rfl (hb hby at_223) rfl ?_
                  exact kt
                have hk1 : ¬ ((0 : Int32) + (1 : Int32)) < 0 ∧ ((0 : Int32) + (1 : Int32)) < nn := own_rng' (by have e : (((0 : Int32) + (1 : Int32))).toInt = 1 := (by decide); omega)
                have hf_dd : (own_upd (fun _ => (0 : Int32)) (aa).toNatClampNeg 1) (dd).toNatClampNeg = 0 := by
                  simp only [own_upd, own_tn]
                  repeat' split
                  all_goals first | rfl | (exfalso; omega)
                obtain ⟨cq125, kq125, q125a, q125b, q125c⟩ := isOf hZ e124 M122.1
                obtain ⟨_, _, ⟨T125, L125, k125, n125⟩, -, X125, ⟨Lc125, hQ125, l125, y125, z125⟩, st125⟩ := X124.virtualBack hx (y := (⟨"com/example/faregraph/faregraph/search/Members", "add", "(I)Z"⟩ : MethodName)) (z := (⟨"com/example/faregraph/faregraph/search/Members", "add", "(I)Z"⟩ : MethodName)) hown (mvT hZ (hw _ (List.mem_of_getElem? (i := 16) rfl))) (mvT hZ (hw _ (List.mem_of_getElem? (i := 17) rfl))) (notFace_of_selects (args := #[]) (mvT hZ (hw _ (List.mem_of_getElem? (i := 19) rfl)))) (mvT hZ (hw _ (List.mem_of_getElem? (i := 19) rfl))) (mvT hZ (hw _ (List.mem_of_getElem? (i := 18) rfl))) (by decide) (backOf (W := 0) (rm3n l Z a0 hw [] b120 mb mc nn ((0 : Int32) + (1 : Int32)) (own_upd (fun _ => (0 : Int32)) (aa).toNatClampNeg 1) (own_upd (fun _ => (0 : Int32)) ((0 : Int32)).toNatClampNeg aa) dd T122.heap n0 (Nat.le_trans (Nat.le_trans (Nat.le_trans (Nat.le_trans (Nat.le_trans (Nat.le_trans Z0 E117.1) (Keep.of_wr W118).1) (Keep.of_wr W119).1) E120.1) KK121.1) KK122.1) M122 rd hk1 hf_dd) hZ (hw _ (List.mem_of_getElem? (i := 20) rfl)) (hw _ (List.mem_of_getElem? (i := 4) rfl)) (by decide) (by decide)) q125a q125c (g := (mkF m 225 #[.val (.int p1), .val (.int p2), .val (.int p3), .val (.int p4), .val (.int p5), .val (.int nn), .val (.int aa), .val (.int bb), .val (.int cc), .val (.int dd), .val (.int (0 : Int32)), .val (.int (0 : Int32)), .val (.int (1 : Int32)), .val (.ref b117), .val (.int (((0 : Int32) + (1 : Int32)) + (1 : Int32))), .val (.ref b120), .val (.int (1 : Int32)), .val (.int (0 : Int32)), .val (.int (0 : Int32)), .unset, .unset] [(.int dd), (.ref b120)])) rfl (by rw [hml]; rfl) (Steps.refl _) (argsL := [(.int dd)]) (rest := []) (lenOf pd_2 rfl) rfl (by show 2 * 0 + _ ≤ _; exact Nat.le_of_eq rfl) (hb hby at_225) (fun _ _ => ⟨rfl, e124, (by decide : 4 + 0 ≤ _), (by decide : 23 + 0 ≤ _)⟩)
                dsimp only [Pt.U, Pt.locs, Pt.cells, Pt.slots] at X125 l125 y125 z125 st125 hQ125
                subst l125 y125 z125
                obtain ⟨rfl, N125q, KK125, M125⟩ := hQ125
                have N125 := Fr.app N124 N125q
                have V_b117_125 := V_b117_122.keep KK125 (ninS ne_b117_b120 (ninS ne_b117_mb (ninS ne_b117_mc nin0)))
                have E_b120_125 := E_b120_122.keep KK125
                have KC125 := Keep.trans KC122 KK125 (allS (P := fun x => x ∈ [] ∨ h0.size ≤ x) (Or.inr sz_b120) (allS (P := fun x => x ∈ [] ∨ h0.size ≤ x) (Or.inr sz_mb) (allS (P := fun x => x ∈ [] ∨ h0.size ≤ x) (Or.inr sz_mc) all0)))
                refine own_pre (B := (T125.setTop (mkF m 260 #[.val (.int p1), .val (.int p2), .val (.int p3), .val (.int p4), .val (.int p5), .val (.int nn), .val (.int aa), .val (.int bb), .val (.int cc), .val (.int dd), .val (.int (0 : Int32)), .val (.int (0 : Int32)), .val (.int (1 : Int32)), .val (.ref b117), .val (.int (((0 : Int32) + (1 : Int32)) + (1 : Int32))), .val (.ref b120), .val (.int (1 : Int32)), .val (.int (0 : Int32)), .val (.int (0 : Int32)), .val (.int (1 : Int32)), .unset] [(.ref b120)]))) (fun t kt => ?_) ?_
                · refine st125.trans ?_
                  show Steps p.tables e below (T125.setTop (mkF m 228 _ [(.int (1 : Int32))])) _
                  refine XS.istore X125.here hx rfl (hb hby at_228) rfl (l' := #[.val (.int p1), .val (.int p2), .val (.int p3), .val (.int p4), .val (.int p5), .val (.int nn), .val (.int aa), .val (.int bb), .val (.int cc), .val (.int dd), .val (.int (0 : Int32)), .val (.int (0 : Int32)), .val (.int (1 : Int32)), .val (.ref b117), .val (.int (((0 : Int32) + (1 : Int32)) + (1 : Int32))), .val (.ref b120), .val (.int (1 : Int32)), .val (.int (0 : Int32)), .val (.int (0 : Int32)), .val (.int (1 : Int32)), .unset]) rfl ?_
                  show Steps p.tables e below (T125.setTop (mkF m 230 _ [])) _
                  refine XS.iload X125.here hx rfl (hb hby at_230) rfl ?_
                  show Steps p.tables e below (T125.setTop (mkF m 232 _ [(.int (1 : Int32))])) _
                  refine XS.ifNo X125.here hx rfl (hb hby at_232) rfl ((if0 _ _).trans (feq ((by decide) : ¬ ((1 : Int32) = (0 : Int32)))).1) ?_
                  show Steps p.tables e below (T125.setTop (mkF m 235 _ [])) _
                  refine XS.iload X125.here hx rfl (hb hby at_235) rfl ?_
                  show Steps p.tables e below (T125.setTop (mkF m 237 _ [(.int (0 : Int32))])) _
                  refine XS.iload X125.here hx rfl (hb hby at_237) rfl ?_
                  show Steps p.tables e below (T125.setTop (mkF m 239 _ [(.int (0 : Int32)), (.int (0 : Int32))])) _
                  refine XS.icmpNo X125.here hx rfl (hb hby at_239) rfl (teq (rfl : (0 : Int32) = (0 : Int32))).2 ?_
                  show Steps p.tables e below (T125.setTop (mkF m 242 _ [])) _
                  refine XS.iload X125.here hx rfl (hb hby at_242) rfl ?_
                  show Steps p.tables e below (T125.setTop (mkF m 244 _ [(.int (0 : Int32))])) _
                  refine XS.iload X125.here hx rfl (hb hby at_244) rfl ?_
                  show Steps p.tables e below (T125.setTop (mkF m 246 _ [(.int (0 : Int32)), (.int (0 : Int32))])) _
                  refine XS.icmpNo X125.here hx rfl (hb hby at_246) rfl (teq (rfl : (0 : Int32) = (0 : Int32))).2 ?_
                  show Steps p.tables e below (T125.setTop (mkF m 249 _ [])) _
                  refine XS.iload X125.here hx rfl (hb hby at_249) rfl ?_
                  show Steps p.tables e below (T125.setTop (mkF m 251 _ [(.int (1 : Int32))])) _
                  refine XS.iload X125.here hx rfl (hb hby at_251) rfl ?_
                  show Steps p.tables e below (T125.setTop (mkF m 253 _ [(.int (1 : Int32)), (.int (1 : Int32))])) _
                  refine XS.icmpYes X125.here hx rfl (pc0 := 253) (pc' := 258) rfl (hb hby at_253) rfl (teq (rfl : (1 : Int32) = (1 : Int32))).1 (by decide) (by decide) ?_
                  show Steps p.tables e below (T125.setTop (mkF m 258 _ [])) _
                  refine XS.aload X125.here hx rfl (hb hby at_258) rfl rfl ?_
                  exact kt
                obtain ⟨cq126, kq126, q126a, q126b, q126c⟩ := isOf hZ rfl M125.1
                obtain ⟨_, _, ⟨T126, L126, k126, n126⟩, -, X126, ⟨Lc126, hQ126, l126, y126, z126⟩, st126⟩ := X125.virtualBack hx (y := (⟨"com/example/faregraph/faregraph/search/Members", "count", "()I"⟩ : MethodName)) (z := (⟨"com/example/faregraph/faregraph/search/Members", "count", "()I"⟩ : MethodName)) hown (mvT hZ (hw _ (List.mem_of_getElem? (i := 23) rfl))) (mvT hZ (hw _ (List.mem_of_getElem? (i := 24) rfl))) (notFace_of_selects (args := #[]) (mvT hZ (hw _ (List.mem_of_getElem? (i := 26) rfl)))) (mvT hZ (hw _ (List.mem_of_getElem? (i := 26) rfl))) (mvT hZ (hw _ (List.mem_of_getElem? (i := 25) rfl))) (by decide) (backOf (W := 0) (rm4 l Z a0 hw [] b120 mb mc nn (((0 : Int32) + (1 : Int32)) + (1 : Int32)) (own_upd (own_upd (fun _ => (0 : Int32)) (aa).toNatClampNeg 1) (dd).toNatClampNeg 1) (own_upd (own_upd (fun _ => (0 : Int32)) ((0 : Int32)).toNatClampNeg aa) (((0 : Int32) + (1 : Int32))).toNatClampNeg dd) T125.heap n0 (Nat.le_trans (Nat.le_trans (Nat.le_trans (Nat.le_trans (Nat.le_trans (Nat.le_trans (Nat.le_trans Z0 E117.1) (Keep.of_wr W118).1) (Keep.of_wr W119).1) E120.1) KK121.1) KK122.1) KK125.1) M125) hZ (hw _ (List.mem_of_getElem? (i := 27) rfl)) (hw _ (List.mem_of_getElem? (i := 4) rfl)) (by decide) (by decide)) q126a q126c (g := (mkF m 260 #[.val (.int p1), .val (.int p2), .val (.int p3), .val (.int p4), .val (.int p5), .val (.int nn), .val (.int aa), .val (.int bb), .val (.int cc), .val (.int dd), .val (.int (0 : Int32)), .val (.int (0 : Int32)), .val (.int (1 : Int32)), .val (.ref b117), .val (.int (((0 : Int32) + (1 : Int32)) + (1 : Int32))), .val (.ref b120), .val (.int (1 : Int32)), .val (.int (0 : Int32)), .val (.int (0 : Int32)), .val (.int (1 : Int32)), .unset] [(.ref b120)])) rfl (by rw [hml]; rfl) (Steps.refl _) (argsL := []) (rest := []) (lenOf pd_3 rfl) rfl (by show 2 * 0 + _ ≤ _; exact Nat.le_of_eq rfl) (hb hby at_260) (fun _ _ => ⟨rfl, rfl, (by decide : 4 + 0 ≤ _), (by decide : 23 + 0 ≤ _)⟩)
                dsimp only [Pt.U, Pt.locs, Pt.cells, Pt.slots] at X126 l126 y126 z126 st126 hQ126
                subst l126 y126 z126
                obtain ⟨rfl, N126q, e126⟩ := hQ126
                have N126 := Fr.app N125 N126q
                refine own_pre (B := (T126.setTop (mkF m 273 #[.val (.int p1), .val (.int p2), .val (.int p3), .val (.int p4), .val (.int p5), .val (.int nn), .val (.int aa), .val (.int bb), .val (.int cc), .val (.int dd), .val (.int (0 : Int32)), .val (.int (0 : Int32)), .val (.int (1 : Int32)), .val (.ref b117), .val (.int (((0 : Int32) + (1 : Int32)) + (1 : Int32))), .val (.ref b120), .val (.int (1 : Int32)), .val (.int (0 : Int32)), .val (.int (0 : Int32)), .val (.int (1 : Int32)), .unset] [(.int (0 : Int32)), (.ref b120)]))) (fun t kt => ?_) ?_
                · refine st126.trans ?_
                  show Steps p.tables e below (T126.setTop (mkF m 263 _ [(.int (((0 : Int32) + (1 : Int32)) + (1 : Int32)))])) _
                  refine XS.iload X126.here hx rfl (hb hby at_263) rfl ?_
                  show Steps p.tables e below (T126.setTop (mkF m 265 _ [(.int (((0 : Int32) + (1 : Int32)) + (1 : Int32))), (.int (((0 : Int32) + (1 : Int32)) + (1 : Int32)))])) _
                  refine XS.icmpYes X126.here hx rfl (pc0 := 265) (pc' := 270) rfl (hb hby at_265) rfl (teq (rfl : (((0 : Int32) + (1 : Int32)) + (1 : Int32)) = (((0 : Int32) + (1 : Int32)) + (1 : Int32)))).1 (by decide) (by decide) ?_
                  show Steps p.tables e below (T126.setTop (mkF m 270 _ [])) _
                  refine XS.aload X126.here hx rfl (hb hby at_270) rfl rfl ?_
                  show Steps p.tables e below (T126.setTop (mkF m 272 _ [(.ref b120)])) _
                  refine XS.iconst X126.here hx rfl (hb hby at_272) ?_
                  exact kt
                have pg127 : (own_upd (own_upd (fun _ => (0 : Int32)) ((0 : Int32)).toNatClampNeg aa) (((0 : Int32) + (1 : Int32))).toNatClampNeg dd) ((0 : Int32)).toNatClampNeg = aa := ((own_upd_ne (by decide)).trans (own_upd_hit (by decide)))
                obtain ⟨cq127, kq127, q127a, q127b, q127c⟩ := isOf hZ e126 M125.1
                obtain ⟨_, _, ⟨T127, L127, k127, n127⟩, -, X127, ⟨Lc127, hQ127, l127, y127, z127⟩, st127⟩ := X126.virtualBack hx (y := (⟨"com/example/faregraph/faregraph/search/Members", "get", "(I)I"⟩ : MethodName)) (z := (⟨"com/example/faregraph/faregraph/search/Members", "get", "(I)I"⟩ : MethodName)) hown (mvT hZ (hw _ (List.mem_of_getElem? (i := 28) rfl))) (mvT hZ (hw _ (List.mem_of_getElem? (i := 29) rfl))) (notFace_of_selects (args := #[]) (mvT hZ (hw _ (List.mem_of_getElem? (i := 31) rfl)))) (mvT hZ (hw _ (List.mem_of_getElem? (i := 31) rfl))) (mvT hZ (hw _ (List.mem_of_getElem? (i := 30) rfl))) (by decide) (backOf (W := 0) (rm5 l Z a0 hw [] b120 mb mc nn (((0 : Int32) + (1 : Int32)) + (1 : Int32)) (own_upd (own_upd (fun _ => (0 : Int32)) (aa).toNatClampNeg 1) (dd).toNatClampNeg 1) (own_upd (own_upd (fun _ => (0 : Int32)) ((0 : Int32)).toNatClampNeg aa) (((0 : Int32) + (1 : Int32))).toNatClampNeg dd) (0 : Int32) aa T125.heap n0 (Nat.le_trans (Nat.le_trans (Nat.le_trans (Nat.le_trans (Nat.le_trans (Nat.le_trans (Nat.le_trans Z0 E117.1) (Keep.of_wr W118).1) (Keep.of_wr W119).1) E120.1) KK121.1) KK122.1) KK125.1) M125 (own_rng' (by have e : ((0 : Int32)).toInt = 0 := (by decide); omega)) pg127) hZ (hw _ (List.mem_of_getElem? (i := 32) rfl)) (hw _ (List.mem_of_getElem? (i := 4) rfl)) (by decide) (by decide)) q127a q127c (g := (mkF m 273 #[.val (.int p1), .val (.int p2), .val (.int p3), .val (.int p4), .val (.int p5), .val (.int nn), .val (.int aa), .val (.int bb), .val (.int cc), .val (.int dd), .val (.int (0 : Int32)), .val (.int (0 : Int32)), .val (.int (1 : Int32)), .val (.ref b117), .val (.int (((0 : Int32) + (1 : Int32)) + (1 : Int32))), .val (.ref b120), .val (.int (1 : Int32)), .val (.int (0 : Int32)), .val (.int (0 : Int32)), .val (.int (1 : Int32)), .unset] [(.int (0 : Int32)), (.ref b120)])) rfl (by rw [hml]; rfl) (Steps.refl _) (argsL := [(.int (0 : Int32))]) (rest := []) (lenOf pd_4 rfl) rfl (by show 2 * 0 + _ ≤ _; exact Nat.le_of_eq rfl) (hb hby at_273) (fun _ _ => ⟨rfl, e126, (by decide : 4 + 0 ≤ _), (by decide : 23 + 0 ≤ _)⟩)
                dsimp only [Pt.U, Pt.locs, Pt.cells, Pt.slots] at X127 l127 y127 z127 st127 hQ127
                subst l127 y127 z127
                obtain ⟨rfl, N127q, e127⟩ := hQ127
                have N127 := Fr.app N126 N127q
                refine own_pre (B := (T127.setTop (mkF m 279 #[.val (.int p1), .val (.int p2), .val (.int p3), .val (.int p4), .val (.int p5), .val (.int nn), .val (.int aa), .val (.int bb), .val (.int cc), .val (.int dd), .val (.int (0 : Int32)), .val (.int (0 : Int32)), .val (.int (1 : Int32)), .val (.ref b117), .val (.int (((0 : Int32) + (1 : Int32)) + (1 : Int32))), .val (.ref b120), .val (.int (1 : Int32)), .val (.int (0 : Int32)), .val (.int (0 : Int32)), .val (.int (1 : Int32)), .unset] [(.int (0 : Int32)), (.ref b117), (.int aa)]))) (fun t kt => ?_) ?_
                · refine st127.trans ?_
                  show Steps p.tables e below (T127.setTop (mkF m 276 _ [(.int aa)])) _
                  refine XS.aload X127.here hx rfl (hb hby at_276) rfl rfl ?_
                  show Steps p.tables e below (T127.setTop (mkF m 278 _ [(.ref b117), (.int aa)])) _
                  refine XS.iconst X127.here hx rfl (hb hby at_278) ?_
                  exact kt
                have pe129 : (own_upd (own_upd (fun _ => (0 : Int32)) ((0 : Int32)).toNatClampNeg aa) (((0 : Int32) + (1 : Int32))).toNatClampNeg dd) ((0 : Int32)).toNatClampNeg = aa := ((own_upd_ne (by decide)).trans (own_upd_hit (by decide)))
                obtain ⟨cl128, Ar128, S128, P128, H128⟩ := id V_b117_125
                have in128 := inb_of S128 (⟨by decide, by decide⟩ : ¬ (0 : Int32) < 0 ∧ (0 : Int32) < (4 : Int32))
                have at128 : cl128.slots[((0 : Int32)).toNatClampNeg]? = some (.int aa) := (H128 _ (Nat.lt_of_not_le fun y => in128 (Or.inr y))).trans (congrArg (fun z => some (Value.int z)) pe129)
                refine own_pre (B := (T127.setTop (mkF m 304 #[.val (.int p1), .val (.int p2), .val (.int p3), .val (.int p4), .val (.int p5), .val (.int nn), .val (.int aa), .val (.int bb), .val (.int cc), .val (.int dd), .val (.int (0 : Int32)), .val (.int (0 : Int32)), .val (.int (1 : Int32)), .val (.ref b117), .val (.int (((0 : Int32) + (1 : Int32)) + (1 : Int32))), .val (.ref b120), .val (.int (1 : Int32)), .val (.int (0 : Int32)), .val (.int (0 : Int32)), .val (.int (1 : Int32)), .val (.int (1 : Int32))] [(.int (1 : Int32)), (.ref b120)]))) (fun t kt => ?_) ?_
                · show Steps p.tables e below (T127.setTop (mkF m 279 _ [(.int (0 : Int32)), (.ref b117), (.int aa)])) _
                  refine X127.iaload hx (j := (0 : Int32)) (v := (.int aa)) (by rw [e127]; exact Ar128.1) (State.isArrayOf_alike hZ.alike Ar128.2.1) Ar128.2.2 in128 at128 (g := (mkF m 279 #[.val (.int p1), .val (.int p2), .val (.int p3), .val (.int p4), .val (.int p5), .val (.int nn), .val (.int aa), .val (.int bb), .val (.int cc), .val (.int dd), .val (.int (0 : Int32)), .val (.int (0 : Int32)), .val (.int (1 : Int32)), .val (.ref b117), .val (.int (((0 : Int32) + (1 : Int32)) + (1 : Int32))), .val (.ref b120), .val (.int (1 : Int32)), .val (.int (0 : Int32)), .val (.int (0 : Int32)), .val (.int (1 : Int32)), .unset] [(.int (0 : Int32)), (.ref b117), (.int aa)])) rfl rfl (hb hby at_279) _ ?_
                  show Steps p.tables e below (T127.setTop (mkF m 280 _ [(.int aa), (.int aa)])) _
                  refine XS.icmpNo X127.here hx rfl (hb hby at_280) rfl (teq (rfl : aa = aa)).2 ?_
                  show Steps p.tables e below (T127.setTop (mkF m 283 _ [])) _
                  refine XS.iconst X127.here hx rfl (hb hby at_283) ?_
                  show Steps p.tables e below (T127.setTop (mkF m 284 _ [(.int (1 : Int32))])) _
                  refine XS.goto X127.here hx rfl (pc0 := 284) (pc' := 288) rfl (hb hby at_284) (by decide) (by decide) ?_
                  show Steps p.tables e below (T127.setTop (mkF m 288 _ [(.int (1 : Int32))])) _
                  refine XS.istore X127.here hx rfl (hb hby at_288) rfl (l' := #[.val (.int p1), .val (.int p2), .val (.int p3), .val (.int p4), .val (.int p5), .val (.int nn), .val (.int aa), .val (.int bb), .val (.int cc), .val (.int dd), .val (.int (0 : Int32)), .val (.int (0 : Int32)), .val (.int (1 : Int32)), .val (.ref b117), .val (.int (((0 : Int32) + (1 : Int32)) + (1 : Int32))), .val (.ref b120), .val (.int (1 : Int32)), .val (.int (0 : Int32)), .val (.int (0 : Int32)), .val (.int (1 : Int32)), .val (.int (1 : Int32))]) rfl ?_
                  show Steps p.tables e below (T127.setTop (mkF m 290 _ [])) _
                  refine XS.iload X127.here hx rfl (hb hby at_290) rfl ?_
                  show Steps p.tables e below (T127.setTop (mkF m 292 _ [(.int (((0 : Int32) + (1 : Int32)) + (1 : Int32)))])) _
                  refine XS.iconst X127.here hx rfl (hb hby at_292) ?_
                  show Steps p.tables e below (T127.setTop (mkF m 293 _ [(.int (1 : Int32)), (.int (((0 : Int32) + (1 : Int32)) + (1 : Int32)))])) _
                  refine XS.icmpNo X127.here hx rfl (hb hby at_293) rfl (tlt ((by decide) : (1 : Int32) < (((0 : Int32) + (1 : Int32)) + (1 : Int32)))).2.2.2 ?_
                  show Steps p.tables e below (T127.setTop (mkF m 296 _ [])) _
                  refine XS.iload X127.here hx rfl (hb hby at_296) rfl ?_
                  show Steps p.tables e below (T127.setTop (mkF m 298 _ [(.int (1 : Int32))])) _
                  refine XS.ifNo X127.here hx rfl (hb hby at_298) rfl ((if0 _ _).trans (feq ((by decide) : ¬ ((1 : Int32) = (0 : Int32)))).1) ?_
                  show Steps p.tables e below (T127.setTop (mkF m 301 _ [])) _
                  refine XS.aload X127.here hx rfl (hb hby at_301) rfl rfl ?_
                  show Steps p.tables e below (T127.setTop (mkF m 303 _ [(.ref b120)])) _
                  refine XS.iconst X127.here hx rfl (hb hby at_303) ?_
                  exact kt
                have pg130 : (own_upd (own_upd (fun _ => (0 : Int32)) ((0 : Int32)).toNatClampNeg aa) (((0 : Int32) + (1 : Int32))).toNatClampNeg dd) ((1 : Int32)).toNatClampNeg = dd := (own_upd_hit (by decide))
                obtain ⟨cq130, kq130, q130a, q130b, q130c⟩ := isOf hZ e127 M125.1
                obtain ⟨_, _, ⟨T130, L130, k130, n130⟩, -, X130, ⟨Lc130, hQ130, l130, y130, z130⟩, st130⟩ := X127.virtualBack hx (y := (⟨"com/example/faregraph/faregraph/search/Members", "get", "(I)I"⟩ : MethodName)) (z := (⟨"com/example/faregraph/faregraph/search/Members", "get", "(I)I"⟩ : MethodName)) hown (mvT hZ (hw _ (List.mem_of_getElem? (i := 28) rfl))) (mvT hZ (hw _ (List.mem_of_getElem? (i := 29) rfl))) (notFace_of_selects (args := #[]) (mvT hZ (hw _ (List.mem_of_getElem? (i := 31) rfl)))) (mvT hZ (hw _ (List.mem_of_getElem? (i := 31) rfl))) (mvT hZ (hw _ (List.mem_of_getElem? (i := 30) rfl))) (by decide) (backOf (W := 0) (rm5 l Z a0 hw [] b120 mb mc nn (((0 : Int32) + (1 : Int32)) + (1 : Int32)) (own_upd (own_upd (fun _ => (0 : Int32)) (aa).toNatClampNeg 1) (dd).toNatClampNeg 1) (own_upd (own_upd (fun _ => (0 : Int32)) ((0 : Int32)).toNatClampNeg aa) (((0 : Int32) + (1 : Int32))).toNatClampNeg dd) (1 : Int32) dd T125.heap n0 (Nat.le_trans (Nat.le_trans (Nat.le_trans (Nat.le_trans (Nat.le_trans (Nat.le_trans (Nat.le_trans Z0 E117.1) (Keep.of_wr W118).1) (Keep.of_wr W119).1) E120.1) KK121.1) KK122.1) KK125.1) M125 (own_rng' (by have e : ((1 : Int32)).toInt = 1 := (by decide); omega)) pg130) hZ (hw _ (List.mem_of_getElem? (i := 32) rfl)) (hw _ (List.mem_of_getElem? (i := 4) rfl)) (by decide) (by decide)) q130a q130c (g := (mkF m 304 #[.val (.int p1), .val (.int p2), .val (.int p3), .val (.int p4), .val (.int p5), .val (.int nn), .val (.int aa), .val (.int bb), .val (.int cc), .val (.int dd), .val (.int (0 : Int32)), .val (.int (0 : Int32)), .val (.int (1 : Int32)), .val (.ref b117), .val (.int (((0 : Int32) + (1 : Int32)) + (1 : Int32))), .val (.ref b120), .val (.int (1 : Int32)), .val (.int (0 : Int32)), .val (.int (0 : Int32)), .val (.int (1 : Int32)), .val (.int (1 : Int32))] [(.int (1 : Int32)), (.ref b120)])) rfl (by rw [hml]; rfl) (Steps.refl _) (argsL := [(.int (1 : Int32))]) (rest := []) (lenOf pd_4 rfl) rfl (by show 2 * 0 + _ ≤ _; exact Nat.le_of_eq rfl) (hb hby at_304) (fun _ _ => ⟨rfl, e127, (by decide : 4 + 0 ≤ _), (by decide : 23 + 0 ≤ _)⟩)
                dsimp only [Pt.U, Pt.locs, Pt.cells, Pt.slots] at X130 l130 y130 z130 st130 hQ130
                subst l130 y130 z130
                obtain ⟨rfl, N130q, e130⟩ := hQ130
                have N130 := Fr.app N127 N130q
                refine own_pre (B := (T130.setTop (mkF m 310 #[.val (.int p1), .val (.int p2), .val (.int p3), .val (.int p4), .val (.int p5), .val (.int nn), .val (.int aa), .val (.int bb), .val (.int cc), .val (.int dd), .val (.int (0 : Int32)), .val (.int (0 : Int32)), .val (.int (1 : Int32)), .val (.ref b117), .val (.int (((0 : Int32) + (1 : Int32)) + (1 : Int32))), .val (.ref b120), .val (.int (1 : Int32)), .val (.int (0 : Int32)), .val (.int (0 : Int32)), .val (.int (1 : Int32)), .val (.int (1 : Int32))] [(.int (1 : Int32)), (.ref b117), (.int dd)]))) (fun t kt => ?_) ?_
                · refine st130.trans ?_
                  show Steps p.tables e below (T130.setTop (mkF m 307 _ [(.int dd)])) _
                  refine XS.aload X130.here hx rfl (hb hby at_307) rfl rfl ?_
                  show Steps p.tables e below (T130.setTop (mkF m 309 _ [(.ref b117), (.int dd)])) _
                  refine XS.iconst X130.here hx rfl (hb hby at_309) ?_
                  exact kt
                have pe132 : (own_upd (own_upd (fun _ => (0 : Int32)) ((0 : Int32)).toNatClampNeg aa) (((0 : Int32) + (1 : Int32))).toNatClampNeg dd) ((1 : Int32)).toNatClampNeg = dd := (own_upd_hit (by decide))
                obtain ⟨cl131, Ar131, S131, P131, H131⟩ := id V_b117_125
                have in131 := inb_of S131 (⟨by decide, by decide⟩ : ¬ (1 : Int32) < 0 ∧ (1 : Int32) < (4 : Int32))
                have at131 : cl131.slots[((1 : Int32)).toNatClampNeg]? = some (.int dd) := (H131 _ (Nat.lt_of_not_le fun y => in131 (Or.inr y))).trans (congrArg (fun z => some (Value.int z)) pe132)
                refine own_pre (B := (T130.setTop (mkF m 385 #[.val (.int p1), .val (.int p2), .val (.int p3), .val (.int p4), .val (.int p5), .val (.int nn), .val (.int aa), .val (.int bb), .val (.int cc), .val (.int dd), .val (.int (0 : Int32)), .val (.int (0 : Int32)), .val (.int (1 : Int32)), .val (.ref b117), .val (.int (((0 : Int32) + (1 : Int32)) + (1 : Int32))), .val (.ref b120), .val (.int (1 : Int32)), .val (.int (0 : Int32)), .val (.int (0 : Int32)), .val (.int (1 : Int32)), .val (.int (1 : Int32))] [(.int (1 : Int32))]))) (fun t kt => ?_) ?_
                · show Steps p.tables e below (T130.setTop (mkF m 310 _ [(.int (1 : Int32)), (.ref b117), (.int dd)])) _
                  refine X130.iaload hx (j := (1 : Int32)) (v := (.int dd)) (by rw [e130]; exact Ar131.1) (State.isArrayOf_alike hZ.alike Ar131.2.1) Ar131.2.2 in131 at131 (g := (mkF m 310 #[.val (.int p1), .val (.int p2), .val (.int p3), .val (.int p4), .val (.int p5), .val (.int nn), .val (.int aa), .val (.int bb), .val (.int cc), .val (.int dd), .val (.int (0 : Int32)), .val (.int (0 : Int32)), .val (.int (1 : Int32)), .val (.ref b117), .val (.int (((0 : Int32) + (1 : Int32)) + (1 : Int32))), .val (.ref b120), .val (.int (1 : Int32)), .val (.int (0 : Int32)), .val (.int (0 : Int32)), .val (.int (1 : Int32)), .val (.int (1 : Int32))] [(.int (1 : Int32)), (.ref b117), (.int dd)])) rfl rfl (hb hby at_310) _ ?_
                  show Steps p.tables e below (T130.setTop (mkF m 311 _ [(.int dd), (.int dd)])) _
                  refine XS.icmpNo X130.here hx rfl (hb hby at_311) rfl (teq (rfl : dd = dd)).2 ?_
                  show Steps p.tables e below (T130.setTop (mkF m 314 _ [])) _
                  refine XS.iconst X130.here hx rfl (hb hby at_314) ?_
                  show Steps p.tables e below (T130.setTop (mkF m 315 _ [(.int (1 : Int32))])) _
                  refine XS.goto X130.here hx rfl (pc0 := 315) (pc' := 319) rfl (hb hby at_315) (by decide) (by decide) ?_
                  show Steps p.tables e below (T130.setTop (mkF m 319 _ [(.int (1 : Int32))])) _
                  refine XS.istore X130.here hx rfl (hb hby at_319) rfl (l' := #[.val (.int p1), .val (.int p2), .val (.int p3), .val (.int p4), .val (.int p5), .val (.int nn), .val (.int aa), .val (.int bb), .val (.int cc), .val (.int dd), .val (.int (0 : Int32)), .val (.int (0 : Int32)), .val (.int (1 : Int32)), .val (.ref b117), .val (.int (((0 : Int32) + (1 : Int32)) + (1 : Int32))), .val (.ref b120), .val (.int (1 : Int32)), .val (.int (0 : Int32)), .val (.int (0 : Int32)), .val (.int (1 : Int32)), .val (.int (1 : Int32))]) rfl ?_
                  show Steps p.tables e below (T130.setTop (mkF m 321 _ [])) _
                  refine XS.iload X130.here hx rfl (hb hby at_321) rfl ?_
                  show Steps p.tables e below (T130.setTop (mkF m 323 _ [(.int (((0 : Int32) + (1 : Int32)) + (1 : Int32)))])) _
                  refine XS.iconst X130.here hx rfl (hb hby at_323) ?_
                  show Steps p.tables e below (T130.setTop (mkF m 324 _ [(.int (2 : Int32)), (.int (((0 : Int32) + (1 : Int32)) + (1 : Int32)))])) _
                  refine XS.icmpYes X130.here hx rfl (pc0 := 324) (pc' := 352) rfl (hb hby at_324) rfl (flt ((by decide) : ¬ ((2 : Int32) < (((0 : Int32) + (1 : Int32)) + (1 : Int32))))).2.2.2 (by decide) (by decide) ?_
                  show Steps p.tables e below (T130.setTop (mkF m 352 _ [])) _
                  refine XS.iload X130.here hx rfl (hb hby at_352) rfl ?_
                  show Steps p.tables e below (T130.setTop (mkF m 354 _ [(.int (((0 : Int32) + (1 : Int32)) + (1 : Int32)))])) _
                  refine XS.iconst X130.here hx rfl (hb hby at_354) ?_
                  show Steps p.tables e below (T130.setTop (mkF m 355 _ [(.int (3 : Int32)), (.int (((0 : Int32) + (1 : Int32)) + (1 : Int32)))])) _
                  refine XS.icmpYes X130.here hx rfl (pc0 := 355) (pc' := 383) rfl (hb hby at_355) rfl (flt ((by decide) : ¬ ((3 : Int32) < (((0 : Int32) + (1 : Int32)) + (1 : Int32))))).2.2.2 (by decide) (by decide) ?_
                  show Steps p.tables e below (T130.setTop (mkF m 383 _ [])) _
                  refine XS.iload X130.here hx rfl (hb hby at_383) rfl ?_
                  exact kt
                exact own_fin X130 (some (.int (1 : Int32))) (fun h => by rw [Bd.returns] at h; cases h) (BodyLoose.notSynchronized Bd) e130 (fun fs hr => retN X130 hx (t := .boolean) Bd.returns (by simp) (hb hby at_385) hr) ⟨rfl, N130⟩ (by decide) (by decide)
              · refine own_pre (B := (s₁.setTop (mkF m 109 #[.val (.int p1), .val (.int p2), .val (.int p3), .val (.int p4), .val (.int p5), .val (.int nn), .val (.int aa), .val (.int bb), .val (.int cc), .val (.int dd), .val (.int (0 : Int32)), .val (.int (0 : Int32)), .val (.int (0 : Int32)), .unset, .unset, .unset, .unset, .unset, .unset, .unset, .unset] [(.int (4 : Int32))]))) (fun t kt => ?_) ?_
                · show Steps p.tables e below (s₁.setTop (mkF m 108 _ [])) _
                  refine XS.iconst X0.here hx rfl (hb hby at_108) ?_
                  exact kt
                obtain ⟨T133, h133, k133, X133, e133, E133, A133, st133⟩ := newP X0 hx hZ (hw _ (List.mem_of_getElem? (i := 1) rfl)) e0 (g := (mkF m 109 #[.val (.int p1), .val (.int p2), .val (.int p3), .val (.int p4), .val (.int p5), .val (.int nn), .val (.int aa), .val (.int bb), .val (.int cc), .val (.int dd), .val (.int (0 : Int32)), .val (.int (0 : Int32)), .val (.int (0 : Int32)), .unset, .unset, .unset, .unset, .unset, .unset, .unset, .unset] [(.int (4 : Int32))])) rfl (hb hby at_109) rfl (by decide) (cap := 4) (by decide) (by decide) (by decide) (by decide)
                obtain ⟨b133, g133⟩ : ∃ z, z = h0.size := ⟨_, rfl⟩
                have g_b133 : n0 ≤ b133 := Nat.le_trans Z0 (Nat.le_of_eq g133.symm)
                have sz_b133 : h0.size ≤ b133 := Nat.le_trans (Keep.refl h0 []).1 (Nat.le_of_eq g133.symm)
                rw [← g133] at A133 st133
                have K133 := Keep.ext (Keep.refl h0 []) E133
                have V_b133 := own_Arr.new A133 (by decide) rfl
                refine own_pre (B := (T133.setTop (mkF m 122 #[.val (.int p1), .val (.int p2), .val (.int p3), .val (.int p4), .val (.int p5), .val (.int nn), .val (.int aa), .val (.int bb), .val (.int cc), .val (.int dd), .val (.int (0 : Int32)), .val (.int (0 : Int32)), .val (.int (0 : Int32)), .val (.ref b133), .val (.int (0 : Int32)), .unset, .unset, .unset, .unset, .unset, .unset] [(.int aa), (.int (0 : Int32)), (.ref b133)]))) (fun t kt => ?_) ?_
                · show Steps p.tables e below (s₁.setTop (mkF m 109 _ [(.int (4 : Int32))])) _
                  refine st133 _ ?_
                  show Steps p.tables e below (T133.setTop (mkF m 111 _ [(.ref b133)])) _
                  refine XS.astore X133.here hx rfl (hb hby at_111) rfl rfl (l' := #[.val (.int p1), .val (.int p2), .val (.int p3), .val (.int p4), .val (.int p5), .val (.int nn), .val (.int aa), .val (.int bb), .val (.int cc), .val (.int dd), .val (.int (0 : Int32)), .val (.int (0 : Int32)), .val (.int (0 : Int32)), .val (.ref b133), .unset, .unset, .unset, .unset, .unset, .unset, .unset]) rfl ?_
                  show Steps p.tables e below (T133.setTop (mkF m 113 _ [])) _
                  refine XS.iconst X133.here hx rfl (hb hby at_113) ?_
                  show Steps p.tables e below (T133.setTop (mkF m 114 _ [(.int (0 : Int32))])) _
                  refine XS.istore X133.here hx rfl (hb hby at_114) rfl (l' := #[.val (.int p1), .val (.int p2), .val (.int p3), .val (.int p4), .val (.int p5), .val (.int nn), .val (.int aa), .val (.int bb), .val (.int cc), .val (.int dd), .val (.int (0 : Int32)), .val (.int (0 : Int32)), .val (.int (0 : Int32)), .val (.ref b133), .val (.int (0 : Int32)), .unset, .unset, .unset, .unset, .unset, .unset]) rfl ?_
                  show Steps p.tables e below (T133.setTop (mkF m 116 _ [])) _
                  refine XS.aload X133.here hx rfl (hb hby at_116) rfl rfl ?_
                  show Steps p.tables e below (T133.setTop (mkF m 118 _ [(.ref b133)])) _
                  refine XS.iload X133.here hx rfl (hb hby at_118) rfl ?_
                  show Steps p.tables e below (T133.setTop (mkF m 120 _ [(.int (0 : Int32)), (.ref b133)])) _
                  refine XS.iload X133.here hx rfl (hb hby at_120) rfl ?_
                  exact kt
                obtain ⟨cl134, Ar134, S134, P134, H134⟩ := id V_b133
                have in134 := inb_of S134 (⟨by decide, by decide⟩ : ¬ (0 : Int32) < 0 ∧ (0 : Int32) < (4 : Int32))
                obtain ⟨T134, h134, X134, e134, W134, st134⟩ := stI X133 hx hZ e133 Ar134 (j := (0 : Int32)) in134 (g := (mkF m 122 #[.val (.int p1), .val (.int p2), .val (.int p3), .val (.int p4), .val (.int p5), .val (.int nn), .val (.int aa), .val (.int bb), .val (.int cc), .val (.int dd), .val (.int (0 : Int32)), .val (.int (0 : Int32)), .val (.int (0 : Int32)), .val (.ref b133), .val (.int (0 : Int32)), .unset, .unset, .unset, .unset, .unset, .unset] [(.int aa), (.int (0 : Int32)), (.ref b133)])) rfl rfl (hb hby at_122)
                have V_b133_134 := V_b133.set W134
                have N134 := Fr.snoc X134 N0 g_b133
                have K134 := Keep.wr K133 W134 (Or.inr sz_b133)
                refine own_pre (B := (T134.setTop (mkF m 183 #[.val (.int p1), .val (.int p2), .val (.int p3), .val (.int p4), .val (.int p5), .val (.int nn), .val (.int aa), .val (.int bb), .val (.int cc), .val (.int dd), .val (.int (0 : Int32)), .val (.int (0 : Int32)), .val (.int (0 : Int32)), .val (.ref b133), .val (.int ((0 : Int32) + (1 : Int32))), .unset, .unset, .unset, .unset, .unset, .unset] []))) (fun t kt => ?_) ?_
                · show Steps p.tables e below (T133.setTop (mkF m 122 _ [(.int aa), (.int (0 : Int32)), (.ref b133)])) _
                  refine st134 _ ?_
                  show Steps p.tables e below (T134.setTop (mkF m 123 _ [])) _
                  refine XS.iload X134.here hx rfl (hb hby at_123) rfl ?_
                  show Steps p.tables e below (T134.setTop (mkF m 125 _ [(.int (0 : Int32))])) _
                  refine XS.iconst X134.here hx rfl (hb hby at_125) ?_
                  show Steps p.tables e below (T134.setTop (mkF m 126 _ [(.int (1 : Int32)), (.int (0 : Int32))])) _
                  refine XS.iadd X134.here hx rfl (hb hby at_126) rfl ?_
                  show Steps p.tables e below (T134.setTop (mkF m 127 _ [(.int ((0 : Int32) + (1 : Int32)))])) _
                  refine XS.istore X134.here hx rfl (hb hby at_127) rfl (l' := #[.val (.int p1), .val (.int p2), .val (.int p3), .val (.int p4), .val (.int p5), .val (.int nn), .val (.int aa), .val (.int bb), .val (.int cc), .val (.int dd), .val (.int (0 : Int32)), .val (.int (0 : Int32)), .val (.int (0 : Int32)), .val (.ref b133), .val (.int ((0 : Int32) + (1 : Int32))), .unset, .unset, .unset, .unset, .unset, .unset]) rfl ?_
                  show Steps p.tables e below (T134.setTop (mkF m 129 _ [])) _
                  refine XS.iload X134.here hx rfl (hb hby at_129) rfl ?_
                  show Steps p.tables e below (T134.setTop (mkF m 131 _ [(.int (0 : Int32))])) _
                  refine XS.ifYes X134.here hx rfl (pc0 := 131) (pc' := 147) rfl (hb hby at_131) rfl ((if0 _ _).trans (teq (rfl : (0 : Int32) = (0 : Int32))).1) (by decide) (by decide) ?_
                  show Steps p.tables e below (T134.setTop (mkF m 147 _ [])) _
                  refine XS.iload X134.here hx rfl (hb hby at_147) rfl ?_
                  show Steps p.tables e below (T134.setTop (mkF m 149 _ [(.int (0 : Int32))])) _
                  refine XS.ifYes X134.here hx rfl (pc0 := 149) (pc' := 165) rfl (hb hby at_149) rfl ((if0 _ _).trans (teq (rfl : (0 : Int32) = (0 : Int32))).1) (by decide) (by decide) ?_
                  show Steps p.tables e below (T134.setTop (mkF m 165 _ [])) _
                  refine XS.iload X134.here hx rfl (hb hby at_165) rfl ?_
                  show Steps p.tables e below (T134.setTop (mkF m 167 _ [(.int (0 : Int32))])) _
                  refine XS.ifYes X134.here hx rfl (pc0 := 167) (pc' := 183) rfl (hb hby at_167) rfl ((if0 _ _).trans (teq (rfl : (0 : Int32) = (0 : Int32))).1) (by decide) (by decide) ?_
                  exact kt
                obtain ⟨T135, h135, X135, e135, E135, A135, D135, -, st135⟩ := newO X134 hx hZ hown (hw _ (List.mem_of_getElem? (i := 2) rfl)) (hw _ (List.mem_of_getElem? (i := 3) rfl)) (hw _ (List.mem_of_getElem? (i := 4) rfl)) e134 (g := (mkF m 183 #[.val (.int p1), .val (.int p2), .val (.int p3), .val (.int p4), .val (.int p5), .val (.int nn), .val (.int aa), .val (.int bb), .val (.int cc), .val (.int dd), .val (.int (0 : Int32)), .val (.int (0 : Int32)), .val (.int (0 : Int32)), .val (.ref b133), .val (.int ((0 : Int32) + (1 : Int32))), .unset, .unset, .unset, .unset, .unset, .unset] [])) rfl (hb hby at_183) (by decide) (by decide)
                obtain ⟨b135, g135⟩ : ∃ z, z = h134.size := ⟨_, rfl⟩
                have ne_b133_b135 : b133 ≠ b135 := Nat.ne_of_lt (Nat.lt_of_lt_of_le V_b133_134.lt (Nat.le_of_eq g135.symm))
                have g_b135 : n0 ≤ b135 := Nat.le_trans (Nat.le_trans (Nat.le_trans Z0 E133.1) (Keep.of_wr W134).1) (Nat.le_of_eq g135.symm)
                have sz_b135 : h0.size ≤ b135 := Nat.le_trans K134.1 (Nat.le_of_eq g135.symm)
                rw [← g135] at A135 D135 st135
                have V_b133_135 := V_b133_134.ext E135
                have K135 := Keep.ext K134 E135
                have E_b135 := A135
                have F_member_b135 : Fld Z h135 b135 "com/example/faregraph/faregraph/search/Members" "member" "[Z" .null := D135 (Or.inr (hw _ (List.mem_of_getElem? (i := 13) rfl))) (ty := (.array .boolean)) (by decide)
                have F_members_b135 : Fld Z h135 b135 "com/example/faregraph/faregraph/search/Members" "members" "[I" .null := D135 (Or.inr (hw _ (List.mem_of_getElem? (i := 15) rfl))) (ty := (.array .int)) (by decide)
                have F_count_b135 : Fld Z h135 b135 "com/example/faregraph/faregraph/search/Members" "count" "I" (.int (0 : Int32)) := D135 (Or.inl (hw _ (List.mem_of_getElem? (i := 22) rfl))) (ty := .int) (by decide)
                refine own_pre (B := (T135.setTop (mkF m 189 #[.val (.int p1), .val (.int p2), .val (.int p3), .val (.int p4), .val (.int p5), .val (.int nn), .val (.int aa), .val (.int bb), .val (.int cc), .val (.int dd), .val (.int (0 : Int32)), .val (.int (0 : Int32)), .val (.int (0 : Int32)), .val (.ref b133), .val (.int ((0 : Int32) + (1 : Int32))), .unset, .unset, .unset, .unset, .unset, .unset] [(.int nn), (.ref b135), (.ref b135)]))) (fun t kt => ?_) ?_
                · show Steps p.tables e below (T134.setTop (mkF m 183 _ [])) _
                  refine st135 _ ?_
                  show Steps p.tables e below (T135.setTop (mkF m 186 _ [(.ref b135)])) _
                  refine XS.dup X135.here hx rfl (hb hby at_186) rfl rfl ?_
                  show Steps p.tables e below (T135.setTop (mkF m 187 _ [(.ref b135), (.ref b135)])) _
                  refine XS.iload X135.here hx rfl (hb hby at_187) rfl ?_
                  exact kt
                obtain ⟨_, _, ⟨T136, L136, k136, n136⟩, -, X136, ⟨Lc136, hQ136, l136, y136, z136⟩, st136⟩ := X135.specialBack hx (y := (⟨"com/example/faregraph/faregraph/search/Members", "<init>", "(I)V"⟩ : MethodName)) rfl hown (mvT hZ (hw _ (List.mem_of_getElem? (i := 5) rfl))) (mvT hZ (hw _ (List.mem_of_getElem? (i := 6) rfl))) (mvT hZ (hw _ (List.mem_of_getElem? (i := 7) rfl))) (by decide) (backOf (W := 1) (rm1 l Z a0 hw [] b135 nn h135 n0 (Nat.le_trans (Nat.le_trans (Nat.le_trans Z0 E133.1) (Keep.of_wr W134).1) E135.1) E_b135 F_member_b135 F_members_b135 F_count_b135 g_b135 hnn hcap) hZ (hw _ (List.mem_of_getElem? (i := 7) rfl)) (hw _ (List.mem_of_getElem? (i := 4) rfl)) (by decide) (by decide)) (g := (mkF m 189 #[.val (.int p1), .val (.int p2), .val (.int p3), .val (.int p4), .val (.int p5), .val (.int nn), .val (.int aa), .val (.int bb), .val (.int cc), .val (.int dd), .val (.int (0 : Int32)), .val (.int (0 : Int32)), .val (.int (0 : Int32)), .val (.ref b133), .val (.int ((0 : Int32) + (1 : Int32))), .unset, .unset, .unset, .unset, .unset, .unset] [(.int nn), (.ref b135), (.ref b135)])) rfl (by rw [hml]; rfl) (Steps.refl _) (a := b135) (argsL := [(.int nn)]) (rest := [(.ref b135)]) (lenOf pd_0 rfl) rfl (by show 2 * 0 + _ ≤ _; exact Nat.le_of_eq rfl) (hb hby at_189) (fun _ _ => ⟨rfl, e135, (by decide : 2 + 2 ≤ _), (by decide : 7 + 16 ≤ _)⟩)
                dsimp only [Pt.U, Pt.locs, Pt.cells, Pt.slots] at X136 l136 y136 z136 st136 hQ136
                subst l136 y136 z136
                obtain ⟨rfl, N136q, KK136, mb, mc, szb, szc, M136⟩ := hQ136
                have N136 := Fr.app N134 N136q
                have ne_b133_mb : b133 ≠ mb := Nat.ne_of_lt (Nat.lt_of_lt_of_le V_b133_135.lt szb)
                have ne_b133_mc : b133 ≠ mc := Nat.ne_of_lt (Nat.lt_of_lt_of_le V_b133_135.lt szc)
                have g_mb : n0 ≤ mb := Nat.le_trans (Nat.le_trans (Nat.le_trans (Nat.le_trans Z0 E133.1) (Keep.of_wr W134).1) E135.1) szb
                have g_mc : n0 ≤ mc := Nat.le_trans (Nat.le_trans (Nat.le_trans (Nat.le_trans Z0 E133.1) (Keep.of_wr W134).1) E135.1) szc
                have sz_mb : h0.size ≤ mb := Nat.le_trans K135.1 szb
                have sz_mc : h0.size ≤ mc := Nat.le_trans K135.1 szc
                have V_b133_136 := V_b133_135.keep KK136 (ninS ne_b133_b135 nin0)
                have E_b135_136 := E_b135.keep KK136
                have KC136 := Keep.trans K135 KK136 (allS (P := fun x => x ∈ [] ∨ h0.size ≤ x) (Or.inr sz_b135) all0)
                refine own_pre (B := (T136.setTop (mkF m 198 #[.val (.int p1), .val (.int p2), .val (.int p3), .val (.int p4), .val (.int p5), .val (.int nn), .val (.int aa), .val (.int bb), .val (.int cc), .val (.int dd), .val (.int (0 : Int32)), .val (.int (0 : Int32)), .val (.int (0 : Int32)), .val (.ref b133), .val (.int ((0 : Int32) + (1 : Int32))), .val (.ref b135), .unset, .unset, .unset, .unset, .unset] [(.int aa), (.ref b135)]))) (fun t kt => ?_) ?_
                · refine st136.trans ?_
                  show Steps p.tables e below (T136.setTop (mkF m 192 _ [(.ref b135)])) _
                  refine XS.astore X136.here hx rfl (hb hby at_192) rfl rfl (l' := #[.val (.int p1), .val (.int p2), .val (.int p3), .val (.int p4), .val (.int p5), .val (.int nn), .val (.int aa), .val (.int bb), .val (.int cc), .val (.int dd), .val (.int (0 : Int32)), .val (.int (0 : Int32)), .val (.int (0 : Int32)), .val (.ref b133), .val (.int ((0 : Int32) + (1 : Int32))), .val (.ref b135), .unset, .unset, .unset, .unset, .unset]) rfl ?_
                  show Steps p.tables e below (T136.setTop (mkF m 194 _ [])) _
                  refine XS.aload X136.here hx rfl (hb hby at_194) rfl rfl ?_
                  show Steps p.tables e below (T136.setTop (mkF m 196 _ [(.ref b135)])) _
                  refine XS.iload X136.here hx rfl (hb hby at_196) rfl ?_
                  exact kt
                have hk0 : ¬ (0 : Int32) < 0 ∧ (0 : Int32) < nn := own_rng' (by have e : ((0 : Int32)).toInt = 0 := (by decide); omega)
                have hf_aa : (fun _ => (0 : Int32)) (aa).toNatClampNeg = 0 := by
                  simp only [own_upd, own_tn]
                obtain ⟨cq137, kq137, q137a, q137b, q137c⟩ := isOf hZ rfl M136.1
                obtain ⟨_, _, ⟨T137, L137, k137, n137⟩, -, X137, ⟨Lc137, hQ137, l137, y137, z137⟩, st137⟩ := X136.virtualBack hx (y := (⟨"com/example/faregraph/faregraph/search/Members", "add", "(I)Z"⟩ : MethodName)) (z := (⟨"com/example/faregraph/faregraph/search/Members", "add", "(I)Z"⟩ : MethodName)) hown (mvT hZ (hw _ (List.mem_of_getElem? (i := 16) rfl))) (mvT hZ (hw _ (List.mem_of_getElem? (i := 17) rfl))) (notFace_of_selects (args := #[]) (mvT hZ (hw _ (List.mem_of_getElem? (i := 19) rfl)))) (mvT hZ (hw _ (List.mem_of_getElem? (i := 19) rfl))) (mvT hZ (hw _ (List.mem_of_getElem? (i := 18) rfl))) (by decide) (backOf (W := 0) (rm3n l Z a0 hw [] b135 mb mc nn (0 : Int32) (fun _ => (0 : Int32)) (fun _ => (0 : Int32)) aa T136.heap n0 (Nat.le_trans (Nat.le_trans (Nat.le_trans (Nat.le_trans Z0 E133.1) (Keep.of_wr W134).1) E135.1) KK136.1) M136 ra hk0 hf_aa) hZ (hw _ (List.mem_of_getElem? (i := 20) rfl)) (hw _ (List.mem_of_getElem? (i := 4) rfl)) (by decide) (by decide)) q137a q137c (g := (mkF m 198 #[.val (.int p1), .val (.int p2), .val (.int p3), .val (.int p4), .val (.int p5), .val (.int nn), .val (.int aa), .val (.int bb), .val (.int cc), .val (.int dd), .val (.int (0 : Int32)), .val (.int (0 : Int32)), .val (.int (0 : Int32)), .val (.ref b133), .val (.int ((0 : Int32) + (1 : Int32))), .val (.ref b135), .unset, .unset, .unset, .unset, .unset] [(.int aa), (.ref b135)])) rfl (by rw [hml]; rfl) (Steps.refl _) (argsL := [(.int aa)]) (rest := []) (lenOf pd_2 rfl) rfl (by show 2 * 0 + _ ≤ _; exact Nat.le_of_eq rfl) (hb hby at_198) (fun _ _ => ⟨rfl, rfl, (by decide : 4 + 0 ≤ _), (by decide : 23 + 0 ≤ _)⟩)
                dsimp only [Pt.U, Pt.locs, Pt.cells, Pt.slots] at X137 l137 y137 z137 st137 hQ137
                subst l137 y137 z137
                obtain ⟨rfl, N137q, KK137, M137⟩ := hQ137
                have N137 := Fr.app N136 N137q
                have V_b133_137 := V_b133_136.keep KK137 (ninS ne_b133_b135 (ninS ne_b133_mb (ninS ne_b133_mc nin0)))
                have E_b135_137 := E_b135_136.keep KK137
                have KC137 := Keep.trans KC136 KK137 (allS (P := fun x => x ∈ [] ∨ h0.size ≤ x) (Or.inr sz_b135) (allS (P := fun x => x ∈ [] ∨ h0.size ≤ x) (Or.inr sz_mb) (allS (P := fun x => x ∈ [] ∨ h0.size ≤ x) (Or.inr sz_mc) all0)))
                refine own_pre (B := (T137.setTop (mkF m 207 #[.val (.int p1), .val (.int p2), .val (.int p3), .val (.int p4), .val (.int p5), .val (.int nn), .val (.int aa), .val (.int bb), .val (.int cc), .val (.int dd), .val (.int (0 : Int32)), .val (.int (0 : Int32)), .val (.int (0 : Int32)), .val (.ref b133), .val (.int ((0 : Int32) + (1 : Int32))), .val (.ref b135), .val (.int (1 : Int32)), .unset, .unset, .unset, .unset] [(.int bb), (.ref b135)]))) (fun t kt => ?_) ?_
                · refine st137.trans ?_
                  show Steps p.tables e below (T137.setTop (mkF m 201 _ [(.int (1 : Int32))])) _
                  refine XS.istore X137.here hx rfl (hb hby at_201) rfl (l' := #[.val (.int p1), .val (.int p2), .val (.int p3), .val (.int p4), .val (.int p5), .val (.int nn), .val (.int aa), .val (.int bb), .val (.int cc), .val (.int dd), .val (.int (0 : Int32)), .val (.int (0 : Int32)), .val (.int (0 : Int32)), .val (.ref b133), .val (.int ((0 : Int32) + (1 : Int32))), .val (.ref b135), .val (.int (1 : Int32)), .unset, .unset, .unset, .unset]) rfl ?_
                  show Steps p.tables e below (T137.setTop (mkF m 203 _ [])) _
                  refine XS.aload X137.here hx rfl (hb hby at_203) rfl rfl ?_
                  show Steps p.tables e below (T137.setTop (mkF m 205 _ [(.ref b135)])) _
                  refine XS.iload X137.here hx rfl (hb hby at_205) rfl ?_
                  exact kt
                have hf_bb : (own_upd (fun _ => (0 : Int32)) (aa).toNatClampNeg 1) (bb).toNatClampNeg = 1 := by
                  simp only [own_upd, own_tn]
                  repeat' split
                  all_goals first | rfl | (exfalso; omega)
                obtain ⟨cq138, kq138, q138a, q138b, q138c⟩ := isOf hZ rfl M137.1
                obtain ⟨_, _, ⟨T138, L138, k138, n138⟩, -, X138, ⟨Lc138, hQ138, l138, y138, z138⟩, st138⟩ := X137.virtualBack hx (y := (⟨"com/example/faregraph/faregraph/search/Members", "add", "(I)Z"⟩ : MethodName)) (z := (⟨"com/example/faregraph/faregraph/search/Members", "add", "(I)Z"⟩ : MethodName)) hown (mvT hZ (hw _ (List.mem_of_getElem? (i := 16) rfl))) (mvT hZ (hw _ (List.mem_of_getElem? (i := 17) rfl))) (notFace_of_selects (args := #[]) (mvT hZ (hw _ (List.mem_of_getElem? (i := 19) rfl)))) (mvT hZ (hw _ (List.mem_of_getElem? (i := 19) rfl))) (mvT hZ (hw _ (List.mem_of_getElem? (i := 18) rfl))) (by decide) (backOf (W := 0) (rm3y l Z a0 hw [] b135 mb mc nn ((0 : Int32) + (1 : Int32)) (own_upd (fun _ => (0 : Int32)) (aa).toNatClampNeg 1) (own_upd (fun _ => (0 : Int32)) ((0 : Int32)).toNatClampNeg aa) bb T137.heap n0 (Nat.le_trans (Nat.le_trans (Nat.le_trans (Nat.le_trans (Nat.le_trans Z0 E133.1) (Keep.of_wr W134).1) E135.1) KK136.1) KK137.1) M137 rb hf_bb) hZ (hw _ (List.mem_of_getElem? (i := 20) rfl)) (hw _ (List.mem_of_getElem? (i := 4) rfl)) (by decide) (by decide)) q138a q138c (g := (mkF m 207 #[.val (.int p1), .val (.int p2), .val (.int p3), .val (.int p4), .val (.int p5), .val (.int nn), .val (.int aa), .val (.int bb), .val (.int cc), .val (.int dd), .val (.int (0 : Int32)), .val (.int (0 : Int32)), .val (.int (0 : Int32)), .val (.ref b133), .val (.int ((0 : Int32) + (1 : Int32))), .val (.ref b135), .val (.int (1 : Int32)), .unset, .unset, .unset, .unset] [(.int bb), (.ref b135)])) rfl (by rw [hml]; rfl) (Steps.refl _) (argsL := [(.int bb)]) (rest := []) (lenOf pd_2 rfl) rfl (by show 2 * 0 + _ ≤ _; exact Nat.le_of_eq rfl) (hb hby at_207) (fun _ _ => ⟨rfl, rfl, (by decide : 4 + 0 ≤ _), (by decide : 23 + 0 ≤ _)⟩)
                dsimp only [Pt.U, Pt.locs, Pt.cells, Pt.slots] at X138 l138 y138 z138 st138 hQ138
                subst l138 y138 z138
                obtain ⟨rfl, N138q, e138⟩ := hQ138
                have N138 := Fr.app N137 N138q
                refine own_pre (B := (T138.setTop (mkF m 216 #[.val (.int p1), .val (.int p2), .val (.int p3), .val (.int p4), .val (.int p5), .val (.int nn), .val (.int aa), .val (.int bb), .val (.int cc), .val (.int dd), .val (.int (0 : Int32)), .val (.int (0 : Int32)), .val (.int (0 : Int32)), .val (.ref b133), .val (.int ((0 : Int32) + (1 : Int32))), .val (.ref b135), .val (.int (1 : Int32)), .val (.int (0 : Int32)), .unset, .unset, .unset] [(.int cc), (.ref b135)]))) (fun t kt => ?_) ?_
                · refine st138.trans ?_
                  show Steps p.tables e below (T138.setTop (mkF m 210 _ [(.int (0 : Int32))])) _
                  refine XS.istore X138.here hx rfl (hb hby at_210) rfl (l' := #[.val (.int p1), .val (.int p2), .val (.int p3), .val (.int p4), .val (.int p5), .val (.int nn), .val (.int aa), .val (.int bb), .val (.int cc), .val (.int dd), .val (.int (0 : Int32)), .val (.int (0 : Int32)), .val (.int (0 : Int32)), .val (.ref b133), .val (.int ((0 : Int32) + (1 : Int32))), .val (.ref b135), .val (.int (1 : Int32)), .val (.int (0 : Int32)), .unset, .unset, .unset]) rfl ?_
                  show Steps p.tables e below (T138.setTop (mkF m 212 _ [])) _
                  refine XS.aload X138.here hx rfl (hb hby at_212) rfl rfl ?_
                  show Steps p.tables e below (T138.setTop (mkF m 214 _ [(.ref b135)])) _
                  refine XS.iload X138.here hx rfl (hb hby at_214) rfl ?_
                  exact kt
                have hf_cc : (own_upd (fun _ => (0 : Int32)) (aa).toNatClampNeg 1) (cc).toNatClampNeg = 1 := by
                  simp only [own_upd, own_tn]
                  repeat' split
                  all_goals first | rfl | (exfalso; omega)
                obtain ⟨cq139, kq139, q139a, q139b, q139c⟩ := isOf hZ e138 M137.1
                obtain ⟨_, _, ⟨T139, L139, k139, n139⟩, -, X139, ⟨Lc139, hQ139, l139, y139, z139⟩, st139⟩ := X138.virtualBack hx (y := (⟨"com/example/faregraph/faregraph/search/Members", "add", "(I)Z"⟩ : MethodName)) (z := (⟨"com/example/faregraph/faregraph/search/Members", "add", "(I)Z"⟩ : MethodName)) hown (mvT hZ (hw _ (List.mem_of_getElem? (i := 16) rfl))) (mvT hZ (hw _ (List.mem_of_getElem? (i := 17) rfl))) (notFace_of_selects (args := #[]) (mvT hZ (hw _ (List.mem_of_getElem? (i := 19) rfl)))) (mvT hZ (hw _ (List.mem_of_getElem? (i := 19) rfl))) (mvT hZ (hw _ (List.mem_of_getElem? (i := 18) rfl))) (by decide) (backOf (W := 0) (rm3y l Z a0 hw [] b135 mb mc nn ((0 : Int32) + (1 : Int32)) (own_upd (fun _ => (0 : Int32)) (aa).toNatClampNeg 1) (own_upd (fun _ => (0 : Int32)) ((0 : Int32)).toNatClampNeg aa) cc T137.heap n0 (Nat.le_trans (Nat.le_trans (Nat.le_trans (Nat.le_trans (Nat.le_trans Z0 E133.1) (Keep.of_wr W134).1) E135.1) KK136.1) KK137.1) M137 rc hf_cc) hZ (hw _ (List.mem_of_getElem? (i := 20) rfl)) (hw _ (List.mem_of_getElem? (i := 4) rfl)) (by decide) (by decide)) q139a q139c (g := (mkF m 216 #[.val (.int p1), .val (.int p2), .val (.int p3), .val (.int p4), .val (.int p5), .val (.int nn), .val (.int aa), .val (.int bb), .val (.int cc), .val (.int dd), .val (.int (0 : Int32)), .val (.int (0 : Int32)), .val (.int (0 : Int32)), .val (.ref b133), .val (.int ((0 : Int32) + (1 : Int32))), .val (.ref b135), .val (.int (1 : Int32)), .val (.int (0 : Int32)), .unset, .unset, .unset] [(.int cc), (.ref b135)])) rfl (by rw [hml]; rfl) (Steps.refl _) (argsL := [(.int cc)]) (rest := []) (lenOf pd_2 rfl) rfl (by show 2 * 0 + _ ≤ _; exact Nat.le_of_eq rfl) (hb hby at_216) (fun _ _ => ⟨rfl, e138, (by decide : 4 + 0 ≤ _), (by decide : 23 + 0 ≤ _)⟩)
                dsimp only [Pt.U, Pt.locs, Pt.cells, Pt.slots] at X139 l139 y139 z139 st139 hQ139
                subst l139 y139 z139
                obtain ⟨rfl, N139q, e139⟩ := hQ139
                have N139 := Fr.app N138 N139q
                refine own_pre (B := (T139.setTop (mkF m 225 #[.val (.int p1), .val (.int p2), .val (.int p3), .val (.int p4), .val (.int p5), .val (.int nn), .val (.int aa), .val (.int bb), .val (.int cc), .val (.int dd), .val (.int (0 : Int32)), .val (.int (0 : Int32)), .val (.int (0 : Int32)), .val (.ref b133), .val (.int ((0 : Int32) + (1 : Int32))), .val (.ref b135), .val (.int (1 : Int32)), .val (.int (0 : Int32)), .val (.int (0 : Int32)), .unset, .unset] [(.int dd), (.ref b135)]))) (fun t kt => ?_) ?_
                · refine st139.trans ?_
                  show Steps p.tables e below (T139.setTop (mkF m 219 _ [(.int (0 : Int32))])) _
                  refine XS.istore X139.here hx rfl (hb hby at_219) rfl (l' := #[.val (.int p1), .val (.int p2), .val (.int p3), .val (.int p4), .val (.int p5), .val (.int nn), .val (.int aa), .val (.int bb), .val (.int cc), .val (.int dd), .val (.int (0 : Int32)), .val (.int (0 : Int32)), .val (.int (0 : Int32)), .val (.ref b133), .val (.int ((0 : Int32) + (1 : Int32))), .val (.ref b135), .val (.int (1 : Int32)), .val (.int (0 : Int32)), .val (.int (0 : Int32)), .unset, .unset]) rfl ?_
                  show Steps p.tables e below (T139.setTop (mkF m 221 _ [])) _
                  refine XS.aload X139.here hx rfl (hb hby at_221) rfl rfl ?_
                  show Steps p.tables e below (T139.setTop (mkF m 223 _ [(.ref b135)])) _
                  refine XS.iload X139.here hx rfl (hb hby at_223) rfl ?_
                  exact kt
                have hf_dd : (own_upd (fun _ => (0 : Int32)) (aa).toNatClampNeg 1) (dd).toNatClampNeg = 1 := by
                  simp only [own_upd, own_tn]
                  repeat' split
                  all_goals first | rfl | (exfalso; omega)
                obtain ⟨cq140, kq140, q140a, q140b, q140c⟩ := isOf hZ e139 M137.1
                obtain ⟨_, _, ⟨T140, L140, k140, n140⟩, -, X140, ⟨Lc140, hQ140, l140, y140, z140⟩, st140⟩ := X139.virtualBack hx (y := (⟨"com/example/faregraph/faregraph/search/Members", "add", "(I)Z"⟩ : MethodName)) (z := (⟨"com/example/faregraph/faregraph/search/Members", "add", "(I)Z"⟩ : MethodName)) hown (mvT hZ (hw _ (List.mem_of_getElem? (i := 16) rfl))) (mvT hZ (hw _ (List.mem_of_getElem? (i := 17) rfl))) (notFace_of_selects (args := #[]) (mvT hZ (hw _ (List.mem_of_getElem? (i := 19) rfl)))) (mvT hZ (hw _ (List.mem_of_getElem? (i := 19) rfl))) (mvT hZ (hw _ (List.mem_of_getElem? (i := 18) rfl))) (by decide) (backOf (W := 0) (rm3y l Z a0 hw [] b135 mb mc nn ((0 : Int32) + (1 : Int32)) (own_upd (fun _ => (0 : Int32)) (aa).toNatClampNeg 1) (own_upd (fun _ => (0 : Int32)) ((0 : Int32)).toNatClampNeg aa) dd T137.heap n0 (Nat.le_trans (Nat.le_trans (Nat.le_trans (Nat.le_trans (Nat.le_trans Z0 E133.1) (Keep.of_wr W134).1) E135.1) KK136.1) KK137.1) M137 rd hf_dd) hZ (hw _ (List.mem_of_getElem? (i := 20) rfl)) (hw _ (List.mem_of_getElem? (i := 4) rfl)) (by decide) (by decide)) q140a q140c (g := (mkF m 225 #[.val (.int p1), .val (.int p2), .val (.int p3), .val (.int p4), .val (.int p5), .val (.int nn), .val (.int aa), .val (.int bb), .val (.int cc), .val (.int dd), .val (.int (0 : Int32)), .val (.int (0 : Int32)), .val (.int (0 : Int32)), .val (.ref b133), .val (.int ((0 : Int32) + (1 : Int32))), .val (.ref b135), .val (.int (1 : Int32)), .val (.int (0 : Int32)), .val (.int (0 : Int32)), .unset, .unset] [(.int dd), (.ref b135)])) rfl (by rw [hml]; rfl) (Steps.refl _) (argsL := [(.int dd)]) (rest := []) (lenOf pd_2 rfl) rfl (by show 2 * 0 + _ ≤ _; exact Nat.le_of_eq rfl) (hb hby at_225) (fun _ _ => ⟨rfl, e139, (by decide : 4 + 0 ≤ _), (by decide : 23 + 0 ≤ _)⟩)
                dsimp only [Pt.U, Pt.locs, Pt.cells, Pt.slots] at X140 l140 y140 z140 st140 hQ140
                subst l140 y140 z140
                obtain ⟨rfl, N140q, e140⟩ := hQ140
                have N140 := Fr.app N139 N140q
                refine own_pre (B := (T140.setTop (mkF m 260 #[.val (.int p1), .val (.int p2), .val (.int p3), .val (.int p4), .val (.int p5), .val (.int nn), .val (.int aa), .val (.int bb), .val (.int cc), .val (.int dd), .val (.int (0 : Int32)), .val (.int (0 : Int32)), .val (.int (0 : Int32)), .val (.ref b133), .val (.int ((0 : Int32) + (1 : Int32))), .val (.ref b135), .val (.int (1 : Int32)), .val (.int (0 : Int32)), .val (.int (0 : Int32)), .val (.int (0 : Int32)), .unset] [(.ref b135)]))) (fun t kt => ?_) ?_
                · refine st140.trans ?_
                  show Steps p.tables e below (T140.setTop (mkF m 228 _ [(.int (0 : Int32))])) _
                  refine XS.istore X140.here hx rfl (hb hby at_228) rfl (l' := #[.val (.int p1), .val (.int p2), .val (.int p3), .val (.int p4), .val (.int p5), .val (.int nn), .val (.int aa), .val (.int bb), .val (.int cc), .val (.int dd), .val (.int (0 : Int32)), .val (.int (0 : Int32)), .val (.int (0 : Int32)), .val (.ref b133), .val (.int ((0 : Int32) + (1 : Int32))), .val (.ref b135), .val (.int (1 : Int32)), .val (.int (0 : Int32)), .val (.int (0 : Int32)), .val (.int (0 : Int32)), .unset]) rfl ?_
                  show Steps p.tables e below (T140.setTop (mkF m 230 _ [])) _
                  refine XS.iload X140.here hx rfl (hb hby at_230) rfl ?_
                  show Steps p.tables e below (T140.setTop (mkF m 232 _ [(.int (1 : Int32))])) _
                  refine XS.ifNo X140.here hx rfl (hb hby at_232) rfl ((if0 _ _).trans (feq ((by decide) : ¬ ((1 : Int32) = (0 : Int32)))).1) ?_
                  show Steps p.tables e below (T140.setTop (mkF m 235 _ [])) _
                  refine XS.iload X140.here hx rfl (hb hby at_235) rfl ?_
                  show Steps p.tables e below (T140.setTop (mkF m 237 _ [(.int (0 : Int32))])) _
                  refine XS.iload X140.here hx rfl (hb hby at_237) rfl ?_
                  show Steps p.tables e below (T140.setTop (mkF m 239 _ [(.int (0 : Int32)), (.int (0 : Int32))])) _
                  refine XS.icmpNo X140.here hx rfl (hb hby at_239) rfl (teq (rfl : (0 : Int32) = (0 : Int32))).2 ?_
                  show Steps p.tables e below (T140.setTop (mkF m 242 _ [])) _
                  refine XS.iload X140.here hx rfl (hb hby at_242) rfl ?_
                  show Steps p.tables e below (T140.setTop (mkF m 244 _ [(.int (0 : Int32))])) _
                  refine XS.iload X140.here hx rfl (hb hby at_244) rfl ?_
                  show Steps p.tables e below (T140.setTop (mkF m 246 _ [(.int (0 : Int32)), (.int (0 : Int32))])) _
                  refine XS.icmpNo X140.here hx rfl (hb hby at_246) rfl (teq (rfl : (0 : Int32) = (0 : Int32))).2 ?_
                  show Steps p.tables e below (T140.setTop (mkF m 249 _ [])) _
                  refine XS.iload X140.here hx rfl (hb hby at_249) rfl ?_
                  show Steps p.tables e below (T140.setTop (mkF m 251 _ [(.int (0 : Int32))])) _
                  refine XS.iload X140.here hx rfl (hb hby at_251) rfl ?_
                  show Steps p.tables e below (T140.setTop (mkF m 253 _ [(.int (0 : Int32)), (.int (0 : Int32))])) _
                  refine XS.icmpYes X140.here hx rfl (pc0 := 253) (pc' := 258) rfl (hb hby at_253) rfl (teq (rfl : (0 : Int32) = (0 : Int32))).1 (by decide) (by decide) ?_
                  show Steps p.tables e below (T140.setTop (mkF m 258 _ [])) _
                  refine XS.aload X140.here hx rfl (hb hby at_258) rfl rfl ?_
                  exact kt
                obtain ⟨cq141, kq141, q141a, q141b, q141c⟩ := isOf hZ e140 M137.1
                obtain ⟨_, _, ⟨T141, L141, k141, n141⟩, -, X141, ⟨Lc141, hQ141, l141, y141, z141⟩, st141⟩ := X140.virtualBack hx (y := (⟨"com/example/faregraph/faregraph/search/Members", "count", "()I"⟩ : MethodName)) (z := (⟨"com/example/faregraph/faregraph/search/Members", "count", "()I"⟩ : MethodName)) hown (mvT hZ (hw _ (List.mem_of_getElem? (i := 23) rfl))) (mvT hZ (hw _ (List.mem_of_getElem? (i := 24) rfl))) (notFace_of_selects (args := #[]) (mvT hZ (hw _ (List.mem_of_getElem? (i := 26) rfl)))) (mvT hZ (hw _ (List.mem_of_getElem? (i := 26) rfl))) (mvT hZ (hw _ (List.mem_of_getElem? (i := 25) rfl))) (by decide) (backOf (W := 0) (rm4 l Z a0 hw [] b135 mb mc nn ((0 : Int32) + (1 : Int32)) (own_upd (fun _ => (0 : Int32)) (aa).toNatClampNeg 1) (own_upd (fun _ => (0 : Int32)) ((0 : Int32)).toNatClampNeg aa) T137.heap n0 (Nat.le_trans (Nat.le_trans (Nat.le_trans (Nat.le_trans (Nat.le_trans Z0 E133.1) (Keep.of_wr W134).1) E135.1) KK136.1) KK137.1) M137) hZ (hw _ (List.mem_of_getElem? (i := 27) rfl)) (hw _ (List.mem_of_getElem? (i := 4) rfl)) (by decide) (by decide)) q141a q141c (g := (mkF m 260 #[.val (.int p1), .val (.int p2), .val (.int p3), .val (.int p4), .val (.int p5), .val (.int nn), .val (.int aa), .val (.int bb), .val (.int cc), .val (.int dd), .val (.int (0 : Int32)), .val (.int (0 : Int32)), .val (.int (0 : Int32)), .val (.ref b133), .val (.int ((0 : Int32) + (1 : Int32))), .val (.ref b135), .val (.int (1 : Int32)), .val (.int (0 : Int32)), .val (.int (0 : Int32)), .val (.int (0 : Int32)), .unset] [(.ref b135)])) rfl (by rw [hml]; rfl) (Steps.refl _) (argsL := []) (rest := []) (lenOf pd_3 rfl) rfl (by show 2 * 0 + _ ≤ _; exact Nat.le_of_eq rfl) (hb hby at_260) (fun _ _ => ⟨rfl, e140, (by decide : 4 + 0 ≤ _), (by decide : 23 + 0 ≤ _)⟩)
                dsimp only [Pt.U, Pt.locs, Pt.cells, Pt.slots] at X141 l141 y141 z141 st141 hQ141
                subst l141 y141 z141
                obtain ⟨rfl, N141q, e141⟩ := hQ141
                have N141 := Fr.app N140 N141q
                refine own_pre (B := (T141.setTop (mkF m 273 #[.val (.int p1), .val (.int p2), .val (.int p3), .val (.int p4), .val (.int p5), .val (.int nn), .val (.int aa), .val (.int bb), .val (.int cc), .val (.int dd), .val (.int (0 : Int32)), .val (.int (0 : Int32)), .val (.int (0 : Int32)), .val (.ref b133), .val (.int ((0 : Int32) + (1 : Int32))), .val (.ref b135), .val (.int (1 : Int32)), .val (.int (0 : Int32)), .val (.int (0 : Int32)), .val (.int (0 : Int32)), .unset] [(.int (0 : Int32)), (.ref b135)]))) (fun t kt => ?_) ?_
                · refine st141.trans ?_
                  show Steps p.tables e below (T141.setTop (mkF m 263 _ [(.int ((0 : Int32) + (1 : Int32)))])) _
                  refine XS.iload X141.here hx rfl (hb hby at_263) rfl ?_
                  show Steps p.tables e below (T141.setTop (mkF m 265 _ [(.int ((0 : Int32) + (1 : Int32))), (.int ((0 : Int32) + (1 : Int32)))])) _
                  refine XS.icmpYes X141.here hx rfl (pc0 := 265) (pc' := 270) rfl (hb hby at_265) rfl (teq (rfl : ((0 : Int32) + (1 : Int32)) = ((0 : Int32) + (1 : Int32)))).1 (by decide) (by decide) ?_
                  show Steps p.tables e below (T141.setTop (mkF m 270 _ [])) _
                  refine XS.aload X141.here hx rfl (hb hby at_270) rfl rfl ?_
                  show Steps p.tables e below (T141.setTop (mkF m 272 _ [(.ref b135)])) _
                  refine XS.iconst X141.here hx rfl (hb hby at_272) ?_
                  exact kt
                have pg142 : (own_upd (fun _ => (0 : Int32)) ((0 : Int32)).toNatClampNeg aa) ((0 : Int32)).toNatClampNeg = aa := (own_upd_hit (by decide))
                obtain ⟨cq142, kq142, q142a, q142b, q142c⟩ := isOf hZ e141 M137.1
                obtain ⟨_, _, ⟨T142, L142, k142, n142⟩, -, X142, ⟨Lc142, hQ142, l142, y142, z142⟩, st142⟩ := X141.virtualBack hx (y := (⟨"com/example/faregraph/faregraph/search/Members", "get", "(I)I"⟩ : MethodName)) (z := (⟨"com/example/faregraph/faregraph/search/Members", "get", "(I)I"⟩ : MethodName)) hown (mvT hZ (hw _ (List.mem_of_getElem? (i := 28) rfl))) (mvT hZ (hw _ (List.mem_of_getElem? (i := 29) rfl))) (notFace_of_selects (args := #[]) (mvT hZ (hw _ (List.mem_of_getElem? (i := 31) rfl)))) (mvT hZ (hw _ (List.mem_of_getElem? (i := 31) rfl))) (mvT hZ (hw _ (List.mem_of_getElem? (i := 30) rfl))) (by decide) (backOf (W := 0) (rm5 l Z a0 hw [] b135 mb mc nn ((0 : Int32) + (1 : Int32)) (own_upd (fun _ => (0 : Int32)) (aa).toNatClampNeg 1) (own_upd (fun _ => (0 : Int32)) ((0 : Int32)).toNatClampNeg aa) (0 : Int32) aa T137.heap n0 (Nat.le_trans (Nat.le_trans (Nat.le_trans (Nat.le_trans (Nat.le_trans Z0 E133.1) (Keep.of_wr W134).1) E135.1) KK136.1) KK137.1) M137 (own_rng' (by have e : ((0 : Int32)).toInt = 0 := (by decide); omega)) pg142) hZ (hw _ (List.mem_of_getElem? (i := 32) rfl)) (hw _ (List.mem_of_getElem? (i := 4) rfl)) (by decide) (by decide)) q142a q142c (g := (mkF m 273 #[.val (.int p1), .val (.int p2), .val (.int p3), .val (.int p4), .val (.int p5), .val (.int nn), .val (.int aa), .val (.int bb), .val (.int cc), .val (.int dd), .val (.int (0 : Int32)), .val (.int (0 : Int32)), .val (.int (0 : Int32)), .val (.ref b133), .val (.int ((0 : Int32) + (1 : Int32))), .val (.ref b135), .val (.int (1 : Int32)), .val (.int (0 : Int32)), .val (.int (0 : Int32)), .val (.int (0 : Int32)), .unset] [(.int (0 : Int32)), (.ref b135)])) rfl (by rw [hml]; rfl) (Steps.refl _) (argsL := [(.int (0 : Int32))]) (rest := []) (lenOf pd_4 rfl) rfl (by show 2 * 0 + _ ≤ _; exact Nat.le_of_eq rfl) (hb hby at_273) (fun _ _ => ⟨rfl, e141, (by decide : 4 + 0 ≤ _), (by decide : 23 + 0 ≤ _)⟩)
                dsimp only [Pt.U, Pt.locs, Pt.cells, Pt.slots] at X142 l142 y142 z142 st142 hQ142
                subst l142 y142 z142
                obtain ⟨rfl, N142q, e142⟩ := hQ142
                have N142 := Fr.app N141 N142q
                refine own_pre (B := (T142.setTop (mkF m 279 #[.val (.int p1), .val (.int p2), .val (.int p3), .val (.int p4), .val (.int p5), .val (.int nn), .val (.int aa), .val (.int bb), .val (.int cc), .val (.int dd), .val (.int (0 : Int32)), .val (.int (0 : Int32)), .val (.int (0 : Int32)), .val (.ref b133), .val (.int ((0 : Int32) + (1 : Int32))), .val (.ref b135), .val (.int (1 : Int32)), .val (.int (0 : Int32)), .val (.int (0 : Int32)), .val (.int (0 : Int32)), .unset] [(.int (0 : Int32)), (.ref b133), (.int aa)]))) (fun t kt => ?_) ?_
                · refine st142.trans ?_
                  show Steps p.tables e below (T142.setTop (mkF m 276 _ [(.int aa)])) _
                  refine XS.aload X142.here hx rfl (hb hby at_276) rfl rfl ?_
                  show Steps p.tables e below (T142.setTop (mkF m 278 _ [(.ref b133), (.int aa)])) _
                  refine XS.iconst X142.here hx rfl (hb hby at_278) ?_
                  exact kt
                have pe144 : (own_upd (fun _ => (0 : Int32)) ((0 : Int32)).toNatClampNeg aa) ((0 : Int32)).toNatClampNeg = aa := (own_upd_hit (by decide))
                obtain ⟨cl143, Ar143, S143, P143, H143⟩ := id V_b133_137
                have in143 := inb_of S143 (⟨by decide, by decide⟩ : ¬ (0 : Int32) < 0 ∧ (0 : Int32) < (4 : Int32))
                have at143 : cl143.slots[((0 : Int32)).toNatClampNeg]? = some (.int aa) := (H143 _ (Nat.lt_of_not_le fun y => in143 (Or.inr y))).trans (congrArg (fun z => some (Value.int z)) pe144)
                refine own_pre (B := (T142.setTop (mkF m 385 #[.val (.int p1), .val (.int p2), .val (.int p3), .val (.int p4), .val (.int p5), .val (.int nn), .val (.int aa), .val (.int bb), .val (.int cc), .val (.int dd), .val (.int (0 : Int32)), .val (.int (0 : Int32)), .val (.int (0 : Int32)), .val (.ref b133), .val (.int ((0 : Int32) + (1 : Int32))), .val (.ref b135), .val (.int (1 : Int32)), .val (.int (0 : Int32)), .val (.int (0 : Int32)), .val (.int (0 : Int32)), .val (.int (1 : Int32))] [(.int (1 : Int32))]))) (fun t kt => ?_) ?_
                · show Steps p.tables e below (T142.setTop (mkF m 279 _ [(.int (0 : Int32)), (.ref b133), (.int aa)])) _
                  refine X142.iaload hx (j := (0 : Int32)) (v := (.int aa)) (by rw [e142]; exact Ar143.1) (State.isArrayOf_alike hZ.alike Ar143.2.1) Ar143.2.2 in143 at143 (g := (mkF m 279 #[.val (.int p1), .val (.int p2), .val (.int p3), .val (.int p4), .val (.int p5), .val (.int nn), .val (.int aa), .val (.int bb), .val (.int cc), .val (.int dd), .val (.int (0 : Int32)), .val (.int (0 : Int32)), .val (.int (0 : Int32)), .val (.ref b133), .val (.int ((0 : Int32) + (1 : Int32))), .val (.ref b135), .val (.int (1 : Int32)), .val (.int (0 : Int32)), .val (.int (0 : Int32)), .val (.int (0 : Int32)), .unset] [(.int (0 : Int32)), (.ref b133), (.int aa)])) rfl rfl (hb hby at_279) _ ?_
                  show Steps p.tables e below (T142.setTop (mkF m 280 _ [(.int aa), (.int aa)])) _
                  refine XS.icmpNo X142.here hx rfl (hb hby at_280) rfl (teq (rfl : aa = aa)).2 ?_
                  show Steps p.tables e below (T142.setTop (mkF m 283 _ [])) _
                  refine XS.iconst X142.here hx rfl (hb hby at_283) ?_
                  show Steps p.tables e below (T142.setTop (mkF m 284 _ [(.int (1 : Int32))])) _
                  refine XS.goto X142.here hx rfl (pc0 := 284) (pc' := 288) rfl (hb hby at_284) (by decide) (by decide) ?_
                  show Steps p.tables e below (T142.setTop (mkF m 288 _ [(.int (1 : Int32))])) _
                  refine XS.istore X142.here hx rfl (hb hby at_288) rfl (l' := #[.val (.int p1), .val (.int p2), .val (.int p3), .val (.int p4), .val (.int p5), .val (.int nn), .val (.int aa), .val (.int bb), .val (.int cc), .val (.int dd), .val (.int (0 : Int32)), .val (.int (0 : Int32)), .val (.int (0 : Int32)), .val (.ref b133), .val (.int ((0 : Int32) + (1 : Int32))), .val (.ref b135), .val (.int (1 : Int32)), .val (.int (0 : Int32)), .val (.int (0 : Int32)), .val (.int (0 : Int32)), .val (.int (1 : Int32))]) rfl ?_
                  show Steps p.tables e below (T142.setTop (mkF m 290 _ [])) _
                  refine XS.iload X142.here hx rfl (hb hby at_290) rfl ?_
                  show Steps p.tables e below (T142.setTop (mkF m 292 _ [(.int ((0 : Int32) + (1 : Int32)))])) _
                  refine XS.iconst X142.here hx rfl (hb hby at_292) ?_
                  show Steps p.tables e below (T142.setTop (mkF m 293 _ [(.int (1 : Int32)), (.int ((0 : Int32) + (1 : Int32)))])) _
                  refine XS.icmpYes X142.here hx rfl (pc0 := 293) (pc' := 321) rfl (hb hby at_293) rfl (flt ((by decide) : ¬ ((1 : Int32) < ((0 : Int32) + (1 : Int32))))).2.2.2 (by decide) (by decide) ?_
                  show Steps p.tables e below (T142.setTop (mkF m 321 _ [])) _
                  refine XS.iload X142.here hx rfl (hb hby at_321) rfl ?_
                  show Steps p.tables e below (T142.setTop (mkF m 323 _ [(.int ((0 : Int32) + (1 : Int32)))])) _
                  refine XS.iconst X142.here hx rfl (hb hby at_323) ?_
                  show Steps p.tables e below (T142.setTop (mkF m 324 _ [(.int (2 : Int32)), (.int ((0 : Int32) + (1 : Int32)))])) _
                  refine XS.icmpYes X142.here hx rfl (pc0 := 324) (pc' := 352) rfl (hb hby at_324) rfl (flt ((by decide) : ¬ ((2 : Int32) < ((0 : Int32) + (1 : Int32))))).2.2.2 (by decide) (by decide) ?_
                  show Steps p.tables e below (T142.setTop (mkF m 352 _ [])) _
                  refine XS.iload X142.here hx rfl (hb hby at_352) rfl ?_
                  show Steps p.tables e below (T142.setTop (mkF m 354 _ [(.int ((0 : Int32) + (1 : Int32)))])) _
                  refine XS.iconst X142.here hx rfl (hb hby at_354) ?_
                  show Steps p.tables e below (T142.setTop (mkF m 355 _ [(.int (3 : Int32)), (.int ((0 : Int32) + (1 : Int32)))])) _
                  refine XS.icmpYes X142.here hx rfl (pc0 := 355) (pc' := 383) rfl (hb hby at_355) rfl (flt ((by decide) : ¬ ((3 : Int32) < ((0 : Int32) + (1 : Int32))))).2.2.2 (by decide) (by decide) ?_
                  show Steps p.tables e below (T142.setTop (mkF m 383 _ [])) _
                  refine XS.iload X142.here hx rfl (hb hby at_383) rfl ?_
                  exact kt
                exact own_fin X142 (some (.int (1 : Int32))) (fun h => by rw [Bd.returns] at h; cases h) (BodyLoose.notSynchronized Bd) e142 (fun fs hr => retN X142 hx (t := .boolean) Bd.returns (by simp) (hb hby at_385) hr) ⟨rfl, N142⟩ (by decide) (by decide)
        refine own_pre (B := (s₁.setTop (mkF m 84 #[.val (.int p1), .val (.int p2), .val (.int p3), .val (.int p4), .val (.int p5), .val (.int nn), .val (.int aa), .val (.int bb), .val (.int cc), .val (.int dd), .val (.int eb), .val (.int ec), .unset, .unset, .unset, .unset, .unset, .unset, .unset, .unset, .unset] [(.int aa), (.int dd)]))) (fun t kt => ?_) ?_
        · show Steps p.tables e below (s₁.setTop (mkF m 80 _ [])) _
          refine XS.iload X0.here hx rfl (hb hby at_80) rfl ?_
          show Steps p.tables e below (s₁.setTop (mkF m 82 _ [(.int dd)])) _
          refine XS.iload X0.here hx rfl (hb hby at_82) rfl ?_
          exact kt
        by_cases hc84 : dd = aa
        · refine own_pre (B := (s₁.setTop (mkF m 105 #[.val (.int p1), .val (.int p2), .val (.int p3), .val (.int p4), .val (.int p5), .val (.int nn), .val (.int aa), .val (.int bb), .val (.int cc), .val (.int dd), .val (.int eb), .val (.int ec), .unset, .unset, .unset, .unset, .unset, .unset, .unset, .unset, .unset] []))) (fun t kt => ?_) ?_
          · show Steps p.tables e below (s₁.setTop (mkF m 84 _ [(.int aa), (.int dd)])) _
            refine XS.icmpYes X0.here hx rfl (pc0 := 84) (pc' := 105) rfl (hb hby at_84) rfl (teq (hc84 : dd = aa)).1 (by decide) (by decide) ?_
            exact kt
          refine own_pre (B := (s₁.setTop (mkF m 106 #[.val (.int p1), .val (.int p2), .val (.int p3), .val (.int p4), .val (.int p5), .val (.int nn), .val (.int aa), .val (.int bb), .val (.int cc), .val (.int dd), .val (.int eb), .val (.int ec), .unset, .unset, .unset, .unset, .unset, .unset, .unset, .unset, .unset] [(.int (0 : Int32))]))) (fun t kt => ?_) ?_
          · show Steps p.tables e below (s₁.setTop (mkF m 105 _ [])) _
            refine XS.iconst X0.here hx rfl (hb hby at_105) ?_
            exact kt
          exact J106 _ (Or.inr ⟨rfl, Or.inl (congrArg Int32.toInt hc84)⟩)
        · refine own_pre (B := (s₁.setTop (mkF m 87 #[.val (.int p1), .val (.int p2), .val (.int p3), .val (.int p4), .val (.int p5), .val (.int nn), .val (.int aa), .val (.int bb), .val (.int cc), .val (.int dd), .val (.int eb), .val (.int ec), .unset, .unset, .unset, .unset, .unset, .unset, .unset, .unset, .unset] []))) (fun t kt => ?_) ?_
          · show Steps p.tables e below (s₁.setTop (mkF m 84 _ [(.int aa), (.int dd)])) _
            refine XS.icmpNo X0.here hx rfl (hb hby at_84) rfl (feq (hc84 : ¬ (dd = aa))).1 ?_
            exact kt
          refine own_pre (B := (s₁.setTop (mkF m 91 #[.val (.int p1), .val (.int p2), .val (.int p3), .val (.int p4), .val (.int p5), .val (.int nn), .val (.int aa), .val (.int bb), .val (.int cc), .val (.int dd), .val (.int eb), .val (.int ec), .unset, .unset, .unset, .unset, .unset, .unset, .unset, .unset, .unset] [(.int bb), (.int dd)]))) (fun t kt => ?_) ?_
          · show Steps p.tables e below (s₁.setTop (mkF m 87 _ [])) _
            refine XS.iload X0.here hx rfl (hb hby at_87) rfl ?_
            show Steps p.tables e below (s₁.setTop (mkF m 89 _ [(.int dd)])) _
            refine XS.iload X0.here hx rfl (hb hby at_89) rfl ?_
            exact kt
          by_cases hc91 : dd = bb
          · refine own_pre (B := (s₁.setTop (mkF m 105 #[.val (.int p1), .val (.int p2), .val (.int p3), .val (.int p4), .val (.int p5), .val (.int nn), .val (.int aa), .val (.int bb), .val (.int cc), .val (.int dd), .val (.int eb), .val (.int ec), .unset, .unset, .unset, .unset, .unset, .unset, .unset, .unset, .unset] []))) (fun t kt => ?_) ?_
            · show Steps p.tables e below (s₁.setTop (mkF m 91 _ [(.int bb), (.int dd)])) _
              refine XS.icmpYes X0.here hx rfl (pc0 := 91) (pc' := 105) rfl (hb hby at_91) rfl (teq (hc91 : dd = bb)).1 (by decide) (by decide) ?_
              exact kt
            refine own_pre (B := (s₁.setTop (mkF m 106 #[.val (.int p1), .val (.int p2), .val (.int p3), .val (.int p4), .val (.int p5), .val (.int nn), .val (.int aa), .val (.int bb), .val (.int cc), .val (.int dd), .val (.int eb), .val (.int ec), .unset, .unset, .unset, .unset, .unset, .unset, .unset, .unset, .unset] [(.int (0 : Int32))]))) (fun t kt => ?_) ?_
            · show Steps p.tables e below (s₁.setTop (mkF m 105 _ [])) _
              refine XS.iconst X0.here hx rfl (hb hby at_105) ?_
              exact kt
            exact J106 _ (Or.inr ⟨rfl, Or.inr (Or.inl (congrArg Int32.toInt hc91))⟩)
          · refine own_pre (B := (s₁.setTop (mkF m 94 #[.val (.int p1), .val (.int p2), .val (.int p3), .val (.int p4), .val (.int p5), .val (.int nn), .val (.int aa), .val (.int bb), .val (.int cc), .val (.int dd), .val (.int eb), .val (.int ec), .unset, .unset, .unset, .unset, .unset, .unset, .unset, .unset, .unset] []))) (fun t kt => ?_) ?_
            · show Steps p.tables e below (s₁.setTop (mkF m 91 _ [(.int bb), (.int dd)])) _
              refine XS.icmpNo X0.here hx rfl (hb hby at_91) rfl (feq (hc91 : ¬ (dd = bb))).1 ?_
              exact kt
            refine own_pre (B := (s₁.setTop (mkF m 98 #[.val (.int p1), .val (.int p2), .val (.int p3), .val (.int p4), .val (.int p5), .val (.int nn), .val (.int aa), .val (.int bb), .val (.int cc), .val (.int dd), .val (.int eb), .val (.int ec), .unset, .unset, .unset, .unset, .unset, .unset, .unset, .unset, .unset] [(.int cc), (.int dd)]))) (fun t kt => ?_) ?_
            · show Steps p.tables e below (s₁.setTop (mkF m 94 _ [])) _
              refine XS.iload X0.here hx rfl (hb hby at_94) rfl ?_
              show Steps p.tables e below (s₁.setTop (mkF m 96 _ [(.int dd)])) _
              refine XS.iload X0.here hx rfl (hb hby at_96) rfl ?_
              exact kt
            by_cases hc98 : dd = cc
            · refine own_pre (B := (s₁.setTop (mkF m 105 #[.val (.int p1), .val (.int p2), .val (.int p3), .val (.int p4), .val (.int p5), .val (.int nn), .val (.int aa), .val (.int bb), .val (.int cc), .val (.int dd), .val (.int eb), .val (.int ec), .unset, .unset, .unset, .unset, .unset, .unset, .unset, .unset, .unset] []))) (fun t kt => ?_) ?_
              · show Steps p.tables e below (s₁.setTop (mkF m 98 _ [(.int cc), (.int dd)])) _
                refine XS.icmpYes X0.here hx rfl (pc0 := 98) (pc' := 105) rfl (hb hby at_98) rfl (teq (hc98 : dd = cc)).1 (by decide) (by decide) ?_
                exact kt
              refine own_pre (B := (s₁.setTop (mkF m 106 #[.val (.int p1), .val (.int p2), .val (.int p3), .val (.int p4), .val (.int p5), .val (.int nn), .val (.int aa), .val (.int bb), .val (.int cc), .val (.int dd), .val (.int eb), .val (.int ec), .unset, .unset, .unset, .unset, .unset, .unset, .unset, .unset, .unset] [(.int (0 : Int32))]))) (fun t kt => ?_) ?_
              · show Steps p.tables e below (s₁.setTop (mkF m 105 _ [])) _
                refine XS.iconst X0.here hx rfl (hb hby at_105) ?_
                exact kt
              exact J106 _ (Or.inr ⟨rfl, Or.inr (Or.inr (congrArg Int32.toInt hc98))⟩)
            · refine own_pre (B := (s₁.setTop (mkF m 101 #[.val (.int p1), .val (.int p2), .val (.int p3), .val (.int p4), .val (.int p5), .val (.int nn), .val (.int aa), .val (.int bb), .val (.int cc), .val (.int dd), .val (.int eb), .val (.int ec), .unset, .unset, .unset, .unset, .unset, .unset, .unset, .unset, .unset] []))) (fun t kt => ?_) ?_
              · show Steps p.tables e below (s₁.setTop (mkF m 98 _ [(.int cc), (.int dd)])) _
                refine XS.icmpNo X0.here hx rfl (hb hby at_98) rfl (feq (hc98 : ¬ (dd = cc))).1 ?_
                exact kt
              refine own_pre (B := (s₁.setTop (mkF m 106 #[.val (.int p1), .val (.int p2), .val (.int p3), .val (.int p4), .val (.int p5), .val (.int nn), .val (.int aa), .val (.int bb), .val (.int cc), .val (.int dd), .val (.int eb), .val (.int ec), .unset, .unset, .unset, .unset, .unset, .unset, .unset, .unset, .unset] [(.int (1 : Int32))]))) (fun t kt => ?_) ?_
              · show Steps p.tables e below (s₁.setTop (mkF m 101 _ [])) _
                refine XS.iconst X0.here hx rfl (hb hby at_101) ?_
                show Steps p.tables e below (s₁.setTop (mkF m 102 _ [(.int (1 : Int32))])) _
                refine XS.goto X0.here hx rfl (pc0 := 102) (pc' := 106) rfl (hb hby at_102) (by decide) (by decide) ?_
                exact kt
              exact J106 _ (Or.inl ⟨rfl, fun q => hc84 (Int32.toInt_inj.mp q), fun q => hc91 (Int32.toInt_inj.mp q), fun q => hc98 (Int32.toInt_inj.mp q)⟩)
      refine own_pre (B := (s₁.setTop (mkF m 63 #[.val (.int p1), .val (.int p2), .val (.int p3), .val (.int p4), .val (.int p5), .val (.int nn), .val (.int aa), .val (.int bb), .val (.int cc), .val (.int dd), .val (.int eb), .unset, .unset, .unset, .unset, .unset, .unset, .unset, .unset, .unset, .unset] [(.int aa), (.int cc)]))) (fun t kt => ?_) ?_
      · show Steps p.tables e below (s₁.setTop (mkF m 59 _ [])) _
        refine XS.iload X0.here hx rfl (hb hby at_59) rfl ?_
        show Steps p.tables e below (s₁.setTop (mkF m 61 _ [(.int cc)])) _
        refine XS.iload X0.here hx rfl (hb hby at_61) rfl ?_
        exact kt
      by_cases hc63 : cc = aa
      · refine own_pre (B := (s₁.setTop (mkF m 77 #[.val (.int p1), .val (.int p2), .val (.int p3), .val (.int p4), .val (.int p5), .val (.int nn), .val (.int aa), .val (.int bb), .val (.int cc), .val (.int dd), .val (.int eb), .unset, .unset, .unset, .unset, .unset, .unset, .unset, .unset, .unset, .unset] []))) (fun t kt => ?_) ?_
        · show Steps p.tables e below (s₁.setTop (mkF m 63 _ [(.int aa), (.int cc)])) _
          refine XS.icmpYes X0.here hx rfl (pc0 := 63) (pc' := 77) rfl (hb hby at_63) rfl (teq (hc63 : cc = aa)).1 (by decide) (by decide) ?_
          exact kt
        refine own_pre (B := (s₁.setTop (mkF m 78 #[.val (.int p1), .val (.int p2), .val (.int p3), .val (.int p4), .val (.int p5), .val (.int nn), .val (.int aa), .val (.int bb), .val (.int cc), .val (.int dd), .val (.int eb), .unset, .unset, .unset, .unset, .unset, .unset, .unset, .unset, .unset, .unset] [(.int (0 : Int32))]))) (fun t kt => ?_) ?_
        · show Steps p.tables e below (s₁.setTop (mkF m 77 _ [])) _
          refine XS.iconst X0.here hx rfl (hb hby at_77) ?_
          exact kt
        exact J78 _ (Or.inr ⟨rfl, Or.inl (congrArg Int32.toInt hc63)⟩)
      · refine own_pre (B := (s₁.setTop (mkF m 66 #[.val (.int p1), .val (.int p2), .val (.int p3), .val (.int p4), .val (.int p5), .val (.int nn), .val (.int aa), .val (.int bb), .val (.int cc), .val (.int dd), .val (.int eb), .unset, .unset, .unset, .unset, .unset, .unset, .unset, .unset, .unset, .unset] []))) (fun t kt => ?_) ?_
        · show Steps p.tables e below (s₁.setTop (mkF m 63 _ [(.int aa), (.int cc)])) _
          refine XS.icmpNo X0.here hx rfl (hb hby at_63) rfl (feq (hc63 : ¬ (cc = aa))).1 ?_
          exact kt
        refine own_pre (B := (s₁.setTop (mkF m 70 #[.val (.int p1), .val (.int p2), .val (.int p3), .val (.int p4), .val (.int p5), .val (.int nn), .val (.int aa), .val (.int bb), .val (.int cc), .val (.int dd), .val (.int eb), .unset, .unset, .unset, .unset, .unset, .unset, .unset, .unset, .unset, .unset] [(.int bb), (.int cc)]))) (fun t kt => ?_) ?_
        · show Steps p.tables e below (s₁.setTop (mkF m 66 _ [])) _
          refine XS.iload X0.here hx rfl (hb hby at_66) rfl ?_
          show Steps p.tables e below (s₁.setTop (mkF m 68 _ [(.int cc)])) _
          refine XS.iload X0.here hx rfl (hb hby at_68) rfl ?_
          exact kt
        by_cases hc70 : cc = bb
        · refine own_pre (B := (s₁.setTop (mkF m 77 #[.val (.int p1), .val (.int p2), .val (.int p3), .val (.int p4), .val (.int p5), .val (.int nn), .val (.int aa), .val (.int bb), .val (.int cc), .val (.int dd), .val (.int eb), .unset, .unset, .unset, .unset, .unset, .unset, .unset, .unset, .unset, .unset] []))) (fun t kt => ?_) ?_
          · show Steps p.tables e below (s₁.setTop (mkF m 70 _ [(.int bb), (.int cc)])) _
            refine XS.icmpYes X0.here hx rfl (pc0 := 70) (pc' := 77) rfl (hb hby at_70) rfl (teq (hc70 : cc = bb)).1 (by decide) (by decide) ?_
            exact kt
          refine own_pre (B := (s₁.setTop (mkF m 78 #[.val (.int p1), .val (.int p2), .val (.int p3), .val (.int p4), .val (.int p5), .val (.int nn), .val (.int aa), .val (.int bb), .val (.int cc), .val (.int dd), .val (.int eb), .unset, .unset, .unset, .unset, .unset, .unset, .unset, .unset, .unset, .unset] [(.int (0 : Int32))]))) (fun t kt => ?_) ?_
          · show Steps p.tables e below (s₁.setTop (mkF m 77 _ [])) _
            refine XS.iconst X0.here hx rfl (hb hby at_77) ?_
            exact kt
          exact J78 _ (Or.inr ⟨rfl, Or.inr (congrArg Int32.toInt hc70)⟩)
        · refine own_pre (B := (s₁.setTop (mkF m 73 #[.val (.int p1), .val (.int p2), .val (.int p3), .val (.int p4), .val (.int p5), .val (.int nn), .val (.int aa), .val (.int bb), .val (.int cc), .val (.int dd), .val (.int eb), .unset, .unset, .unset, .unset, .unset, .unset, .unset, .unset, .unset, .unset] []))) (fun t kt => ?_) ?_
          · show Steps p.tables e below (s₁.setTop (mkF m 70 _ [(.int bb), (.int cc)])) _
            refine XS.icmpNo X0.here hx rfl (hb hby at_70) rfl (feq (hc70 : ¬ (cc = bb))).1 ?_
            exact kt
          refine own_pre (B := (s₁.setTop (mkF m 78 #[.val (.int p1), .val (.int p2), .val (.int p3), .val (.int p4), .val (.int p5), .val (.int nn), .val (.int aa), .val (.int bb), .val (.int cc), .val (.int dd), .val (.int eb), .unset, .unset, .unset, .unset, .unset, .unset, .unset, .unset, .unset, .unset] [(.int (1 : Int32))]))) (fun t kt => ?_) ?_
          · show Steps p.tables e below (s₁.setTop (mkF m 73 _ [])) _
            refine XS.iconst X0.here hx rfl (hb hby at_73) ?_
            show Steps p.tables e below (s₁.setTop (mkF m 74 _ [(.int (1 : Int32))])) _
            refine XS.goto X0.here hx rfl (pc0 := 74) (pc' := 78) rfl (hb hby at_74) (by decide) (by decide) ?_
            exact kt
          exact J78 _ (Or.inl ⟨rfl, fun q => hc63 (Int32.toInt_inj.mp q), fun q => hc70 (Int32.toInt_inj.mp q)⟩)
    refine own_pre (B := (s₁.setTop (mkF m 49 #[.val (.int p1), .val (.int p2), .val (.int p3), .val (.int p4), .val (.int p5), .val (.int nn), .val (.int aa), .val (.int bb), .val (.int cc), .val (.int dd), .unset, .unset, .unset, .unset, .unset, .unset, .unset, .unset, .unset, .unset, .unset] [(.int aa), (.int bb)]))) (fun t kt => ?_) ?_
    · show Steps p.tables e below (s₁.setTop (mkF m 45 _ [])) _
      refine XS.iload X0.here hx rfl (hb hby at_45) rfl ?_
      show Steps p.tables e below (s₁.setTop (mkF m 47 _ [(.int bb)])) _
      refine XS.iload X0.here hx rfl (hb hby at_47) rfl ?_
      exact kt
    by_cases hc49 : bb = aa
    · refine own_pre (B := (s₁.setTop (mkF m 56 #[.val (.int p1), .val (.int p2), .val (.int p3), .val (.int p4), .val (.int p5), .val (.int nn), .val (.int aa), .val (.int bb), .val (.int cc), .val (.int dd), .unset, .unset, .unset, .unset, .unset, .unset, .unset, .unset, .unset, .unset, .unset] []))) (fun t kt => ?_) ?_
      · show Steps p.tables e below (s₁.setTop (mkF m 49 _ [(.int aa), (.int bb)])) _
        refine XS.icmpYes X0.here hx rfl (pc0 := 49) (pc' := 56) rfl (hb hby at_49) rfl (teq (hc49 : bb = aa)).1 (by decide) (by decide) ?_
        exact kt
      refine own_pre (B := (s₁.setTop (mkF m 57 #[.val (.int p1), .val (.int p2), .val (.int p3), .val (.int p4), .val (.int p5), .val (.int nn), .val (.int aa), .val (.int bb), .val (.int cc), .val (.int dd), .unset, .unset, .unset, .unset, .unset, .unset, .unset, .unset, .unset, .unset, .unset] [(.int (0 : Int32))]))) (fun t kt => ?_) ?_
      · show Steps p.tables e below (s₁.setTop (mkF m 56 _ [])) _
        refine XS.iconst X0.here hx rfl (hb hby at_56) ?_
        exact kt
      exact J57 _ (Or.inr ⟨rfl, congrArg Int32.toInt hc49⟩)
    · refine own_pre (B := (s₁.setTop (mkF m 52 #[.val (.int p1), .val (.int p2), .val (.int p3), .val (.int p4), .val (.int p5), .val (.int nn), .val (.int aa), .val (.int bb), .val (.int cc), .val (.int dd), .unset, .unset, .unset, .unset, .unset, .unset, .unset, .unset, .unset, .unset, .unset] []))) (fun t kt => ?_) ?_
      · show Steps p.tables e below (s₁.setTop (mkF m 49 _ [(.int aa), (.int bb)])) _
        refine XS.icmpNo X0.here hx rfl (hb hby at_49) rfl (feq (hc49 : ¬ (bb = aa))).1 ?_
        exact kt
      refine own_pre (B := (s₁.setTop (mkF m 57 #[.val (.int p1), .val (.int p2), .val (.int p3), .val (.int p4), .val (.int p5), .val (.int nn), .val (.int aa), .val (.int bb), .val (.int cc), .val (.int dd), .unset, .unset, .unset, .unset, .unset, .unset, .unset, .unset, .unset, .unset, .unset] [(.int (1 : Int32))]))) (fun t kt => ?_) ?_
      · show Steps p.tables e below (s₁.setTop (mkF m 52 _ [])) _
        refine XS.iconst X0.here hx rfl (hb hby at_52) ?_
        show Steps p.tables e below (s₁.setTop (mkF m 53 _ [(.int (1 : Int32))])) _
        refine XS.goto X0.here hx rfl (pc0 := 53) (pc' := 57) rfl (hb hby at_53) (by decide) (by decide) ?_
        exact kt
      exact J57 _ (Or.inl ⟨rfl, fun q => hc49 (Int32.toInt_inj.mp q)⟩)
  refine own_pre (B := (s₁.setTop (mkF m 45 #[.val (.int p1), .val (.int p2), .val (.int p3), .val (.int p4), .val (.int p5), .val (.int ((p1 &&& (7 : Int32)) + (1 : Int32))), .val (.int ((p2 &&& (2147483647 : Int32)) % ((p1 &&& (7 : Int32)) + (1 : Int32)))), .val (.int ((p3 &&& (2147483647 : Int32)) % ((p1 &&& (7 : Int32)) + (1 : Int32)))), .val (.int ((p4 &&& (2147483647 : Int32)) % ((p1 &&& (7 : Int32)) + (1 : Int32)))), .val (.int ((p5 &&& (2147483647 : Int32)) % ((p1 &&& (7 : Int32)) + (1 : Int32)))), .unset, .unset, .unset, .unset, .unset, .unset, .unset, .unset, .unset, .unset, .unset] []))) (fun t kt => ?_) ?_
  · show Steps p.tables e below (s₁.setTop (mkF m 0 _ [])) _
    refine XS.iloadN X0.here hx rfl (hb hby at_0) rfl ?_
    show Steps p.tables e below (s₁.setTop (mkF m 1 _ [(.int p1)])) _
    refine XS.bipush X0.here hx rfl (hb hby at_1) ?_
    show Steps p.tables e below (s₁.setTop (mkF m 3 _ [(.int (7 : Int32)), (.int p1)])) _
    refine XS.iand X0.here hx rfl (hb hby at_3) rfl ?_
    show Steps p.tables e below (s₁.setTop (mkF m 4 _ [(.int (p1 &&& (7 : Int32)))])) _
    refine XS.iconst X0.here hx rfl (hb hby at_4) ?_
    show Steps p.tables e below (s₁.setTop (mkF m 5 _ [(.int (1 : Int32)), (.int (p1 &&& (7 : Int32)))])) _
    refine XS.iadd X0.here hx rfl (hb hby at_5) rfl ?_
    show Steps p.tables e below (s₁.setTop (mkF m 6 _ [(.int ((p1 &&& (7 : Int32)) + (1 : Int32)))])) _
    refine XS.istore X0.here hx rfl (hb hby at_6) rfl (l' := #[.val (.int p1), .val (.int p2), .val (.int p3), .val (.int p4), .val (.int p5), .val (.int ((p1 &&& (7 : Int32)) + (1 : Int32))), .unset, .unset, .unset, .unset, .unset, .unset, .unset, .unset, .unset, .unset, .unset, .unset, .unset, .unset, .unset]) rfl ?_
    show Steps p.tables e below (s₁.setTop (mkF m 8 _ [])) _
    refine XS.iloadN X0.here hx rfl (hb hby at_8) rfl ?_
    show Steps p.tables e below (s₁.setTop (mkF m 9 _ [(.int p2)])) _
    refine X0.ldcInt hx hown (mvT hZ (hw _ (List.mem_of_getElem? (i := 0) rfl))) (g := (mkF m 9 #[.val (.int p1), .val (.int p2), .val (.int p3), .val (.int p4), .val (.int p5), .val (.int ((p1 &&& (7 : Int32)) + (1 : Int32))), .unset, .unset, .unset, .unset, .unset, .unset, .unset, .unset, .unset, .unset, .unset, .unset, .unset, .unset, .unset] [(.int p2)])) rfl (hb hby at_9) _ ?_
    show Steps p.tables e below (s₁.setTop (mkF m 11 _ [(.int (2147483647 : Int32)), (.int p2)])) _
    refine XS.iand X0.here hx rfl (hb hby at_11) rfl ?_
    show Steps p.tables e below (s₁.setTop (mkF m 12 _ [(.int (p2 &&& (2147483647 : Int32)))])) _
    refine XS.iload X0.here hx rfl (hb hby at_12) rfl ?_
    show Steps p.tables e below (s₁.setTop (mkF m 14 _ [(.int ((p1 &&& (7 : Int32)) + (1 : Int32))), (.int (p2 &&& (2147483647 : Int32)))])) _
    refine iremM X0 hx rfl (hb hby at_14) rfl (own_nz p1) ?_
    show Steps p.tables e below (s₁.setTop (mkF m 15 _ [(.int ((p2 &&& (2147483647 : Int32)) % ((p1 &&& (7 : Int32)) + (1 : Int32))))])) _
    refine XS.istore X0.here hx rfl (hb hby at_15) rfl (l' := #[.val (.int p1), .val (.int p2), .val (.int p3), .val (.int p4), .val (.int p5), .val (.int ((p1 &&& (7 : Int32)) + (1 : Int32))), .val (.int ((p2 &&& (2147483647 : Int32)) % ((p1 &&& (7 : Int32)) + (1 : Int32)))), .unset, .unset, .unset, .unset, .unset, .unset, .unset, .unset, .unset, .unset, .unset, .unset, .unset, .unset]) rfl ?_
    show Steps p.tables e below (s₁.setTop (mkF m 17 _ [])) _
    refine XS.iloadN X0.here hx rfl (hb hby at_17) rfl ?_
    show Steps p.tables e below (s₁.setTop (mkF m 18 _ [(.int p3)])) _
    refine X0.ldcInt hx hown (mvT hZ (hw _ (List.mem_of_getElem? (i := 0) rfl))) (g := (mkF m 18 #[.val (.int p1), .val (.int p2), .val (.int p3), .val (.int p4), .val (.int p5), .val (.int ((p1 &&& (7 : Int32)) + (1 : Int32))), .val (.int ((p2 &&& (2147483647 : Int32)) % ((p1 &&& (7 : Int32)) + (1 : Int32)))), .unset, .unset, .unset, .unset, .unset, .unset, .unset, .unset, .unset, .unset, .unset, .unset, .unset, .unset] [(.int p3)])) rfl (hb hby at_18) _ ?_
    show Steps p.tables e below (s₁.setTop (mkF m 20 _ [(.int (2147483647 : Int32)), (.int p3)])) _
    refine XS.iand X0.here hx rfl (hb hby at_20) rfl ?_
    show Steps p.tables e below (s₁.setTop (mkF m 21 _ [(.int (p3 &&& (2147483647 : Int32)))])) _
    refine XS.iload X0.here hx rfl (hb hby at_21) rfl ?_
    show Steps p.tables e below (s₁.setTop (mkF m 23 _ [(.int ((p1 &&& (7 : Int32)) + (1 : Int32))), (.int (p3 &&& (2147483647 : Int32)))])) _
    refine iremM X0 hx rfl (hb hby at_23) rfl (own_nz p1) ?_
    show Steps p.tables e below (s₁.setTop (mkF m 24 _ [(.int ((p3 &&& (2147483647 : Int32)) % ((p1 &&& (7 : Int32)) + (1 : Int32))))])) _
    refine XS.istore X0.here hx rfl (hb hby at_24) rfl (l' := #[.val (.int p1), .val (.int p2), .val (.int p3), .val (.int p4), .val (.int p5), .val (.int ((p1 &&& (7 : Int32)) + (1 : Int32))), .val (.int ((p2 &&& (2147483647 : Int32)) % ((p1 &&& (7 : Int32)) + (1 : Int32)))), .val (.int ((p3 &&& (2147483647 : Int32)) % ((p1 &&& (7 : Int32)) + (1 : Int32)))), .unset, .unset, .unset, .unset, .unset, .unset, .unset, .unset, .unset, .unset, .unset, .unset, .unset]) rfl ?_
    show Steps p.tables e below (s₁.setTop (mkF m 26 _ [])) _
    refine XS.iloadN X0.here hx rfl (hb hby at_26) rfl ?_
    show Steps p.tables e below (s₁.setTop (mkF m 27 _ [(.int p4)])) _
    refine X0.ldcInt hx hown (mvT hZ (hw _ (List.mem_of_getElem? (i := 0) rfl))) (g := (mkF m 27 #[.val (.int p1), .val (.int p2), .val (.int p3), .val (.int p4), .val (.int p5), .val (.int ((p1 &&& (7 : Int32)) + (1 : Int32))), .val (.int ((p2 &&& (2147483647 : Int32)) % ((p1 &&& (7 : Int32)) + (1 : Int32)))), .val (.int ((p3 &&& (2147483647 : Int32)) % ((p1 &&& (7 : Int32)) + (1 : Int32)))), .unset, .unset, .unset, .unset, .unset, .unset, .unset, .unset, .unset, .unset, .unset, .unset, .unset] [(.int p4)])) rfl (hb hby at_27) _ ?_
    show Steps p.tables e below (s₁.setTop (mkF m 29 _ [(.int (2147483647 : Int32)), (.int p4)])) _
    refine XS.iand X0.here hx rfl (hb hby at_29) rfl ?_
    show Steps p.tables e below (s₁.setTop (mkF m 30 _ [(.int (p4 &&& (2147483647 : Int32)))])) _
    refine XS.iload X0.here hx rfl (hb hby at_30) rfl ?_
    show Steps p.tables e below (s₁.setTop (mkF m 32 _ [(.int ((p1 &&& (7 : Int32)) + (1 : Int32))), (.int (p4 &&& (2147483647 : Int32)))])) _
    refine iremM X0 hx rfl (hb hby at_32) rfl (own_nz p1) ?_
    show Steps p.tables e below (s₁.setTop (mkF m 33 _ [(.int ((p4 &&& (2147483647 : Int32)) % ((p1 &&& (7 : Int32)) + (1 : Int32))))])) _
    refine XS.istore X0.here hx rfl (hb hby at_33) rfl (l' := #[.val (.int p1), .val (.int p2), .val (.int p3), .val (.int p4), .val (.int p5), .val (.int ((p1 &&& (7 : Int32)) + (1 : Int32))), .val (.int ((p2 &&& (2147483647 : Int32)) % ((p1 &&& (7 : Int32)) + (1 : Int32)))), .val (.int ((p3 &&& (2147483647 : Int32)) % ((p1 &&& (7 : Int32)) + (1 : Int32)))), .val (.int ((p4 &&& (2147483647 : Int32)) % ((p1 &&& (7 : Int32)) + (1 : Int32)))), .unset, .unset, .unset, .unset, .unset, .unset, .unset, .unset, .unset, .unset, .unset, .unset]) rfl ?_
    show Steps p.tables e below (s₁.setTop (mkF m 35 _ [])) _
    refine XS.iload X0.here hx rfl (hb hby at_35) rfl ?_
    show Steps p.tables e below (s₁.setTop (mkF m 37 _ [(.int p5)])) _
    refine X0.ldcInt hx hown (mvT hZ (hw _ (List.mem_of_getElem? (i := 0) rfl))) (g := (mkF m 37 #[.val (.int p1), .val (.int p2), .val (.int p3), .val (.int p4), .val (.int p5), .val (.int ((p1 &&& (7 : Int32)) + (1 : Int32))), .val (.int ((p2 &&& (2147483647 : Int32)) % ((p1 &&& (7 : Int32)) + (1 : Int32)))), .val (.int ((p3 &&& (2147483647 : Int32)) % ((p1 &&& (7 : Int32)) + (1 : Int32)))), .val (.int ((p4 &&& (2147483647 : Int32)) % ((p1 &&& (7 : Int32)) + (1 : Int32)))), .unset, .unset, .unset, .unset, .unset, .unset, .unset, .unset, .unset, .unset, .unset, .unset] [(.int p5)])) rfl (hb hby at_37) _ ?_
    show Steps p.tables e below (s₁.setTop (mkF m 39 _ [(.int (2147483647 : Int32)), (.int p5)])) _
    refine XS.iand X0.here hx rfl (hb hby at_39) rfl ?_
    show Steps p.tables e below (s₁.setTop (mkF m 40 _ [(.int (p5 &&& (2147483647 : Int32)))])) _
    refine XS.iload X0.here hx rfl (hb hby at_40) rfl ?_
    show Steps p.tables e below (s₁.setTop (mkF m 42 _ [(.int ((p1 &&& (7 : Int32)) + (1 : Int32))), (.int (p5 &&& (2147483647 : Int32)))])) _
    refine iremM X0 hx rfl (hb hby at_42) rfl (own_nz p1) ?_
    show Steps p.tables e below (s₁.setTop (mkF m 43 _ [(.int ((p5 &&& (2147483647 : Int32)) % ((p1 &&& (7 : Int32)) + (1 : Int32))))])) _
    refine XS.istore X0.here hx rfl (hb hby at_43) rfl (l' := #[.val (.int p1), .val (.int p2), .val (.int p3), .val (.int p4), .val (.int p5), .val (.int ((p1 &&& (7 : Int32)) + (1 : Int32))), .val (.int ((p2 &&& (2147483647 : Int32)) % ((p1 &&& (7 : Int32)) + (1 : Int32)))), .val (.int ((p3 &&& (2147483647 : Int32)) % ((p1 &&& (7 : Int32)) + (1 : Int32)))), .val (.int ((p4 &&& (2147483647 : Int32)) % ((p1 &&& (7 : Int32)) + (1 : Int32)))), .val (.int ((p5 &&& (2147483647 : Int32)) % ((p1 &&& (7 : Int32)) + (1 : Int32)))), .unset, .unset, .unset, .unset, .unset, .unset, .unset, .unset, .unset, .unset, .unset]) rfl ?_
    exact kt
  exact K45 _ _ _ _ _ (own_n p1).1 (own_n p1).2 (own_rem p1 p2) (own_rem p1 p3) (own_rem p1 p4) (own_rem p1 p5)
set_option maxRecDepth 65536 in
set_option maxHeartbeats 40000000 in
theorem comes_1 {Post : Tables → Env → Array Value → State → Outcome → State → Prop} (hpost : ∀ tb e args s v u, (limb_1_1.after args s (.returned v) u = true ∧ limb_1_2.after args s (.returned v) u = true ∧ True) → FrameEnd s (.returned v) u (Jvm.fieldLocs frame_1_writes args s ++ Jvm.arrayLocs frame_1_arrays args s ++ Jvm.staticLocs frame_1_statics s) 16 128 → Post tb e args s (.returned v) u) :
    ArmFor flags0 classFile x code maxLocals ret World_1 tables_1 room_1 Calls_1 rest_1 Pre_1 Post := by
  intro l hfl _ _ p e ha hc hk s m args below hf hA hF happ hP
  obtain ⟨hcalls, hrest, hpre⟩ := hP
  obtain ⟨-, -, -, hnamed, -, -, -, hat⟩ := (Spec.applies_iff hf).mp happ
  obtain ⟨hg, hn⟩ := and_e (Cond.before_iff.mp (show (Jvm.Cond.and given_1 narrow_1).before args s = true from hpre))
  obtain ⟨gc, gr0⟩ := and_e hg
  obtain ⟨ga0, gr1⟩ := and_e gr0
  obtain ⟨ga1, gr2⟩ := and_e gr1
  obtain ⟨ga2, gr3⟩ := and_e gr2
  obtain ⟨ga3, gr4⟩ := and_e gr3
  obtain ⟨w0, w1, w2, w3, w4, rfl⟩ : ∃ w0 w1 w2 w3 w4 : Value, args = #[w0, w1, w2, w3, w4] := by
    have hs : args.size = 5 := by simpa [Cond.value, given_1] using gc
    obtain ⟨L⟩ := args
    match L, hs with
    | [w0, w1, w2, w3, w4], _ => exact ⟨w0, w1, w2, w3, w4, rfl⟩
  have hw := fun d (hd : d ∈ tables_1) => atoms_spec (ws := Jvm.Cond.code x code maxLocals ret :: tables_1) hat d (List.mem_cons_of_mem _ hd)
  have hfit : Fit s := fun {y c} hc i hi => by
    obtain ⟨ha, rfl⟩ := Array.getElem?_eq_some_iff.mp hc
    have q := List.all_eq_true.mp ((Array.all_eq_true_iff_forall_mem.mp hF) _ (Array.getElem_mem ha)) i (List.mem_range.mpr hi)
    simpa [Array.getElem?_eq_getElem hi] using q
  obtain ⟨i0, ei0⟩ := is_v ga0
  obtain rfl : w0 = (.int i0) := Option.some.inj ei0
  obtain ⟨i1, ei1⟩ := is_v ga1
  obtain rfl : w1 = (.int i1) := Option.some.inj ei1
  obtain ⟨i2, ei2⟩ := is_v ga2
  obtain rfl : w2 = (.int i2) := Option.some.inj ei2
  obtain ⟨i3, ei3⟩ := is_v ga3
  obtain rfl : w3 = (.int i3) := Option.some.inj ei3
  obtain ⟨i4, ei4⟩ := is_v gr4
  obtain rfl : w4 = (.int i4) := Option.some.inj ei4
  obtain ⟨n, o, h1, h2, h3, _, L, rfl, ⟨rfl, N⟩, hq⟩ := rm0 l s _ hw tables_1 i0 i1 i2 i3 i4 s.heap s.heap.size (Nat.le_refl _)  p e ha hc hk s m _ below hf ((Spec.applies_iff_loose hf).mp happ).1 ⟨rfl, State.Warmed39.refl s, rfl⟩ trivial
  refine ⟨n, _, h1, h2, h3, hpost _ _ _ _ _ _ ⟨Cond.after_iff.mpr rfl, Cond.after_iff.mpr (eq_i res_at (Term.int_eval (1)) rfl), trivial⟩ ⟨hq.1, hq.2.1, (hq.2.2.sift fun y hy => Or.inr (N y hy)).mono (by decide) (by decide)⟩⟩
theorem main_1_1 : Claimed_1_1 := comes_1 fun _ _ _ _ _ _ h hF => ⟨h.1, hF⟩
theorem main_1_2 : Claimed_1_2 := comes_1 fun _ _ _ _ _ _ h hF => ⟨h.2.1, hF⟩
end Jvm.Pilot.@@N@@
namespace Jvm.Pilot.@@N@@
open Jvm Jvm.ClassFile Sem Op Lib Jvm.Free Jvm.Stand Jvm.Pilot.@@N@@.Jvm.D
/-! MADE BY PROGRAM (witnessworld.py) out of the Statement's table words and the real class files: 11 classes; the members and pool entries that the words name. The judged class is class 1, her method 1. -/
namespace start1
open Jvm.ClassFile
def u (s : String) : CpInfo := .utf8 (stringToUtf16 s)
/-- a pool by its gaps: so many unusable entries, then the entry; so many at the end -/
def gap : Nat → List CpInfo → List CpInfo
  | 0, r => r
  | n + 1, r => .unusable :: gap n r
def poolList (es : List (Nat × CpInfo)) (last : Nat) : List CpInfo := es.foldr (fun e r => gap e.1 (e.2 :: r)) (gap last [])
def pool (es : List (Nat × CpInfo)) (last : Nat) : Array CpInfo := ⟨poolList es last⟩
def fileOf (pool : Array CpInfo) (this : Nat) (attrs : Array Attribute := #[]) (ms : Array MethodInfo := #[]) (fl : Nat := 33) (sup : Nat := 0) (ifs : Array Nat := #[]) (fds : Array FieldInfo := #[]) : ClassFile where
  minorVersion := 0
  majorVersion := 65
  constantPool := pool
  accessFlags := fl
  thisClass := this
  superClass := sup
  interfaces := ifs
  fields := fds
  methods := ms
  attributes := attrs
def plain (name : String) (sup : Option ClassId) : Class where
  name := name
  kind := .ordinary
  loader := none
  accessFlags := 33
  super := sup
  interfaces := #[]
  cf := none
  fields := #[]
  methods := #[]
  instanceTypes := #[]
  staticTypes := #[]
  resolved := #[]
  callSites := []
  init := .initialized
  statics := none
  mirror := none

def pool0 : Array CpInfo := pool [(5, u "<init>"), (0, u "()V"), (1, .class_ 10), (1, u "java/lang/Object")] 113

def k0c0 : Code := { maxStack := 0, maxLocals := 1, code := object_method_1_code, exceptionTable := #[], attributes := #[] }
def k0m0 : Method := { name := "<init>", desc := "()V", sig := { parameters := [], returnType := none }, accessFlags := 1, code := some k0c0 }
/-- java/lang/Object -/
def k0 : Class := { plain "java/lang/Object" none with
  accessFlags := 33
  interfaces := #[]
  cf := some (fileOf pool0 8 #[] #[{ accessFlags := 1, nameIndex := 5, descriptorIndex := 6, attributes := #[] }] 33 0 #[] #[])
  fields := #[]
  methods := #[k0m0]
  instanceTypes := #[]
  staticTypes := #[]
  resolved := Array.replicate 124 none
  statics := none }

def pool1 : Array CpInfo := pool [(2, .class_ 4), (1, u "java/lang/Object"), (0, u "<init>"), (0, u "()V"), (0, .integer 2147483647), (0, .class_ 9), (0, u "com/example/faregraph/faregraph/search/Members"), (0, .methodref 8 11), (0, .nameAndType 5 12), (0, u "(I)V"), (0, .methodref 8 14), (0, .nameAndType 15 16), (0, u "add"), (0, u "(I)Z"), (0, .methodref 8 18), (0, .nameAndType 19 20), (0, u "count"), (0, u "()I"), (0, .methodref 8 22), (0, .nameAndType 23 24), (0, u "get"), (0, u "(I)I"), (0, .class_ 26), (0, u "com/example/faregraph/faregraph/search/MembersAddPinLaw"), (2, u "law"), (0, u "(IIIII)Z")] 5

def k1m0 : Method := { name := "<init>", desc := "()V", sig := { parameters := [], returnType := none }, accessFlags := 1, code := none }
def k1c1 : Code := { maxStack := 3, maxLocals := 21, code := code, exceptionTable := #[], attributes := #[] }
def k1m1 : Method := { name := "law", desc := "(IIIII)Z", sig := { parameters := [.int, .int, .int, .int, .int], returnType := some .boolean }, accessFlags := 9, code := some k1c1 }
/-- com/example/faregraph/faregraph/search/MembersAddPinLaw -/
def k1 : Class := { plain "com/example/faregraph/faregraph/search/MembersAddPinLaw" (some 0) with
  accessFlags := 49
  interfaces := #[]
  cf := some (fileOf pool1 25 #[] #[{ accessFlags := 1, nameIndex := 5, descriptorIndex := 6, attributes := #[] }, { accessFlags := 9, nameIndex := 29, descriptorIndex := 30, attributes := #[] }] 49 2 #[] #[])
  fields := #[]
  methods := #[k1m0, k1m1]
  instanceTypes := #[]
  staticTypes := #[]
  resolved := Array.replicate 36 none
  statics := none }

def pool2 : Array CpInfo := pool [(1, .methodref 2 3), (0, .class_ 4), (0, .nameAndType 5 6), (0, u "java/lang/Object"), (0, u "<init>"), (0, u "()V"), (0, .fieldref 8 9), (0, .class_ 10), (0, .nameAndType 11 12), (0, u "com/example/faregraph/faregraph/search/Members"), (0, u "member"), (0, u "[Z"), (0, .fieldref 8 14), (0, .nameAndType 15 16), (0, u "members"), (0, u "[I"), (0, .fieldref 8 18), (0, .nameAndType 19 20), (0, u "count"), (0, u "I"), (0, u "(I)V"), (2, u "add"), (0, u "(I)Z"), (1, u "()I"), (0, u "get"), (0, u "(I)I")] 3

def k2c0 : Code := { maxStack := 2, maxLocals := 2, code := prog_85_method_1_code, exceptionTable := #[], attributes := #[] }
def k2m0 : Method := { name := "<init>", desc := "(I)V", sig := { parameters := [.int], returnType := none }, accessFlags := 0, code := some k2c0 }
def k2c1 : Code := { maxStack := 5, maxLocals := 2, code := prog_85_method_2_code, exceptionTable := #[], attributes := #[] }
def k2m1 : Method := { name := "add", desc := "(I)Z", sig := { parameters := [.int], returnType := some .boolean }, accessFlags := 0, code := some k2c1 }
def k2c2 : Code := { maxStack := 1, maxLocals := 1, code := prog_85_method_3_code, exceptionTable := #[], attributes := #[] }
def k2m2 : Method := { name := "count", desc := "()I", sig := { parameters := [], returnType := some .int }, accessFlags := 0, code := some k2c2 }
def k2c3 : Code := { maxStack := 2, maxLocals := 2, code := prog_85_method_4_code, exceptionTable := #[], attributes := #[] }
def k2m3 : Method := { name := "get", desc := "(I)I", sig := { parameters := [.int], returnType := some .int }, accessFlags := 0, code := some k2c3 }
/-- com/example/faregraph/faregraph/search/Members -/
def k2 : Class := { plain "com/example/faregraph/faregraph/search/Members" (some 0) with
  accessFlags := 48
  interfaces := #[]
  cf := some (fileOf pool2 8 #[] #[{ accessFlags := 0, nameIndex := 5, descriptorIndex := 21, attributes := #[] }, { accessFlags := 0, nameIndex := 24, descriptorIndex := 25, attributes := #[] }, { accessFlags := 0, nameIndex := 19, descriptorIndex := 27, attributes := #[] }, { accessFlags := 0, nameIndex := 28, descriptorIndex := 29, attributes := #[] }] 48 2 #[] #[{ accessFlags := 18, nameIndex := 11, descriptorIndex := 12, attributes := #[] }, { accessFlags := 18, nameIndex := 15, descriptorIndex := 16, attributes := #[] }, { accessFlags := 2, nameIndex := 19, descriptorIndex := 20, attributes := #[] }])
  fields := #[{ name := "member", type := (.array .boolean), accessFlags := 18, slot := 0, constantValue := 0 }, { name := "members", type := (.array .int), accessFlags := 18, slot := 1, constantValue := 0 }, { name := "count", type := .int, accessFlags := 2, slot := 2, constantValue := 0 }]
  methods := #[k2m0, k2m1, k2m2, k2m3]
  instanceTypes := #[(.array .boolean), (.array .int), .int]
  staticTypes := #[]
  resolved := Array.replicate 33 none
  statics := none }

def pool3 : Array CpInfo := pool [(1, u "java/lang/Cloneable"), (0, .class_ 1), (0, u "java/lang/Object"), (0, .class_ 3)] 3

/-- java/lang/Cloneable -/
def k3 : Class := { plain "java/lang/Cloneable" (some 0) with
  accessFlags := 1537
  interfaces := #[]
  cf := some (fileOf pool3 2 #[] #[] 1537 4 #[] #[])
  fields := #[]
  methods := #[]
  instanceTypes := #[]
  staticTypes := #[]
  resolved := Array.replicate 8 none
  statics := none }

def pool4 : Array CpInfo := pool [(1, u "java/io/Serializable"), (0, .class_ 1), (0, u "java/lang/Object"), (0, .class_ 3)] 3

/-- java/io/Serializable -/
def k4 : Class := { plain "java/io/Serializable" (some 0) with
  accessFlags := 1537
  interfaces := #[]
  cf := some (fileOf pool4 2 #[] #[] 1537 4 #[] #[])
  fields := #[]
  methods := #[]
  instanceTypes := #[]
  staticTypes := #[]
  resolved := Array.replicate 8 none
  statics := none }

/-- the primitive boolean -/
def k5 : Class := { plain "boolean" none with kind := .primitive 'Z', accessFlags := 0x411 }
/-- [Z -/
def k6 : Class := { plain "[Z" (some 0) with kind := .array 5 .boolean, interfaces := #[3, 4], accessFlags := 1041 }

/-- the primitive byte -/
def k7 : Class := { plain "byte" none with kind := .primitive 'B', accessFlags := 0x411 }
/-- [B -/
def k8 : Class := { plain "[B" (some 0) with kind := .array 7 .byte, interfaces := #[3, 4], accessFlags := 1041 }

/-- the primitive int -/
def k9 : Class := { plain "int" none with kind := .primitive 'I', accessFlags := 0x411 }
/-- [I -/
def k10 : Class := { plain "[I" (some 0) with kind := .array 9 .int, interfaces := #[3, 4], accessFlags := 1041 }

def heap : Heap := #[]
def classes : Array Class := #[k0, k1, k2, k3, k4, k5, k6, k7, k8, k9, k10]
def interned : List (Array UInt16 × Addr) := []
def slotsUsed : Nat := 0
def theMethod : MethodId := ⟨1, 1⟩
def args0 : Array Value := #[.int 5, .int 1, .int 2, .int 3, .int 4]
def aboutOver (below : List Frame) : State where
  vm := { classes := classes, interned := interned.toArray }
  heap := heap
  slotsUsed := slotsUsed
  threads := #[{ frames := .invoking theMethod args0 :: below }]
def below0 : List Frame := [.native { method := ⟨0, 0⟩, args := #[] }]
def about1 : State := aboutOver below0
def p0 : Program := .bare "" "" ""
def e0 : Env := launch0.env 0 0 0
theorem w_frames : about1.frames = Frame.invoking theMethod args0 :: below0 := rfl
set_option maxRecDepth 65536 in
theorem w_args : argsFit about1.vm theMethod args0 = true := by decide +kernel
set_option maxRecDepth 65536 in
theorem w_heap : heapFits about1 = true := by decide +kernel
set_option maxRecDepth 65536 in
theorem w_runnable : about1.curStatus? = some .runnable := by decide +kernel
set_option maxRecDepth 65536 in
theorem w_alone : about1.alone = true := by decide +kernel
set_option maxRecDepth 65536 in
theorem w_named : about1.methodNamed? x = some theMethod := by decide +kernel
set_option maxRecDepth 65536 in
theorem w_hears : about1.hears theMethod below0 = true := by decide +kernel
set_option maxRecDepth 65536 in
theorem w_ripe : about1.ripe theMethod args0 below0 = true := by decide +kernel
theorem w_running : about1.status = .running := rfl
set_option maxRecDepth 65536 in
theorem w_room : about1.hasRoom e0.platform room_1 = true :=
  launch0.hasRoom_least _ room_1 (by decide +kernel) (by decide +kernel) (by decide +kernel) (by decide +kernel) (by decide +kernel) (by decide +kernel)
theorem allAtoms_all (ts : List Jvm.Cond) (a : Array Jvm.Value) (st : Jvm.State) : (allAtoms ts).before a st = ts.all (fun c => c.before a st) := by
  induction ts with
  | nil => rfl
  | cons c t ih =>
    show (Jvm.Cond.and c (allAtoms t)).before a st = _
    rw [Jvm.Cond.before_and, ih, List.all_cons]
def words1 : List Jvm.Cond := Jvm.Cond.code x code maxLocals ret :: tables_1
/-- a 'code' word, met by the world's own term for the bytes: nothing is compared byte by byte -/
theorem code_word {y : MethodName} {bytes : ByteArray} {mx : Nat} {rt : Option FieldType} {a : Array Value} {s : State} {m : MethodId} {meth : Method} {c : Code} (h1 : s.methodNamed? y = some m) (h2 : s.vm.method? m = some meth) (h3 : meth.code = some c) (h4 : c.code = bytes)
    (h5 : (c.maxLocals == mx && c.exceptionTable.isEmpty && decide (c.maxStack ≤ mostOperands) && decide (meth.sig.returnType = rt) && !meth.locks && decide (parseMethodDescriptor y.desc = some meth.sig)) = true) : (Jvm.Cond.code y bytes mx rt).before a s = true := by
  simp only [Bool.and_eq_true, beq_iff_eq, Bool.not_eq_true', decide_eq_true_eq] at h5
  obtain ⟨⟨⟨⟨⟨g1, g2⟩, g3⟩, g4⟩, g5⟩, g6⟩ := h5
  simp [Cond.before, Cond.holds, Cond.value, h1, h2, h3, h4, g1, g2, g3, g4, g5, g6]
def isCode : Jvm.Cond → Bool
  | .code _ _ _ _ => true
  | _ => false
theorem all_split {L : List Jvm.Cond} {P : Jvm.Cond → Bool} (h1 : L.all (fun c => isCode c || P c) = true) (h2 : ∀ c ∈ L.filter isCode, P c = true) : L.all P = true := by
  refine List.all_eq_true.mpr fun c hc => ?_
  have h := List.all_eq_true.mp h1 c hc
  rcases Bool.eq_false_or_eq_true (isCode c) with hi | hi
  · exact h2 c (List.mem_filter.mpr ⟨hc, hi⟩)
  · simpa [hi] using h
set_option maxRecDepth 65536 in
theorem w_c0 : (Jvm.Cond.code x code maxLocals ret).before args0 about1 = true := code_word (m := ⟨1, 1⟩) (meth := k1m1) (c := k1c1) (by decide +kernel) rfl rfl rfl (by decide +kernel)
set_option maxRecDepth 65536 in
theorem w_c1 : (Jvm.Cond.code ({ cls := "com/example/faregraph/faregraph/search/Members", name := "<init>", desc := "(I)V" } : Jvm.MethodName) prog_85_method_1_code (2 : Nat) (Option.none : Option Jvm.ClassFile.FieldType)).before args0 about1 = true := code_word (m := ⟨2, 0⟩) (meth := k2m0) (c := k2c0) (by decide +kernel) rfl rfl rfl (by decide +kernel)
set_option maxRecDepth 65536 in
theorem w_c2 : (Jvm.Cond.code ({ cls := "java/lang/Object", name := "<init>", desc := "()V" } : Jvm.MethodName) object_method_1_code (1 : Nat) (Option.none : Option Jvm.ClassFile.FieldType)).before args0 about1 = true := code_word (m := ⟨0, 0⟩) (meth := k0m0) (c := k0c0) (by decide +kernel) rfl rfl rfl (by decide +kernel)
set_option maxRecDepth 65536 in
theorem w_c3 : (Jvm.Cond.code ({ cls := "com/example/faregraph/faregraph/search/Members", name := "add", desc := "(I)Z" } : Jvm.MethodName) prog_85_method_2_code (2 : Nat) (Option.some Jvm.ClassFile.FieldType.boolean)).before args0 about1 = true := code_word (m := ⟨2, 1⟩) (meth := k2m1) (c := k2c1) (by decide +kernel) rfl rfl rfl (by decide +kernel)
set_option maxRecDepth 65536 in
theorem w_c4 : (Jvm.Cond.code ({ cls := "com/example/faregraph/faregraph/search/Members", name := "count", desc := "()I" } : Jvm.MethodName) prog_85_method_3_code (1 : Nat) (Option.some Jvm.ClassFile.FieldType.int)).before args0 about1 = true := code_word (m := ⟨2, 2⟩) (meth := k2m2) (c := k2c2) (by decide +kernel) rfl rfl rfl (by decide +kernel)
set_option maxRecDepth 65536 in
theorem w_c5 : (Jvm.Cond.code ({ cls := "com/example/faregraph/faregraph/search/Members", name := "get", desc := "(I)I" } : Jvm.MethodName) prog_85_method_4_code (2 : Nat) (Option.some Jvm.ClassFile.FieldType.int)).before args0 about1 = true := code_word (m := ⟨2, 3⟩) (meth := k2m3) (c := k2c3) (by decide +kernel) rfl rfl rfl (by decide +kernel)
def codes1 : List Jvm.Cond := [Jvm.Cond.code x code maxLocals ret, Jvm.Cond.code ({ cls := "com/example/faregraph/faregraph/search/Members", name := "<init>", desc := "(I)V" } : Jvm.MethodName) prog_85_method_1_code (2 : Nat) (Option.none : Option Jvm.ClassFile.FieldType), Jvm.Cond.code ({ cls := "java/lang/Object", name := "<init>", desc := "()V" } : Jvm.MethodName) object_method_1_code (1 : Nat) (Option.none : Option Jvm.ClassFile.FieldType), Jvm.Cond.code ({ cls := "com/example/faregraph/faregraph/search/Members", name := "add", desc := "(I)Z" } : Jvm.MethodName) prog_85_method_2_code (2 : Nat) (Option.some Jvm.ClassFile.FieldType.boolean), Jvm.Cond.code ({ cls := "com/example/faregraph/faregraph/search/Members", name := "count", desc := "()I" } : Jvm.MethodName) prog_85_method_3_code (1 : Nat) (Option.some Jvm.ClassFile.FieldType.int), Jvm.Cond.code ({ cls := "com/example/faregraph/faregraph/search/Members", name := "get", desc := "(I)I" } : Jvm.MethodName) prog_85_method_4_code (2 : Nat) (Option.some Jvm.ClassFile.FieldType.int)]
set_option maxRecDepth 65536 in
theorem codes_eq : words1.filter isCode = codes1 := rfl
theorem w_codes : ∀ c ∈ words1.filter isCode, c.before args0 about1 = true := by
  rw [codes_eq]
  intro c hc
  simp only [codes1, List.mem_cons, List.not_mem_nil, or_false] at hc
  rcases hc with rfl | rfl | rfl | rfl | rfl | rfl
  · exact w_c0
  · exact w_c1
  · exact w_c2
  · exact w_c3
  · exact w_c4
  · exact w_c5
set_option maxRecDepth 65536 in
theorem w_t1 : (words1.take 24).all (fun c => isCode c || c.before args0 about1) = true := by decide +kernel
set_option maxRecDepth 65536 in
theorem w_t2 : (words1.drop 24).all (fun c => isCode c || c.before args0 about1) = true := by decide +kernel
theorem w_tables : (allAtoms (Jvm.Cond.code x code maxLocals ret :: tables_1)).before args0 about1 = true := by
  rw [allAtoms_all]
  show words1.all (fun c => c.before args0 about1) = true
  refine all_split ?_ w_codes
  rw [← List.take_append_drop 24 words1, List.all_append, w_t1, w_t2]
  rfl
set_option maxRecDepth 65536 in
theorem w_case : (Jvm.Cond.and given_1 narrow_1).before args0 about1 = true := by decide +kernel
theorem w_applies : (headSpec (Jvm.Cond.code x code maxLocals ret :: tables_1) room_1).applies x e0.platform about1 = true :=
  (Spec.applies_iff w_frames).mpr ⟨w_running, w_runnable, w_alone, w_named, w_hears, w_ripe, w_room, w_tables⟩
theorem atStart : AtStart classFile x code maxLocals ret World_1 tables_1 room_1 Calls_1 rest_1 Pre_1 launch0 p0 e0 about1 theMethod args0 below0 :=
  ⟨lists_1, trivial, launch0.admits_env _ _ _, launch0.least_env, fairChoices_fair.cas, fairChoices_fair.clock, w_frames, w_args, w_heap, w_applies, trivial, trivial, w_case⟩
end start1
theorem witness_1 : WitnessClaimed_1 := ⟨start1.p0, start1.e0, start1.about1, start1.theMethod, start1.args0, start1.below0, start1.atStart⟩
end Jvm.Pilot.@@N@@
