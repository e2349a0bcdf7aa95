import JvmDerived
import JvmDerived.Pilot.@@N@@Statement
import JvmDerived.Pilot.@@N@@Code
set_option linter.unusedVariables false
set_option linter.unusedSimpArgs false
namespace Jvm.RoadKit
open Sem ClassFile Op Lib Jvm.Stand Jvm.Free Jvm.LawKit
section New
variable {p : Program} {l : Launch} {e : Env} {R : Room} {s : State} {m : MethodId} {args : Array Value} {below : List Frame} {meth : Method} {c : Code} {T : State} {locs : List Loc} {cells slots : Nat}
theorem retI (X : Stand p l e R s m args below meth c T locs cells slots) (hx : p.tables.exec = Jvm.exec) {pc : Nat} {Ls : Array Slot} {z : Int32} {rest : List Value} (hret : meth.sig.returnType = some .int) (hd : decode c.code pc = .ok (.ireturn, 1)) {fs : List Frame}
    (hl : ∀ (f : JFrame) (acts : List Action), f.method = m → f.locked = none → f.entered = [] → (doReturn e (T.setTop f) acts (some (.int z))).1 = T.setFrames fs) : Steps p.tables e below (T.setTop (mkF m pc Ls (.int z :: rest))) (T.setFrames fs) := by
  have hm' : T.vm.method? m = some meth := X.method'
  have hn : narrow .int (.int z) = .int z := rfl
  show Steps p.tables e below (T.setTop { method := m, pc := pc, locals := Ls, stack := _ :: rest, locked := none }) _
  jvm_step X.here [X.here.top, hx, hd, hm', hret, hn]
  first | (intro acts; rw [hl _ acts rfl rfl rfl]) | rw [hl _ _ rfl rfl rfl]
  exact Steps.refl _
end New
end Jvm.RoadKit
@@BLOCK:NumsL.lean.txt@@
namespace Jvm.Pilot.@@N@@
open Jvm Jvm.ClassFile Sem Op Lib Jvm.Free Jvm.Stand Jvm.LawKit Jvm.RoadKit Bundle Jvm.Pilot.@@N@@.Jvm.D
/-- from the state A this body's run ends in a return that Qp speaks of -/
def own_Ends (p : Program) (e : Env) (below : List Frame) (s : State) (k n : Nat) (Qp : Option Value → Heap → List Loc → Prop) (A : State) : Prop :=
  ∃ s₂ o, Steps p.tables e below A s₂ ∧ s₂.status = .running ∧ Ended s₂ below o ∧ ∃ v L, o = .returned v ∧ Qp v s₂.heap L ∧ FrameEnd s o s₂ L k n
theorem own_pre {p : Program} {e : Env} {below : List Frame} {s : State} {k n : Nat} {Qp : Option Value → Heap → List Loc → Prop} {A B : State} (hs : ∀ t, Steps p.tables e below B t → Steps p.tables e below A t) (h : own_Ends p e below s k n Qp B) : own_Ends p e below s k n Qp A := by
  obtain ⟨s₂, o, h1, h2⟩ := h
  exact ⟨s₂, o, hs _ h1, h2⟩
theorem own_fin {p : Program} {l : Launch} {e : Env} {R : Room} {s : State} {m : MethodId} {args : Array Value} {below : List Frame} {meth : Method} {c : Code} {T : State} {locs : List Loc} {cells slots k n : Nat} {Qp : Option Value → Heap → List Loc → Prop} {h : Heap} {F : JFrame}
    (X : Stand p l e R s m args below meth c T locs cells slots) (v : Option Value) (hv : meth.sig.returnType = none → v = none) (hlocks : meth.locks = false) (hh : T.heap = h)
    (hs : ∀ fs : List Frame, (∀ (f : JFrame) (acts : List Action), f.method = m → f.locked = none → f.entered = [] → (doReturn e (T.setTop f) acts v).1 = T.setFrames fs) → Steps p.tables e below (T.setTop F) (T.setFrames fs))
    (hQ : Qp v h locs) (hc : cells ≤ k) (hn : slots ≤ n) : own_Ends p e below s k n Qp (T.setTop F) := by
  obtain ⟨fs, hr, hrun, hended, hW, hsame⟩ := X.leave hv hlocks
  subst hh
  exact ⟨_, _, hs fs hr, hrun, hended, _, _, rfl, hQ, ⟨_, rfl⟩, hW, hsame.mono hc hn⟩
def own_upd (f : Nat → Int32) (j : Nat) (v : Int32) : Nat → Int32 := fun i => if i = j then v else f i
theorem own_upd_same {f : Nat → Int32} {j : Nat} {v : Int32} : own_upd f j v j = v := if_pos rfl
theorem own_upd_ne {f : Nat → Int32} {i j : Nat} {v : Int32} (q : ¬ i = j) : own_upd f j v i = f i := if_neg q
/-- the array at a, of n elements of kind ty, holds the int f i at each place i -/
def own_Arr (Z : State) (h : Heap) (a : Addr) (ty : FieldType) (n : Int32) (f : Nat → Int32) : Prop := ∃ c : Cell, Arr Z h a c ty ∧ c.slots.size = n.toNatClampNeg ∧ ¬ n < 0 ∧ ∀ i, i < c.slots.size → c.slots[i]? = some (.int (f i))
theorem own_Arr.lt {Z : State} {h : Heap} {a : Addr} {ty : FieldType} {n : Int32} {f : Nat → Int32} (F : own_Arr Z h a ty n f) : a < h.size := by obtain ⟨c, A, -⟩ := F; exact A.lt
theorem own_Arr.ext {Z : State} {h h' : Heap} {a : Addr} {ty : FieldType} {n : Int32} {f : Nat → Int32} (F : own_Arr Z h a ty n f) (E : Ext h h') : own_Arr Z h' a ty n f := by obtain ⟨c, A, r⟩ := F; exact ⟨c, A.ext E, r⟩
theorem own_Arr.other {Z : State} {h h' : Heap} {a b : Addr} {ty : FieldType} {n : Int32} {f : Nat → Int32} {sl : Nat} {v : Value} (F : own_Arr Z h b ty n f) (W : Wr h h' a sl v) (q : b ≠ a) : own_Arr Z h' b ty n f := by obtain ⟨c, A, r⟩ := F; exact ⟨c, A.other W q, r⟩
theorem own_Arr.keep {Z : State} {h h' : Heap} {a : Addr} {ty : FieldType} {n : Int32} {f : Nat → Int32} {ws : List Addr} (F : own_Arr Z h a ty n f) (K : Keep h h' ws) (q : a ∉ ws) : own_Arr Z h' a ty n f := by obtain ⟨c, A, r⟩ := F; exact ⟨c, ⟨K.2.1 a c A.1 q, A.2⟩, r⟩
theorem own_Arr.new {Z : State} {h : Heap} {a : Addr} {ty : FieldType} {n : Int32} {k : ClassId} (A : Arr Z h a (newA k ty n) ty) (q : ¬ n < 0) (d : defaultValue ty = .int 0) : own_Arr Z h a ty n (fun _ => 0) :=
  ⟨_, A, sz_new _ _ _, q, fun i hi => by rw [sz_new] at hi; simp [newA, hi, d]⟩
theorem own_Arr.set {Z : State} {h h' : Heap} {a : Addr} {ty : FieldType} {n j v : Int32} {f : Nat → Int32} (F : own_Arr Z h a ty n f) (W : Wr h h' a j.toNatClampNeg (.int v)) : own_Arr Z h' a ty n (own_upd f j.toNatClampNeg v) := by
  obtain ⟨c, A, S, N, H⟩ := F
  refine ⟨c.setSlot j.toNatClampNeg (.int v), A.same W, by rw [sz_set]; exact S, N, fun i hi => ?_⟩
  rw [sz_set] at hi
  by_cases q : i = j.toNatClampNeg
  · subst q
    rw [own_upd_same]
    simp [Cell.setSlot, hi]
  · rw [own_upd_ne q]
    show (c.slots.setIfInBounds j.toNatClampNeg (.int v))[i]? = _
    rw [Array.getElem?_setIfInBounds_ne (Ne.symm q)]
    exact H i hi
theorem own_Arr.congr {Z : State} {h : Heap} {a : Addr} {ty : FieldType} {n : Int32} {f g : Nat → Int32} (F : own_Arr Z h a ty n f) (q : ∀ i, i < n.toNatClampNeg → f i = g i) : own_Arr Z h a ty n g := by
  obtain ⟨c, A, S, N, H⟩ := F
  exact ⟨c, A, S, N, fun i hi => by rw [← q i (S ▸ hi)]; exact H i hi⟩
theorem own_upd_hit {f : Nat → Int32} {i j : Nat} {v : Int32} (q : i = j) : own_upd f j v i = v := if_pos q
theorem own_tn (x : Int32) : x.toNatClampNeg = x.toInt.toNat := rfl
theorem own_nb1 : nar .boolean (1 : Int32) = (1 : Int32) := by decide
theorem own_nb0 : nar .boolean (0 : Int32) = (0 : Int32) := by decide
theorem own_rng {n a : Int32} (h : ¬ a < 0 ∧ a < n) : 0 ≤ a.toInt ∧ a.toInt < n.toInt := by
  obtain ⟨h1, h2⟩ := h
  rw [Int32.lt_iff_toInt_lt] at h1 h2
  have e0 : (0 : Int32).toInt = 0 := by decide
  omega
theorem own_rng' {n a : Int32} (h : 0 ≤ a.toInt ∧ a.toInt < n.toInt) : ¬ a < 0 ∧ a < n := by
  rw [Int32.lt_iff_toInt_lt, Int32.lt_iff_toInt_lt]
  have e0 : (0 : Int32).toInt = 0 := by decide
  omega
/-- the object at a is a Members of n places: its flags f, its list g, its count k; its cells are new ones, and three -/
def own_Mem (Z : State) (h : Heap) (n0 : Nat) (a b c : Addr) (n : Int32) (f g : Nat → Int32) (k : Int32) : Prop := Exa Z h a "com/example/faregraph/faregraph/search/Members" ∧ Fld Z h a "com/example/faregraph/faregraph/search/Members" "member" "[Z" (.ref b) ∧ Fld Z h a "com/example/faregraph/faregraph/search/Members" "members" "[I" (.ref c) ∧ Fld Z h a "com/example/faregraph/faregraph/search/Members" "count" "I" (.int k) ∧ own_Arr Z h b .boolean n f ∧ own_Arr Z h c .int n g ∧ n0 ≤ a ∧ n0 ≤ b ∧ n0 ≤ c ∧ a ≠ b ∧ a ≠ c ∧ b ≠ c
theorem d1_0 : decode prog_85_method_1_code 0 = .ok (.aload_n 0, 1) := by decide +kernel
theorem d1_1 : decode prog_85_method_1_code 1 = .ok (.invokespecial 1, 3) := by decide +kernel
theorem d1_4 : decode prog_85_method_1_code 4 = .ok (.aload_n 0, 1) := by decide +kernel
theorem d1_5 : decode prog_85_method_1_code 5 = .ok (.iload_n 1, 1) := by decide +kernel
theorem d1_6 : decode prog_85_method_1_code 6 = .ok (.newarray .boolean, 2) := by decide +kernel
theorem d1_8 : decode prog_85_method_1_code 8 = .ok (.putfield 7, 3) := by decide +kernel
theorem d1_11 : decode prog_85_method_1_code 11 = .ok (.aload_n 0, 1) := by decide +kernel
theorem d1_12 : decode prog_85_method_1_code 12 = .ok (.iload_n 1, 1) := by decide +kernel
theorem d1_13 : decode prog_85_method_1_code 13 = .ok (.newarray .int, 2) := by decide +kernel
theorem d1_15 : decode prog_85_method_1_code 15 = .ok (.putfield 13, 3) := by decide +kernel
theorem d1_18 : decode prog_85_method_1_code 18 = .ok (.return_, 1) := by decide +kernel
theorem d3_0 : decode prog_85_method_2_code 0 = .ok (.aload_n 0, 1) := by decide +kernel
theorem d3_1 : decode prog_85_method_2_code 1 = .ok (.getfield 7, 3) := by decide +kernel
theorem d3_4 : decode prog_85_method_2_code 4 = .ok (.iload_n 1, 1) := by decide +kernel
theorem d3_5 : decode prog_85_method_2_code 5 = .ok (.baload, 1) := by decide +kernel
theorem d3_6 : decode prog_85_method_2_code 6 = .ok (.ifCond .eq 5, 3) := by decide +kernel
theorem d3_9 : decode prog_85_method_2_code 9 = .ok (.iconst 0, 1) := by decide +kernel
theorem d3_10 : decode prog_85_method_2_code 10 = .ok (.ireturn, 1) := by decide +kernel
theorem d3_11 : decode prog_85_method_2_code 11 = .ok (.aload_n 0, 1) := by decide +kernel
theorem d3_12 : decode prog_85_method_2_code 12 = .ok (.getfield 7, 3) := by decide +kernel
theorem d3_15 : decode prog_85_method_2_code 15 = .ok (.iload_n 1, 1) := by decide +kernel
theorem d3_16 : decode prog_85_method_2_code 16 = .ok (.iconst 1, 1) := by decide +kernel
theorem d3_17 : decode prog_85_method_2_code 17 = .ok (.bastore, 1) := by decide +kernel
theorem d3_18 : decode prog_85_method_2_code 18 = .ok (.aload_n 0, 1) := by decide +kernel
theorem d3_19 : decode prog_85_method_2_code 19 = .ok (.getfield 13, 3) := by decide +kernel
theorem d3_22 : decode prog_85_method_2_code 22 = .ok (.aload_n 0, 1) := by decide +kernel
theorem d3_23 : decode prog_85_method_2_code 23 = .ok (.dup, 1) := by decide +kernel
theorem d3_24 : decode prog_85_method_2_code 24 = .ok (.getfield 17, 3) := by decide +kernel
theorem d3_27 : decode prog_85_method_2_code 27 = .ok (.dup_x1, 1) := by decide +kernel
theorem d3_28 : decode prog_85_method_2_code 28 = .ok (.iconst 1, 1) := by decide +kernel
theorem d3_29 : decode prog_85_method_2_code 29 = .ok (.iadd, 1) := by decide +kernel
theorem d3_30 : decode prog_85_method_2_code 30 = .ok (.putfield 17, 3) := by decide +kernel
theorem d3_33 : decode prog_85_method_2_code 33 = .ok (.iload_n 1, 1) := by decide +kernel
theorem d3_34 : decode prog_85_method_2_code 34 = .ok (.iastore, 1) := by decide +kernel
theorem d3_35 : decode prog_85_method_2_code 35 = .ok (.iconst 1, 1) := by decide +kernel
theorem d3_36 : decode prog_85_method_2_code 36 = .ok (.ireturn, 1) := by decide +kernel
theorem d4_0 : decode prog_85_method_5_code 0 = .ok (.iconst 0, 1) := by decide +kernel
theorem d4_1 : decode prog_85_method_5_code 1 = .ok (.istore_n 1, 1) := by decide +kernel
theorem d4_2 : decode prog_85_method_5_code 2 = .ok (.iload_n 1, 1) := by decide +kernel
theorem d4_3 : decode prog_85_method_5_code 3 = .ok (.aload_n 0, 1) := by decide +kernel
theorem d4_4 : decode prog_85_method_5_code 4 = .ok (.getfield 17, 3) := by decide +kernel
theorem d4_7 : decode prog_85_method_5_code 7 = .ok (.if_icmp .ge 21, 3) := by decide +kernel
theorem d4_10 : decode prog_85_method_5_code 10 = .ok (.aload_n 0, 1) := by decide +kernel
theorem d4_11 : decode prog_85_method_5_code 11 = .ok (.getfield 7, 3) := by decide +kernel
theorem d4_14 : decode prog_85_method_5_code 14 = .ok (.aload_n 0, 1) := by decide +kernel
theorem d4_15 : decode prog_85_method_5_code 15 = .ok (.getfield 13, 3) := by decide +kernel
theorem d4_18 : decode prog_85_method_5_code 18 = .ok (.iload_n 1, 1) := by decide +kernel
theorem d4_19 : decode prog_85_method_5_code 19 = .ok (.iaload, 1) := by decide +kernel
theorem d4_20 : decode prog_85_method_5_code 20 = .ok (.iconst 0, 1) := by decide +kernel
theorem d4_21 : decode prog_85_method_5_code 21 = .ok (.bastore, 1) := by decide +kernel
theorem d4_22 : decode prog_85_method_5_code 22 = .ok (.iinc 1 1, 3) := by decide +kernel
theorem d4_25 : decode prog_85_method_5_code 25 = .ok (.goto (-23), 3) := by decide +kernel
theorem d4_28 : decode prog_85_method_5_code 28 = .ok (.aload_n 0, 1) := by decide +kernel
theorem d4_29 : decode prog_85_method_5_code 29 = .ok (.iconst 0, 1) := by decide +kernel
theorem d4_30 : decode prog_85_method_5_code 30 = .ok (.putfield 17, 3) := by decide +kernel
theorem d4_33 : decode prog_85_method_5_code 33 = .ok (.return_, 1) := by decide +kernel
theorem d5_0 : decode prog_85_method_3_code 0 = .ok (.aload_n 0, 1) := by decide +kernel
theorem d5_1 : decode prog_85_method_3_code 1 = .ok (.getfield 17, 3) := by decide +kernel
theorem d5_4 : decode prog_85_method_3_code 4 = .ok (.ireturn, 1) := by decide +kernel
theorem d6_0 : decode prog_85_method_4_code 0 = .ok (.aload_n 0, 1) := by decide +kernel
theorem d6_1 : decode prog_85_method_4_code 1 = .ok (.getfield 13, 3) := by decide +kernel
theorem d6_4 : decode prog_85_method_4_code 4 = .ok (.iload_n 1, 1) := by decide +kernel
theorem d6_5 : decode prog_85_method_4_code 5 = .ok (.iaload, 1) := by decide +kernel
theorem d6_6 : decode prog_85_method_4_code 6 = .ok (.ireturn, 1) := by decide +kernel
theorem pn_0 : plainName "com/example/faregraph/faregraph/search/MembersClearPinLaw" = true := by first | (simp [plainName, overriddenIn]; done) | decide +kernel
theorem pn_1 : plainName "com/example/faregraph/faregraph/search/Members" = true := by first | (simp [plainName, overriddenIn]; done) | decide +kernel
theorem pn_3 : plainName "com/example/faregraph/faregraph/search/Members" = true := by first | (simp [plainName, overriddenIn]; done) | decide +kernel
theorem pn_4 : plainName "com/example/faregraph/faregraph/search/Members" = true := by first | (simp [plainName, overriddenIn]; done) | decide +kernel
theorem pn_5 : plainName "com/example/faregraph/faregraph/search/Members" = true := by first | (simp [plainName, overriddenIn]; done) | decide +kernel
theorem pn_6 : plainName "com/example/faregraph/faregraph/search/Members" = true := by first | (simp [plainName, overriddenIn]; done) | decide +kernel
theorem pd_0 : parseMethodDescriptor "(I)V" = some ⟨[.int], none⟩ := by decide +kernel
theorem pd_1 : parseMethodDescriptor "()V" = some ⟨[], none⟩ := by decide +kernel
theorem pd_2 : parseMethodDescriptor "(I)Z" = some ⟨[.int], some .boolean⟩ := by decide +kernel
theorem pd_3 : parseMethodDescriptor "()I" = some ⟨[], some .int⟩ := by decide +kernel
theorem pd_4 : parseMethodDescriptor "(I)I" = some ⟨[.int], some .int⟩ := by decide +kernel
theorem ef_1 (m : MethodId) (x0 : Addr) (x1 : Int32) : entryFrame m #[(.ref x0), (.int x1)] 2 = mkF m 0 #[.val (.ref x0), .val (.int x1)] [] := by first | (simp [entryFrame, mkF, argsToLocals, Value.category]; done) | rfl
def Q1 (Z : State) (a1 : Addr) (p2 : Int32) (h0 : Heap) (n0 : Nat) (v : Option Value) (h : Heap) (L : List Loc) : Prop := v = none ∧ Fr n0 L ∧ Keep h0 h [a1] ∧ ∃ b c : Addr, h0.size ≤ b ∧ h0.size ≤ c ∧ own_Mem Z h n0 a1 b c p2 (fun _ => (0 : Int32)) (fun _ => (0 : Int32)) 0
set_option maxRecDepth 65536 in
set_option maxHeartbeats 40000000 in
theorem rm1 (l : Launch) (Z : State) (a0 : Array Value) (hw : ∀ d ∈ tables_1, d.before a0 Z = true) (ws : List Jvm.Cond) (a1 : Addr) (p2 : Int32) (h0 : Heap) (n0 : Nat) (Z0 : n0 ≤ h0.size) (E_a1 : Exa Z h0 a1 "com/example/faregraph/faregraph/search/Members") (F_m : Fld Z h0 a1 "com/example/faregraph/faregraph/search/Members" "member" "[Z" .null) (F_s : Fld Z h0 a1 "com/example/faregraph/faregraph/search/Members" "members" "[I" .null) (F_c : Fld Z h0 a1 "com/example/faregraph/faregraph/search/Members" "count" "I" (.int (0 : Int32))) (g_a1 : n0 ≤ a1) (hp : ¬ p2 < 0) (hcap : p2.toNatClampNeg ≤ 4) :
    MetFree l (⟨"com/example/faregraph/faregraph/search/Members", "<init>", "(I)V"⟩ : MethodName) (head1 (Jvm.Cond.code (⟨"com/example/faregraph/faregraph/search/Members", "<init>", "(I)V"⟩ : MethodName) prog_85_method_1_code 2 none :: ws) ({ frames := 1, cells := 2, slots := 8, locals := 12 } : Room)) (fun a U => a = #[(.ref a1), (.int p2)] ∧ Z.Warmed39 U.vm ∧ U.heap = h0) (fun _ _ _ _ _ => True) (fun _ U o U' => ∃ v L, o = .returned v ∧ Q1 Z a1 p2 h0 n0 v U'.heap L ∧ FrameEnd U o U' L ({ frames := 1, cells := 2, slots := 8, locals := 12 } : Room).cells ({ frames := 1, cells := 2, slots := 8, locals := 12 } : Room).slots) := by
  refine MetFree.of_bodySF (plainFor_of_name pn_1) hisR ?_
  intro p e s m args below meth c s₁ Bd hml0 hP hK
  obtain ⟨rfl, hZ, hh⟩ := hP
  have hx := Bd.exec
  have hby := Bd.bytes
  have hml : c.maxLocals = 2 := hml0
  have hown : s.vm.findClass "com/example/faregraph/faregraph/search/Members" = some m.cls := findClass_of_methodNamed Bd.named
  have hnm := (name_of_methodNamed Bd.named Bd.method).1
  have X0 : Stand p l e ({ frames := 1, cells := 2, slots := 8, locals := 12 } : Room) s m #[(.ref a1), (.int p2)] below meth c s₁ [] 0 0 := Stand.of_body Bd
  have e0 : s₁.heap = h0 := by rw [← hh, Bd.state]; rfl
  have N0 := Fr.nil n0
  show own_Ends p e below s ({ frames := 1, cells := 2, slots := 8, locals := 12 } : Room).cells ({ frames := 1, cells := 2, slots := 8, locals := 12 } : Room).slots (Q1 Z a1 p2 h0 n0) (s₁.setTop (entryFrame m #[(.ref a1), (.int p2)] 2))
  rw [ef_1 m a1 p2]
  refine own_pre (B := (s₁.setTop (mkF m 1 #[.val (.ref a1), .val (.int p2)] [(.ref a1)]))) (fun t kt => ?_) ?_
  · show Steps p.tables e below (s₁.setTop (mkF m 0 _ [])) _
    refine XS.aloadN X0.here hx rfl (hb hby d1_0) rfl rfl ?_
    exact kt
  obtain ⟨T1, X1, e1, st1⟩ := initO X0 hx hZ hown (hw _ (List.mem_of_getElem? (i := 6) rfl)) (hw _ (List.mem_of_getElem? (i := 7) rfl)) (hw _ (List.mem_of_getElem? (i := 8) rfl)) e0 (g := (mkF m 1 #[.val (.ref a1), .val (.int p2)] [(.ref a1)])) rfl (by rw [hml]; rfl) rfl (hb hby d1_1) (by decide) (W := 0) (by show 2 * 0 + _ ≤ _; exact Nat.le_of_eq rfl) (by decide)
  refine own_pre (B := (T1.setTop (mkF m 6 #[.val (.ref a1), .val (.int p2)] [(.int p2), (.ref a1)]))) (fun t kt => ?_) ?_
  · show Steps p.tables e below (s₁.setTop (mkF m 1 _ [(.ref a1)])) _
    refine st1 _ ?_
    show Steps p.tables e below (T1.setTop (mkF m 4 _ [])) _
    refine XS.aloadN X1.here hx rfl (hb hby d1_4) rfl rfl ?_
    show Steps p.tables e below (T1.setTop (mkF m 5 _ [(.ref a1)])) _
    refine XS.iloadN X1.here hx rfl (hb hby d1_5) rfl ?_
    exact kt
  obtain ⟨T2, h2, k2, X2, e2, E2, A2, st2⟩ := newP X1 hx hZ (hw _ (List.mem_of_getElem? (i := 9) rfl)) e1 (g := (mkF m 6 #[.val (.ref a1), .val (.int p2)] [(.int p2), (.ref a1)])) rfl (hb hby d1_6) rfl hp (cap := 4) hcap (by decide) (by decide) (by decide)
  obtain ⟨b2, g2⟩ : ∃ z, z = h0.size := ⟨_, rfl⟩
  have ne_a1_b2 : a1 ≠ b2 := Nat.ne_of_lt (Nat.lt_of_lt_of_le E_a1.lt (Nat.le_of_eq g2.symm))
  have g_b2 : n0 ≤ b2 := Nat.le_trans Z0 (Nat.le_of_eq g2.symm)
  have sz_b2 : h0.size ≤ b2 := Nat.le_trans (Keep.refl h0 [a1]).1 (Nat.le_of_eq g2.symm)
  rw [← g2] at A2 st2
  have E_a1_2 := E_a1.ext E2
  have F_m_2 := F_m.ext E2
  have F_s_2 := F_s.ext E2
  have F_c_2 := F_c.ext E2
  have K2 := Keep.ext (Keep.refl h0 [a1]) E2
  have V_b2 := own_Arr.new A2 hp rfl
  refine own_pre (B := (T2.setTop (mkF m 8 #[.val (.ref a1), .val (.int p2)] [(.ref b2), (.ref a1)]))) (fun t kt => ?_) ?_
  · show Steps p.tables e below (T1.setTop (mkF m 6 _ [(.int p2), (.ref a1)])) _
    refine st2 _ ?_
    exact kt
  obtain ⟨T3, h3, X3, e3, W3, st3⟩ := putF X2 hx hZ hown (host := "") (Or.inl (hw _ (List.mem_of_getElem? (i := 10) rfl))) Via.refl e2 F_m_2 E_a1_2 (Or.inr ⟨(hw _ (List.mem_of_getElem? (i := 11) rfl)), rfl, hnm⟩) (hw _ (List.mem_of_getElem? (i := 1) rfl)) (ty := (.array .boolean)) (by decide) rfl rfl (g := (mkF m 8 #[.val (.ref a1), .val (.int p2)] [(.ref b2), (.ref a1)])) rfl rfl (hb hby d1_8)
  have F_member_a1_3 := F_m_2.same W3
  have E_a1_3 := E_a1_2.wr W3
  have F_s_3 := F_s_2.other W3 (Or.inr (slot_ne (Or.inr (hw _ (List.mem_of_getElem? (i := 14) rfl))) (Or.inr (hw _ (List.mem_of_getElem? (i := 11) rfl))) (by decide) (t := (.array .int)) (t' := (.array .boolean)) (by decide) (by decide)))
  have F_c_3 := F_c_2.other W3 (Or.inr (slot_ne (Or.inl (hw _ (List.mem_of_getElem? (i := 21) rfl))) (Or.inr (hw _ (List.mem_of_getElem? (i := 11) rfl))) (by decide) (t := .int) (t' := (.array .boolean)) (by decide) (by decide)))
  have V_b2_3 := V_b2.other W3 (Ne.symm ne_a1_b2)
  have N3 := Fr.snoc X3 N0 g_a1
  have K3 := Keep.wr K2 W3 (Or.inl (List.mem_of_getElem? (i := 0) rfl))
  refine own_pre (B := (T3.setTop (mkF m 13 #[.val (.ref a1), .val (.int p2)] [(.int p2), (.ref a1)]))) (fun t kt => ?_) ?_
  · show Steps p.tables e below (T2.setTop (mkF m 8 _ [(.ref b2), (.ref a1)])) _
    refine st3 _ ?_
    show Steps p.tables e below (T3.setTop (mkF m 11 _ [])) _
    refine XS.aloadN X3.here hx rfl (hb hby d1_11) rfl rfl ?_
    show Steps p.tables e below (T3.setTop (mkF m 12 _ [(.ref a1)])) _
    refine XS.iloadN X3.here hx rfl (hb hby d1_12) rfl ?_
    exact kt
  obtain ⟨T4, h4, k4, X4, e4, E4, A4, st4⟩ := newP X3 hx hZ (hw _ (List.mem_of_getElem? (i := 12) rfl)) e3 (g := (mkF m 13 #[.val (.ref a1), .val (.int p2)] [(.int p2), (.ref a1)])) rfl (hb hby d1_13) rfl hp (cap := 4) hcap (by decide) (by decide) (by decide)
  obtain ⟨b4, g4⟩ : ∃ z, z = h3.size := ⟨_, rfl⟩
  have ne_a1_b4 : a1 ≠ b4 := Nat.ne_of_lt (Nat.lt_of_lt_of_le E_a1_3.lt (Nat.le_of_eq g4.symm))
  have ne_b2_b4 : b2 ≠ b4 := Nat.ne_of_lt (Nat.lt_of_lt_of_le V_b2_3.lt (Nat.le_of_eq g4.symm))
  have g_b4 : n0 ≤ b4 := Nat.le_trans (Nat.le_trans (Nat.le_trans Z0 E2.1) (Keep.of_wr W3).1) (Nat.le_of_eq g4.symm)
  have sz_b4 : h0.size ≤ b4 := Nat.le_trans K3.1 (Nat.le_of_eq g4.symm)
  rw [← g4] at A4 st4
  have E_a1_4 := E_a1_3.ext E4
  have F_s_4 := F_s_3.ext E4
  have F_c_4 := F_c_3.ext E4
  have V_b2_4 := V_b2_3.ext E4
  have F_member_a1_4 := F_member_a1_3.ext E4
  have K4 := Keep.ext K3 E4
  have V_b4 := own_Arr.new A4 hp rfl
  refine own_pre (B := (T4.setTop (mkF m 15 #[.val (.ref a1), .val (.int p2)] [(.ref b4), (.ref a1)]))) (fun t kt => ?_) ?_
  · show Steps p.tables e below (T3.setTop (mkF m 13 _ [(.int p2), (.ref a1)])) _
    refine st4 _ ?_
    exact kt
  obtain ⟨T5, h5, X5, e5, W5, st5⟩ := putF X4 hx hZ hown (host := "") (Or.inl (hw _ (List.mem_of_getElem? (i := 13) rfl))) Via.refl e4 F_s_4 E_a1_4 (Or.inr ⟨(hw _ (List.mem_of_getElem? (i := 14) rfl)), rfl, hnm⟩) (hw _ (List.mem_of_getElem? (i := 1) rfl)) (ty := (.array .int)) (by decide) rfl rfl (g := (mkF m 15 #[.val (.ref a1), .val (.int p2)] [(.ref b4), (.ref a1)])) rfl rfl (hb hby d1_15)
  have F_members_a1_5 := F_s_4.same W5
  have E_a1_5 := E_a1_4.wr W5
  have F_c_5 := F_c_4.other W5 (Or.inr (slot_ne (Or.inl (hw _ (List.mem_of_getElem? (i := 21) rfl))) (Or.inr (hw _ (List.mem_of_getElem? (i := 14) rfl))) (by decide) (t := .int) (t' := (.array .int)) (by decide) (by decide)))
  have V_b2_5 := V_b2_4.other W5 (Ne.symm ne_a1_b2)
  have F_member_a1_5 := F_member_a1_4.other W5 (Or.inr (slot_ne (Or.inr (hw _ (List.mem_of_getElem? (i := 11) rfl))) (Or.inr (hw _ (List.mem_of_getElem? (i := 14) rfl))) (by decide) (t := (.array .boolean)) (t' := (.array .int)) (by decide) (by decide)))
  have V_b4_5 := V_b4.other W5 (Ne.symm ne_a1_b4)
  have N5 := Fr.snoc X5 N3 g_a1
  have K5 := Keep.wr K4 W5 (Or.inl (List.mem_of_getElem? (i := 0) rfl))
  refine own_pre (B := (T5.setTop (mkF m 18 #[.val (.ref a1), .val (.int p2)] []))) (fun t kt => ?_) ?_
  · show Steps p.tables e below (T4.setTop (mkF m 15 _ [(.ref b4), (.ref a1)])) _
    refine st5 _ ?_
    exact kt
  exact own_fin X5 none (fun _ => rfl) (BodyLoose.notSynchronized Bd) e5 (fun fs hr => X5.returnOut hx Bd.returns (hb hby d1_18) hr) ⟨rfl, N5, K5, b2, b4, sz_b2, sz_b4, E_a1_5, F_member_a1_5, F_members_a1_5, F_c_5, V_b2_5, V_b4_5, g_a1, g_b2, g_b4, ne_a1_b2, ne_a1_b4, ne_b2_b4⟩ (by decide) (by decide)
theorem ef_3n (m : MethodId) (x0 : Addr) (x1 : Int32) : entryFrame m #[(.ref x0), (.int x1)] 2 = mkF m 0 #[.val (.ref x0), .val (.int x1)] [] := by first | (simp [entryFrame, mkF, argsToLocals, Value.category]; done) | rfl
def Q3n (Z : State) (a1 b2 c3 : Addr) (nn kk : Int32) (ff gg : Nat → Int32) (p2 : Int32) (h0 : Heap) (n0 : Nat) (v : Option Value) (h : Heap) (L : List Loc) : Prop := v = some (.int 1) ∧ Fr n0 L ∧ Keep h0 h [a1, b2, c3] ∧ own_Mem Z h n0 a1 b2 c3 nn (own_upd ff p2.toNatClampNeg 1) (own_upd gg kk.toNatClampNeg p2) (kk + 1)
set_option maxRecDepth 65536 in
set_option maxHeartbeats 40000000 in
theorem rm3n (l : Launch) (Z : State) (a0 : Array Value) (hw : ∀ d ∈ tables_1, d.before a0 Z = true) (ws : List Jvm.Cond) (a1 b2 c3 : Addr) (nn kk : Int32) (ff gg : Nat → Int32) (p2 : Int32) (h0 : Heap) (n0 : Nat) (Z0 : n0 ≤ h0.size) (M : own_Mem Z h0 n0 a1 b2 c3 nn ff gg kk) (hv : ¬ p2 < 0 ∧ p2 < nn) (hk : ¬ kk < 0 ∧ kk < nn) (hf : ff p2.toNatClampNeg = 0) :
    MetFree l (⟨"com/example/faregraph/faregraph/search/Members", "add", "(I)Z"⟩ : MethodName) (head1 (Jvm.Cond.code (⟨"com/example/faregraph/faregraph/search/Members", "add", "(I)Z"⟩ : MethodName) prog_85_method_2_code 2 (some .boolean) :: ws) ({ frames := 0, cells := 0, slots := 0, locals := 0 } : Room)) (fun a U => a = #[(.ref a1), (.int p2)] ∧ Z.Warmed39 U.vm ∧ U.heap = h0) (fun _ _ _ _ _ => True) (fun _ U o U' => ∃ v L, o = .returned v ∧ Q3n Z a1 b2 c3 nn kk ff gg p2 h0 n0 v U'.heap L ∧ FrameEnd U o U' L ({ frames := 0, cells := 0, slots := 0, locals := 0 } : Room).cells ({ frames := 0, cells := 0, slots := 0, locals := 0 } : Room).slots) := by
  refine MetFree.of_bodySF (plainFor_of_name pn_3) hisR ?_
  intro p e s m args below meth c s₁ Bd hml0 hP hK
  obtain ⟨rfl, hZ, hh⟩ := hP
  have hx := Bd.exec
  have hby := Bd.bytes
  have hml : c.maxLocals = 2 := hml0
  have hown : s.vm.findClass "com/example/faregraph/faregraph/search/Members" = some m.cls := findClass_of_methodNamed Bd.named
  have hnm := (name_of_methodNamed Bd.named Bd.method).1
  have X0 : Stand p l e ({ frames := 0, cells := 0, slots := 0, locals := 0 } : Room) s m #[(.ref a1), (.int p2)] below meth c s₁ [] 0 0 := Stand.of_body Bd
  have e0 : s₁.heap = h0 := by rw [← hh, Bd.state]; rfl
  have N0 := Fr.nil n0
  show own_Ends p e below s ({ frames := 0, cells := 0, slots := 0, locals := 0 } : Room).cells ({ frames := 0, cells := 0, slots := 0, locals := 0 } : Room).slots (Q3n Z a1 b2 c3 nn kk ff gg p2 h0 n0) (s₁.setTop (entryFrame m #[(.ref a1), (.int p2)] 2))
  rw [ef_3n m a1 p2]
  obtain ⟨E_a1, F_m, F_s, F_c, V_b, V_c, g_a1, g_bb, g_cc, ne_ab, ne_ac, ne_bc⟩ := M
  refine own_pre (B := (s₁.setTop (mkF m 1 #[.val (.ref a1), .val (.int p2)] [(.ref a1)]))) (fun t kt => ?_) ?_
  · show Steps p.tables e below (s₁.setTop (mkF m 0 _ [])) _
    refine XS.aloadN X0.here hx rfl (hb hby d3_0) rfl rfl ?_
    exact kt
  obtain ⟨T1, X1, e1, st1⟩ := getF X0 hx hZ hown (host := "") (Or.inl (hw _ (List.mem_of_getElem? (i := 10) rfl))) Via.refl e0 F_m (g := (mkF m 1 #[.val (.ref a1), .val (.int p2)] [(.ref a1)])) rfl rfl (hb hby d3_1)
  refine own_pre (B := (T1.setTop (mkF m 5 #[.val (.ref a1), .val (.int p2)] [(.int p2), (.ref b2)]))) (fun t kt => ?_) ?_
  · show Steps p.tables e below (s₁.setTop (mkF m 1 _ [(.ref a1)])) _
    refine st1 _ ?_
    show Steps p.tables e below (T1.setTop (mkF m 4 _ [(.ref b2)])) _
    refine XS.iloadN X1.here hx rfl (hb hby d3_4) rfl ?_
    exact kt
  obtain ⟨cl2, Ar2, S2, P2, H2⟩ := id V_b
  have in2 := inb_of S2 (hv : ¬ p2 < 0 ∧ p2 < nn)
  have at2 : cl2.slots[(p2).toNatClampNeg]? = some (.int (0 : Int32)) := (H2 _ (Nat.lt_of_not_le fun y => in2 (Or.inr y))).trans (congrArg (fun z => some (Value.int z)) hf)
  refine own_pre (B := (T1.setTop (mkF m 12 #[.val (.ref a1), .val (.int p2)] [(.ref a1)]))) (fun t kt => ?_) ?_
  · show Steps p.tables e below (T1.setTop (mkF m 5 _ [(.int p2), (.ref b2)])) _
    refine X1.baloadBooleans hx (j := p2) (v := (.int (0 : Int32))) (by rw [e1]; exact Ar2.1) (State.isArrayOf_alike hZ.alike Ar2.2.1) Ar2.2.2 in2 at2 (g := (mkF m 5 #[.val (.ref a1), .val (.int p2)] [(.int p2), (.ref b2)])) rfl rfl (hb hby d3_5) _ ?_
    show Steps p.tables e below (T1.setTop (mkF m 6 _ [(.int (0 : Int32))])) _
    refine XS.ifYes X1.here hx rfl (pc0 := 6) (pc' := 11) rfl (hb hby d3_6) rfl ((if0 _ _).trans (teq (rfl : (0 : Int32) = (0 : Int32))).1) (by decide) (by decide) ?_
    show Steps p.tables e below (T1.setTop (mkF m 11 _ [])) _
    refine XS.aloadN X1.here hx rfl (hb hby d3_11) rfl rfl ?_
    exact kt
  obtain ⟨T3, X3, e3, st3⟩ := getF X1 hx hZ hown (host := "") (Or.inl (hw _ (List.mem_of_getElem? (i := 10) rfl))) Via.refl e1 F_m (g := (mkF m 12 #[.val (.ref a1), .val (.int p2)] [(.ref a1)])) rfl rfl (hb hby d3_12)
  refine own_pre (B := (T3.setTop (mkF m 17 #[.val (.ref a1), .val (.int p2)] [(.int (1 : Int32)), (.int p2), (.ref b2)]))) (fun t kt => ?_) ?_
  · show Steps p.tables e below (T1.setTop (mkF m 12 _ [(.ref a1)])) _
    refine st3 _ ?_
    show Steps p.tables e below (T3.setTop (mkF m 15 _ [(.ref b2)])) _
    refine XS.iloadN X3.here hx rfl (hb hby d3_15) rfl ?_
    show Steps p.tables e below (T3.setTop (mkF m 16 _ [(.int p2), (.ref b2)])) _
    refine XS.iconst X3.here hx rfl (hb hby d3_16) ?_
    exact kt
  obtain ⟨cl4, Ar4, S4, P4, H4⟩ := id V_b
  have in4 := inb_of S4 (hv : ¬ p2 < 0 ∧ p2 < nn)
  obtain ⟨T4, h4, X4, e4, W4, st4⟩ := stZ X3 hx hZ e3 Ar4 (j := p2) in4 (g := (mkF m 17 #[.val (.ref a1), .val (.int p2)] [(.int (1 : Int32)), (.int p2), (.ref b2)])) rfl rfl (hb hby d3_17)
  rw [own_nb1] at W4
  have V_b2_4 := V_b.set W4
  have E_a1_4 := E_a1.wr W4
  have F_m_4 := F_m.other W4 (Or.inl ne_ab)
  have F_s_4 := F_s.other W4 (Or.inl ne_ab)
  have F_c_4 := F_c.other W4 (Or.inl ne_ab)
  have V_c_4 := V_c.other W4 (Ne.symm ne_bc)
  have N4 := Fr.snoc X4 N0 g_bb
  have K4 := Keep.wr (Keep.refl h0 [a1, b2, c3]) W4 (Or.inl (List.mem_of_getElem? (i := 1) rfl))
  refine own_pre (B := (T4.setTop (mkF m 19 #[.val (.ref a1), .val (.int p2)] [(.ref a1)]))) (fun t kt => ?_) ?_
  · show Steps p.tables e below (T3.setTop (mkF m 17 _ [(.int (1 : Int32)), (.int p2), (.ref b2)])) _
    refine st4 _ ?_
    show Steps p.tables e below (T4.setTop (mkF m 18 _ [])) _
    refine XS.aloadN X4.here hx rfl (hb hby d3_18) rfl rfl ?_
    exact kt
  obtain ⟨T5, X5, e5, st5⟩ := getF X4 hx hZ hown (host := "") (Or.inl (hw _ (List.mem_of_getElem? (i := 13) rfl))) Via.refl e4 F_s_4 (g := (mkF m 19 #[.val (.ref a1), .val (.int p2)] [(.ref a1)])) rfl rfl (hb hby d3_19)
  refine own_pre (B := (T5.setTop (mkF m 24 #[.val (.ref a1), .val (.int p2)] [(.ref a1), (.ref a1), (.ref c3)]))) (fun t kt => ?_) ?_
  · show Steps p.tables e below (T4.setTop (mkF m 19 _ [(.ref a1)])) _
    refine st5 _ ?_
    show Steps p.tables e below (T5.setTop (mkF m 22 _ [(.ref c3)])) _
    refine XS.aloadN X5.here hx rfl (hb hby d3_22) rfl rfl ?_
    show Steps p.tables e below (T5.setTop (mkF m 23 _ [(.ref a1), (.ref c3)])) _
    refine XS.dup X5.here hx rfl (hb hby d3_23) rfl rfl ?_
    exact kt
  obtain ⟨T6, X6, e6, st6⟩ := getF X5 hx hZ hown (host := "") (Or.inl (hw _ (List.mem_of_getElem? (i := 20) rfl))) Via.refl e5 F_c_4 (g := (mkF m 24 #[.val (.ref a1), .val (.int p2)] [(.ref a1), (.ref a1), (.ref c3)])) rfl rfl (hb hby d3_24)
  refine own_pre (B := (T6.setTop (mkF m 30 #[.val (.ref a1), .val (.int p2)] [(.int (kk + (1 : Int32))), (.ref a1), (.int kk), (.ref c3)]))) (fun t kt => ?_) ?_
  · show Steps p.tables e below (T5.setTop (mkF m 24 _ [(.ref a1), (.ref a1), (.ref c3)])) _
    refine st6 _ ?_
    show Steps p.tables e below (T6.setTop (mkF m 27 _ [(.int kk), (.ref a1), (.ref c3)])) _
    refine XS.dupX1 X6.here hx rfl (hb hby d3_27) rfl rfl rfl ?_
    show Steps p.tables e below (T6.setTop (mkF m 28 _ [(.int kk), (.ref a1), (.int kk), (.ref c3)])) _
    refine XS.iconst X6.here hx rfl (hb hby d3_28) ?_
    show Steps p.tables e below (T6.setTop (mkF m 29 _ [(.int (1 : Int32)), (.int kk), (.ref a1), (.int kk), (.ref c3)])) _
    refine XS.iadd X6.here hx rfl (hb hby d3_29) rfl ?_
    exact kt
  obtain ⟨T7, h7, X7, e7, W7, st7⟩ := putF X6 hx hZ hown (host := "") (Or.inl (hw _ (List.mem_of_getElem? (i := 20) rfl))) Via.refl e6 F_c_4 E_a1_4 (Or.inl (hw _ (List.mem_of_getElem? (i := 21) rfl))) (hw _ (List.mem_of_getElem? (i := 1) rfl)) (ty := .int) (by decide) rfl rfl (g := (mkF m 30 #[.val (.ref a1), .val (.int p2)] [(.int (kk + (1 : Int32))), (.ref a1), (.int kk), (.ref c3)])) rfl rfl (hb hby d3_30)
  have F_count_a1_7 := F_c_4.same W7
  have E_a1_7 := E_a1_4.wr W7
  have F_m_7 := F_m_4.other W7 (Or.inr (slot_ne (Or.inr (hw _ (List.mem_of_getElem? (i := 11) rfl))) (Or.inl (hw _ (List.mem_of_getElem? (i := 21) rfl))) (by decide) (t := (.array .boolean)) (t' := .int) (by decide) (by decide)))
  have F_s_7 := F_s_4.other W7 (Or.inr (slot_ne (Or.inr (hw _ (List.mem_of_getElem? (i := 14) rfl))) (Or.inl (hw _ (List.mem_of_getElem? (i := 21) rfl))) (by decide) (t := (.array .int)) (t' := .int) (by decide) (by decide)))
  have V_c_7 := V_c_4.other W7 (Ne.symm ne_ac)
  have V_b2_7 := V_b2_4.other W7 (Ne.symm ne_ab)
  have N7 := Fr.snoc X7 N4 g_a1
  have K7 := Keep.wr K4 W7 (Or.inl (List.mem_of_getElem? (i := 0) rfl))
  refine own_pre (B := (T7.setTop (mkF m 34 #[.val (.ref a1), .val (.int p2)] [(.int p2), (.int kk), (.ref c3)]))) (fun t kt => ?_) ?_
  · show Steps p.tables e below (T6.setTop (mkF m 30 _ [(.int (kk + (1 : Int32))), (.ref a1), (.int kk), (.ref c3)])) _
    refine st7 _ ?_
    show Steps p.tables e below (T7.setTop (mkF m 33 _ [(.int kk), (.ref c3)])) _
    refine XS.iloadN X7.here hx rfl (hb hby d3_33) rfl ?_
    exact kt
  obtain ⟨cl8, Ar8, S8, P8, H8⟩ := id V_c_7
  have in8 := inb_of S8 (hk : ¬ kk < 0 ∧ kk < nn)
  obtain ⟨T8, h8, X8, e8, W8, st8⟩ := stI X7 hx hZ e7 Ar8 (j := kk) in8 (g := (mkF m 34 #[.val (.ref a1), .val (.int p2)] [(.int p2), (.int kk), (.ref c3)])) rfl rfl (hb hby d3_34)
  have V_c3_8 := V_c_7.set W8
  have E_a1_8 := E_a1_7.wr W8
  have F_m_8 := F_m_7.other W8 (Or.inl ne_ac)
  have F_s_8 := F_s_7.other W8 (Or.inl ne_ac)
  have V_b2_8 := V_b2_7.other W8 ne_bc
  have F_count_a1_8 := F_count_a1_7.other W8 (Or.inl ne_ac)
  have N8 := Fr.snoc X8 N7 g_cc
  have K8 := Keep.wr K7 W8 (Or.inl (List.mem_of_getElem? (i := 2) rfl))
  refine own_pre (B := (T8.setTop (mkF m 36 #[.val (.ref a1), .val (.int p2)] [(.int (1 : Int32))]))) (fun t kt => ?_) ?_
  · show Steps p.tables e below (T7.setTop (mkF m 34 _ [(.int p2), (.int kk), (.ref c3)])) _
    refine st8 _ ?_
    show Steps p.tables e below (T8.setTop (mkF m 35 _ [])) _
    refine XS.iconst X8.here hx rfl (hb hby d3_35) ?_
    exact kt
  exact own_fin X8 (some (.int (1 : Int32))) (fun h => by rw [Bd.returns] at h; cases h) (BodyLoose.notSynchronized Bd) e8 (fun fs hr => retN X8 hx (t := .boolean) Bd.returns (by simp) (hb hby d3_36) hr) ⟨rfl, N8, K8, E_a1_8, F_m_8, F_s_8, F_count_a1_8, V_b2_8, V_c3_8, g_a1, g_bb, g_cc, ne_ab, ne_ac, ne_bc⟩ (by decide) (by decide)
theorem ef_3y (m : MethodId) (x0 : Addr) (x1 : Int32) : entryFrame m #[(.ref x0), (.int x1)] 2 = mkF m 0 #[.val (.ref x0), .val (.int x1)] [] := by first | (simp [entryFrame, mkF, argsToLocals, Value.category]; done) | rfl
def Q3y (Z : State) (a1 b2 c3 : Addr) (nn kk : Int32) (ff gg : Nat → Int32) (p2 : Int32) (h0 : Heap) (n0 : Nat) (v : Option Value) (h : Heap) (L : List Loc) : Prop := v = some (.int 0) ∧ Fr n0 L ∧ h = h0
set_option maxRecDepth 65536 in
set_option maxHeartbeats 40000000 in
theorem rm3y (l : Launch) (Z : State) (a0 : Array Value) (hw : ∀ d ∈ tables_1, d.before a0 Z = true) (ws : List Jvm.Cond) (a1 b2 c3 : Addr) (nn kk : Int32) (ff gg : Nat → Int32) (p2 : Int32) (h0 : Heap) (n0 : Nat) (Z0 : n0 ≤ h0.size) (M : own_Mem Z h0 n0 a1 b2 c3 nn ff gg kk) (hv : ¬ p2 < 0 ∧ p2 < nn) (hf : ff p2.toNatClampNeg = 1) :
    MetFree l (⟨"com/example/faregraph/faregraph/search/Members", "add", "(I)Z"⟩ : MethodName) (head1 (Jvm.Cond.code (⟨"com/example/faregraph/faregraph/search/Members", "add", "(I)Z"⟩ : MethodName) prog_85_method_2_code 2 (some .boolean) :: ws) ({ frames := 0, cells := 0, slots := 0, locals := 0 } : Room)) (fun a U => a = #[(.ref a1), (.int p2)] ∧ Z.Warmed39 U.vm ∧ U.heap = h0) (fun _ _ _ _ _ => True) (fun _ U o U' => ∃ v L, o = .returned v ∧ Q3y Z a1 b2 c3 nn kk ff gg p2 h0 n0 v U'.heap L ∧ FrameEnd U o U' L ({ frames := 0, cells := 0, slots := 0, locals := 0 } : Room).cells ({ frames := 0, cells := 0, slots := 0, locals := 0 } : Room).slots) := by
  refine MetFree.of_bodySF (plainFor_of_name pn_3) hisR ?_
  intro p e s m args below meth c s₁ Bd hml0 hP hK
  obtain ⟨rfl, hZ, hh⟩ := hP
  have hx := Bd.exec
  have hby := Bd.bytes
  have hml : c.maxLocals = 2 := hml0
  have hown : s.vm.findClass "com/example/faregraph/faregraph/search/Members" = some m.cls := findClass_of_methodNamed Bd.named
  have hnm := (name_of_methodNamed Bd.named Bd.method).1
  have X0 : Stand p l e ({ frames := 0, cells := 0, slots := 0, locals := 0 } : Room) s m #[(.ref a1), (.int p2)] below meth c s₁ [] 0 0 := Stand.of_body Bd
  have e0 : s₁.heap = h0 := by rw [← hh, Bd.state]; rfl
  have N0 := Fr.nil n0
  show own_Ends p e below s ({ frames := 0, cells := 0, slots := 0, locals := 0 } : Room).cells ({ frames := 0, cells := 0, slots := 0, locals := 0 } : Room).slots (Q3y Z a1 b2 c3 nn kk ff gg p2 h0 n0) (s₁.setTop (entryFrame m #[(.ref a1), (.int p2)] 2))
  rw [ef_3y m a1 p2]
  obtain ⟨E_a1, F_m, F_s, F_c, V_b, V_c, g_a1, g_bb, g_cc, ne_ab, ne_ac, ne_bc⟩ := M
  refine own_pre (B := (s₁.setTop (mkF m 1 #[.val (.ref a1), .val (.int p2)] [(.ref a1)]))) (fun t kt => ?_) ?_
  · show Steps p.tables e below (s₁.setTop (mkF m 0 _ [])) _
    refine XS.aloadN X0.here hx rfl (hb hby d3_0) rfl rfl ?_
    exact kt
  obtain ⟨T1, X1, e1, st1⟩ := getF X0 hx hZ hown (host := "") (Or.inl (hw _ (List.mem_of_getElem? (i := 10) rfl))) Via.refl e0 F_m (g := (mkF m 1 #[.val (.ref a1), .val (.int p2)] [(.ref a1)])) rfl rfl (hb hby d3_1)
  refine own_pre (B := (T1.setTop (mkF m 5 #[.val (.ref a1), .val (.int p2)] [(.int p2), (.ref b2)]))) (fun t kt => ?_) ?_
  · show Steps p.tables e below (s₁.setTop (mkF m 1 _ [(.ref a1)])) _
    refine st1 _ ?_
    show Steps p.tables e below (T1.setTop (mkF m 4 _ [(.ref b2)])) _
    refine XS.iloadN X1.here hx rfl (hb hby d3_4) rfl ?_
    exact kt
  obtain ⟨cl2, Ar2, S2, P2, H2⟩ := id V_b
  have in2 := inb_of S2 (hv : ¬ p2 < 0 ∧ p2 < nn)
  have at2 : cl2.slots[(p2).toNatClampNeg]? = some (.int (1 : Int32)) := (H2 _ (Nat.lt_of_not_le fun y => in2 (Or.inr y))).trans (congrArg (fun z => some (Value.int z)) hf)
  refine own_pre (B := (T1.setTop (mkF m 10 #[.val (.ref a1), .val (.int p2)] [(.int (0 : Int32))]))) (fun t kt => ?_) ?_
  · show Steps p.tables e below (T1.setTop (mkF m 5 _ [(.int p2), (.ref b2)])) _
    refine X1.baloadBooleans hx (j := p2) (v := (.int (1 : Int32))) (by rw [e1]; exact Ar2.1) (State.isArrayOf_alike hZ.alike Ar2.2.1) Ar2.2.2 in2 at2 (g := (mkF m 5 #[.val (.ref a1), .val (.int p2)] [(.int p2), (.ref b2)])) rfl rfl (hb hby d3_5) _ ?_
    show Steps p.tables e below (T1.setTop (mkF m 6 _ [(.int (1 : Int32))])) _
    refine XS.ifNo X1.here hx rfl (hb hby d3_6) rfl ((if0 _ _).trans (feq ((by decide) : ¬ ((1 : Int32) = (0 : Int32)))).1) ?_
    show Steps p.tables e below (T1.setTop (mkF m 9 _ [])) _
    refine XS.iconst X1.here hx rfl (hb hby d3_9) ?_
    exact kt
  exact own_fin X1 (some (.int (0 : Int32))) (fun h => by rw [Bd.returns] at h; cases h) (BodyLoose.notSynchronized Bd) e1 (fun fs hr => retN X1 hx (t := .boolean) Bd.returns (by simp) (hb hby d3_10) hr) ⟨rfl, N0, rfl⟩ (by decide) (by decide)
theorem ef_5 (m : MethodId) (x0 : Addr) : entryFrame m #[(.ref x0)] 1 = mkF m 0 #[.val (.ref x0)] [] := by first | (simp [entryFrame, mkF, argsToLocals, Value.category]; done) | rfl
def Q5 (Z : State) (a1 b2 c3 : Addr) (nn kk : Int32) (ff gg : Nat → Int32) (h0 : Heap) (n0 : Nat) (v : Option Value) (h : Heap) (L : List Loc) : Prop := v = some (.int kk) ∧ Fr n0 L ∧ h = h0
set_option maxRecDepth 65536 in
set_option maxHeartbeats 40000000 in
theorem rm5 (l : Launch) (Z : State) (a0 : Array Value) (hw : ∀ d ∈ tables_1, d.before a0 Z = true) (ws : List Jvm.Cond) (a1 b2 c3 : Addr) (nn kk : Int32) (ff gg : Nat → Int32) (h0 : Heap) (n0 : Nat) (Z0 : n0 ≤ h0.size) (M : own_Mem Z h0 n0 a1 b2 c3 nn ff gg kk) :
    MetFree l (⟨"com/example/faregraph/faregraph/search/Members", "count", "()I"⟩ : MethodName) (head1 (Jvm.Cond.code (⟨"com/example/faregraph/faregraph/search/Members", "count", "()I"⟩ : MethodName) prog_85_method_3_code 1 (some .int) :: ws) ({ frames := 0, cells := 0, slots := 0, locals := 0 } : Room)) (fun a U => a = #[(.ref a1)] ∧ Z.Warmed39 U.vm ∧ U.heap = h0) (fun _ _ _ _ _ => True) (fun _ U o U' => ∃ v L, o = .returned v ∧ Q5 Z a1 b2 c3 nn kk ff gg h0 n0 v U'.heap L ∧ FrameEnd U o U' L ({ frames := 0, cells := 0, slots := 0, locals := 0 } : Room).cells ({ frames := 0, cells := 0, slots := 0, locals := 0 } : Room).slots) := by
  refine MetFree.of_bodySF (plainFor_of_name pn_5) hisR ?_
  intro p e s m args below meth c s₁ Bd hml0 hP hK
  obtain ⟨rfl, hZ, hh⟩ := hP
  have hx := Bd.exec
  have hby := Bd.bytes
  have hml : c.maxLocals = 1 := hml0
  have hown : s.vm.findClass "com/example/faregraph/faregraph/search/Members" = some m.cls := findClass_of_methodNamed Bd.named
  have hnm := (name_of_methodNamed Bd.named Bd.method).1
  have X0 : Stand p l e ({ frames := 0, cells := 0, slots := 0, locals := 0 } : Room) s m #[(.ref a1)] below meth c s₁ [] 0 0 := Stand.of_body Bd
  have e0 : s₁.heap = h0 := by rw [← hh, Bd.state]; rfl
  have N0 := Fr.nil n0
  show own_Ends p e below s ({ frames := 0, cells := 0, slots := 0, locals := 0 } : Room).cells ({ frames := 0, cells := 0, slots := 0, locals := 0 } : Room).slots (Q5 Z a1 b2 c3 nn kk ff gg h0 n0) (s₁.setTop (entryFrame m #[(.ref a1)] 1))
  rw [ef_5 m a1]
  obtain ⟨E_a1, F_m, F_s, F_c, V_b, V_c, g_a1, g_bb, g_cc, ne_ab, ne_ac, ne_bc⟩ := M
  refine own_pre (B := (s₁.setTop (mkF m 1 #[.val (.ref a1)] [(.ref a1)]))) (fun t kt => ?_) ?_
  · show Steps p.tables e below (s₁.setTop (mkF m 0 _ [])) _
    refine XS.aloadN X0.here hx rfl (hb hby d5_0) rfl rfl ?_
    exact kt
  obtain ⟨T1, X1, e1, st1⟩ := getF X0 hx hZ hown (host := "") (Or.inl (hw _ (List.mem_of_getElem? (i := 20) rfl))) Via.refl e0 F_c (g := (mkF m 1 #[.val (.ref a1)] [(.ref a1)])) rfl rfl (hb hby d5_1)
  refine own_pre (B := (T1.setTop (mkF m 4 #[.val (.ref a1)] [(.int kk)]))) (fun t kt => ?_) ?_
  · show Steps p.tables e below (s₁.setTop (mkF m 1 _ [(.ref a1)])) _
    refine st1 _ ?_
    exact kt
  exact own_fin X1 (some (.int kk)) (fun h => by rw [Bd.returns] at h; cases h) (BodyLoose.notSynchronized Bd) e1 (fun fs hr => retI X1 hx Bd.returns (hb hby d5_4) hr) ⟨rfl, N0, rfl⟩ (by decide) (by decide)
theorem ef_6 (m : MethodId) (x0 : Addr) (x1 : Int32) : entryFrame m #[(.ref x0), (.int x1)] 2 = mkF m 0 #[.val (.ref x0), .val (.int x1)] [] := by first | (simp [entryFrame, mkF, argsToLocals, Value.category]; done) | rfl
def Q6 (Z : State) (a1 b2 c3 : Addr) (nn kk : Int32) (ff gg : Nat → Int32) (p2 rr : Int32) (h0 : Heap) (n0 : Nat) (v : Option Value) (h : Heap) (L : List Loc) : Prop := v = some (.int rr) ∧ Fr n0 L ∧ h = h0
set_option maxRecDepth 65536 in
set_option maxHeartbeats 40000000 in
theorem rm6 (l : Launch) (Z : State) (a0 : Array Value) (hw : ∀ d ∈ tables_1, d.before a0 Z = true) (ws : List Jvm.Cond) (a1 b2 c3 : Addr) (nn kk : Int32) (ff gg : Nat → Int32) (p2 rr : Int32) (h0 : Heap) (n0 : Nat) (Z0 : n0 ≤ h0.size) (M : own_Mem Z h0 n0 a1 b2 c3 nn ff gg kk) (hi : ¬ p2 < 0 ∧ p2 < nn) (hr : gg p2.toNatClampNeg = rr) :
    MetFree l (⟨"com/example/faregraph/faregraph/search/Members", "get", "(I)I"⟩ : MethodName) (head1 (Jvm.Cond.code (⟨"com/example/faregraph/faregraph/search/Members", "get", "(I)I"⟩ : MethodName) prog_85_method_4_code 2 (some .int) :: ws) ({ frames := 0, cells := 0, slots := 0, locals := 0 } : Room)) (fun a U => a = #[(.ref a1), (.int p2)] ∧ Z.Warmed39 U.vm ∧ U.heap = h0) (fun _ _ _ _ _ => True) (fun _ U o U' => ∃ v L, o = .returned v ∧ Q6 Z a1 b2 c3 nn kk ff gg p2 rr h0 n0 v U'.heap L ∧ FrameEnd U o U' L ({ frames := 0, cells := 0, slots := 0, locals := 0 } : Room).cells ({ frames := 0, cells := 0, slots := 0, locals := 0 } : Room).slots) := by
  refine MetFree.of_bodySF (plainFor_of_name pn_6) hisR ?_
  intro p e s m args below meth c s₁ Bd hml0 hP hK
  obtain ⟨rfl, hZ, hh⟩ := hP
  have hx := Bd.exec
  have hby := Bd.bytes
  have hml : c.maxLocals = 2 := hml0
  have hown : s.vm.findClass "com/example/faregraph/faregraph/search/Members" = some m.cls := findClass_of_methodNamed Bd.named
  have hnm := (name_of_methodNamed Bd.named Bd.method).1
  have X0 : Stand p l e ({ frames := 0, cells := 0, slots := 0, locals := 0 } : Room) s m #[(.ref a1), (.int p2)] below meth c s₁ [] 0 0 := Stand.of_body Bd
  have e0 : s₁.heap = h0 := by rw [← hh, Bd.state]; rfl
  have N0 := Fr.nil n0
  show own_Ends p e below s ({ frames := 0, cells := 0, slots := 0, locals := 0 } : Room).cells ({ frames := 0, cells := 0, slots := 0, locals := 0 } : Room).slots (Q6 Z a1 b2 c3 nn kk ff gg p2 rr h0 n0) (s₁.setTop (entryFrame m #[(.ref a1), (.int p2)] 2))
  rw [ef_6 m a1 p2]
  obtain ⟨E_a1, F_m, F_s, F_c, V_b, V_c, g_a1, g_bb, g_cc, ne_ab, ne_ac, ne_bc⟩ := M
  refine own_pre (B := (s₁.setTop (mkF m 1 #[.val (.ref a1), .val (.int p2)] [(.ref a1)]))) (fun t kt => ?_) ?_
  · show Steps p.tables e below (s₁.setTop (mkF m 0 _ [])) _
    refine XS.aloadN X0.here hx rfl (hb hby d6_0) rfl rfl ?_
    exact kt
  obtain ⟨T1, X1, e1, st1⟩ := getF X0 hx hZ hown (host := "") (Or.inl (hw _ (List.mem_of_getElem? (i := 13) rfl))) Via.refl e0 F_s (g := (mkF m 1 #[.val (.ref a1), .val (.int p2)] [(.ref a1)])) rfl rfl (hb hby d6_1)
  refine own_pre (B := (T1.setTop (mkF m 5 #[.val (.ref a1), .val (.int p2)] [(.int p2), (.ref c3)]))) (fun t kt => ?_) ?_
  · show Steps p.tables e below (s₁.setTop (mkF m 1 _ [(.ref a1)])) _
    refine st1 _ ?_
    show Steps p.tables e below (T1.setTop (mkF m 4 _ [(.ref c3)])) _
    refine XS.iloadN X1.here hx rfl (hb hby d6_4) rfl ?_
    exact kt
  obtain ⟨cl2, Ar2, S2, P2, H2⟩ := id V_c
  have in2 := inb_of S2 (hi : ¬ p2 < 0 ∧ p2 < nn)
  have at2 : cl2.slots[(p2).toNatClampNeg]? = some (.int rr) := (H2 _ (Nat.lt_of_not_le fun y => in2 (Or.inr y))).trans (congrArg (fun z => some (Value.int z)) hr)
  refine own_pre (B := (T1.setTop (mkF m 6 #[.val (.ref a1), .val (.int p2)] [(.int rr)]))) (fun t kt => ?_) ?_
  · show Steps p.tables e below (T1.setTop (mkF m 5 _ [(.int p2), (.ref c3)])) _
    refine X1.iaload hx (j := p2) (v := (.int rr)) (by rw [e1]; exact Ar2.1) (State.isArrayOf_alike hZ.alike Ar2.2.1) Ar2.2.2 in2 at2 (g := (mkF m 5 #[.val (.ref a1), .val (.int p2)] [(.int p2), (.ref c3)])) rfl rfl (hb hby d6_5) _ ?_
    exact kt
  exact own_fin X1 (some (.int rr)) (fun h => by rw [Bd.returns] at h; cases h) (BodyLoose.notSynchronized Bd) e1 (fun fs hr => retI X1 hx Bd.returns (hb hby d6_6) hr) ⟨rfl, N0, rfl⟩ (by decide) (by decide)
theorem own_inc {i kk : Int32} (hi0 : 0 ≤ i.toInt) (hgo : i < kk) : 0 ≤ (i + (1 : Int32)).toInt ∧ (i + (1 : Int32)).toInt = i.toInt + 1 := by
  rw [Int32.lt_iff_toInt_lt] at hgo
  have e1 : (1 : Int32).toInt = 1 := by decide
  have h1 := kk.toInt_lt
  have e := Jvm.Kit.i32_add (p := i) (q := (1 : Int32)) (by omega) (by omega)
  omega
theorem own_cov_step {i kk : Int32} {f gg : Nat → Int32} {N : Nat} (hi0 : 0 ≤ i.toInt) (hgo : i < kk) (hcov : ∀ x, x < N → f x ≠ 0 → ∃ j, i.toNatClampNeg ≤ j ∧ j < kk.toNatClampNeg ∧ (gg j).toNatClampNeg = x) :
    ∀ x, x < N → own_upd f (gg i.toNatClampNeg).toNatClampNeg 0 x ≠ 0 → ∃ j, (i + (1 : Int32)).toNatClampNeg ≤ j ∧ j < kk.toNatClampNeg ∧ (gg j).toNatClampNeg = x := by
  intro x hx hne
  have h1 := own_inc hi0 hgo
  by_cases q : x = (gg i.toNatClampNeg).toNatClampNeg
  · exact absurd (own_upd_hit q) hne
  · rw [own_upd_ne q] at hne
    obtain ⟨j, a, b, d⟩ := hcov x hx hne
    refine ⟨j, ?_, b, d⟩
    have hj : j ≠ i.toNatClampNeg := fun z => q (by rw [← d, z])
    rw [own_tn] at a hj ⊢
    omega
theorem own_done {i kk : Int32} {f gg : Nat → Int32} {N : Nat} (hit : i.toInt + ((0 : Nat) : Int) = kk.toInt) (hcov : ∀ x, x < N → f x ≠ 0 → ∃ j, i.toNatClampNeg ≤ j ∧ j < kk.toNatClampNeg ∧ (gg j).toNatClampNeg = x) : ∀ x, x < N → f x = 0 := by
  intro x hx
  by_cases q : f x = 0
  · exact q
  · obtain ⟨j, a, b, -⟩ := hcov x hx q
    rw [own_tn] at a b
    omega
theorem ef_4 (m : MethodId) (x0 : Addr) : entryFrame m #[(.ref x0)] 2 = mkF m 0 #[.val (.ref x0), .unset] [] := by first | (simp [entryFrame, mkF, argsToLocals, Value.category]; done) | rfl
def Q4 (Z : State) (a1 b2 c3 : Addr) (nn kk : Int32) (ff gg : Nat → Int32) (h0 : Heap) (n0 : Nat) (v : Option Value) (h : Heap) (L : List Loc) : Prop := v = none ∧ Fr n0 L ∧ Keep h0 h [a1, b2] ∧ own_Mem Z h n0 a1 b2 c3 nn (fun _ => (0 : Int32)) gg 0
set_option maxRecDepth 65536 in
set_option maxHeartbeats 40000000 in
theorem rm4 (l : Launch) (Z : State) (a0 : Array Value) (hw : ∀ d ∈ tables_1, d.before a0 Z = true) (ws : List Jvm.Cond) (a1 b2 c3 : Addr) (nn kk : Int32) (ff gg : Nat → Int32) (h0 : Heap) (n0 : Nat) (Z0 : n0 ≤ h0.size) (M : own_Mem Z h0 n0 a1 b2 c3 nn ff gg kk) (hk : 0 ≤ kk.toInt ∧ kk.toInt ≤ nn.toInt) (hg : ∀ j, j < kk.toNatClampNeg → ¬ gg j < 0 ∧ gg j < nn) (hcov0 : ∀ x, x < nn.toNatClampNeg → ff x ≠ 0 → ∃ j, j < kk.toNatClampNeg ∧ (gg j).toNatClampNeg = x) :
    MetFree l (⟨"com/example/faregraph/faregraph/search/Members", "clear", "()V"⟩ : MethodName) (head1 (Jvm.Cond.code (⟨"com/example/faregraph/faregraph/search/Members", "clear", "()V"⟩ : MethodName) prog_85_method_5_code 2 none :: ws) ({ frames := 0, cells := 0, slots := 0, locals := 0 } : Room)) (fun a U => a = #[(.ref a1)] ∧ Z.Warmed39 U.vm ∧ U.heap = h0) (fun _ _ _ _ _ => True) (fun _ U o U' => ∃ v L, o = .returned v ∧ Q4 Z a1 b2 c3 nn kk ff gg h0 n0 v U'.heap L ∧ FrameEnd U o U' L ({ frames := 0, cells := 0, slots := 0, locals := 0 } : Room).cells ({ frames := 0, cells := 0, slots := 0, locals := 0 } : Room).slots) := by
  refine MetFree.of_bodySF (plainFor_of_name pn_4) hisR ?_
  intro p e s m args below meth c s₁ Bd hml0 hP hK
  obtain ⟨rfl, hZ, hh⟩ := hP
  have hx := Bd.exec
  have hby := Bd.bytes
  have hml : c.maxLocals = 2 := hml0
  have hown : s.vm.findClass "com/example/faregraph/faregraph/search/Members" = some m.cls := findClass_of_methodNamed Bd.named
  have hnm := (name_of_methodNamed Bd.named Bd.method).1
  have X0 : Stand p l e ({ frames := 0, cells := 0, slots := 0, locals := 0 } : Room) s m #[(.ref a1)] below meth c s₁ [] 0 0 := Stand.of_body Bd
  have e0 : s₁.heap = h0 := by rw [← hh, Bd.state]; rfl
  have N0 := Fr.nil n0
  show own_Ends p e below s ({ frames := 0, cells := 0, slots := 0, locals := 0 } : Room).cells ({ frames := 0, cells := 0, slots := 0, locals := 0 } : Room).slots (Q4 Z a1 b2 c3 nn kk ff gg h0 n0) (s₁.setTop (entryFrame m #[(.ref a1)] 2))
  rw [ef_4 m a1]
  have loop : ∀ (t : Nat) (i : Int32) (T : State) (h : Heap) (locs : List Loc) (f : Nat → Int32), Stand p l e ({ frames := 0, cells := 0, slots := 0, locals := 0 } : Room) s m #[(.ref a1)] below meth c T locs 0 0 → T.heap = h → Fr n0 locs → Keep h0 h [a1, b2] → own_Mem Z h n0 a1 b2 c3 nn f gg kk → 0 ≤ i.toInt → i.toInt + t = kk.toInt → (∀ x, x < nn.toNatClampNeg → f x ≠ 0 → ∃ j, i.toNatClampNeg ≤ j ∧ j < kk.toNatClampNeg ∧ (gg j).toNatClampNeg = x) → own_Ends p e below s ({ frames := 0, cells := 0, slots := 0, locals := 0 } : Room).cells ({ frames := 0, cells := 0, slots := 0, locals := 0 } : Room).slots (Q4 Z a1 b2 c3 nn kk ff gg h0 n0) (T.setTop (mkF m 2 #[.val (.ref a1), .val (.int i)] [])) := by
    intro t
    induction t with
    | zero =>
      intro i T h locs f X eT N Kp M hi0 hit hcov
      obtain ⟨E_a1, F_m, F_s, F_c, V_b, V_c, g_a1, g_bb, g_cc, ne_ab, ne_ac, ne_bc⟩ := M
      have hstop : ¬ (i < kk) := by rw [Int32.lt_iff_toInt_lt]; omega
      refine own_pre (B := (T.setTop (mkF m 4 #[.val (.ref a1), .val (.int i)] [(.ref a1), (.int i)]))) (fun t kt => ?_) ?_
      · show Steps p.tables e below (T.setTop (mkF m 2 _ [])) _
        refine XS.iloadN X.here hx rfl (hb hby d4_2) rfl ?_
        show Steps p.tables e below (T.setTop (mkF m 3 _ [(.int i)])) _
        refine XS.aloadN X.here hx rfl (hb hby d4_3) rfl rfl ?_
        exact kt
      obtain ⟨T1, X1, e1, st1⟩ := getF X hx hZ hown (host := "") (Or.inl (hw _ (List.mem_of_getElem? (i := 20) rfl))) Via.refl eT F_c (g := (mkF m 4 #[.val (.ref a1), .val (.int i)] [(.ref a1), (.int i)])) rfl rfl (hb hby d4_4)
      refine own_pre (B := (T1.setTop (mkF m 30 #[.val (.ref a1), .val (.int i)] [(.int (0 : Int32)), (.ref a1)]))) (fun t kt => ?_) ?_
      · show Steps p.tables e below (T.setTop (mkF m 4 _ [(.ref a1), (.int i)])) _
        refine st1 _ ?_
        show Steps p.tables e below (T1.setTop (mkF m 7 _ [(.int kk), (.int i)])) _
        refine XS.icmpYes X1.here hx rfl (pc0 := 7) (pc' := 28) rfl (hb hby d4_7) rfl (flt (hstop : ¬ (i < kk))).2.1 (by decide) (by decide) ?_
        show Steps p.tables e below (T1.setTop (mkF m 28 _ [])) _
        refine XS.aloadN X1.here hx rfl (hb hby d4_28) rfl rfl ?_
        show Steps p.tables e below (T1.setTop (mkF m 29 _ [(.ref a1)])) _
        refine XS.iconst X1.here hx rfl (hb hby d4_29) ?_
        exact kt
      obtain ⟨T2, h2, X2, e2, W2, st2⟩ := putF X1 hx hZ hown (host := "") (Or.inl (hw _ (List.mem_of_getElem? (i := 20) rfl))) Via.refl e1 F_c E_a1 (Or.inl (hw _ (List.mem_of_getElem? (i := 21) rfl))) (hw _ (List.mem_of_getElem? (i := 1) rfl)) (ty := .int) (by decide) rfl rfl (g := (mkF m 30 #[.val (.ref a1), .val (.int i)] [(.int (0 : Int32)), (.ref a1)])) rfl rfl (hb hby d4_30)
      have F_count_a1_2 := F_c.same W2
      have E_a1_2 := E_a1.wr W2
      have F_m_2 := F_m.other W2 (Or.inr (slot_ne (Or.inr (hw _ (List.mem_of_getElem? (i := 11) rfl))) (Or.inl (hw _ (List.mem_of_getElem? (i := 21) rfl))) (by decide) (t := (.array .boolean)) (t' := .int) (by decide) (by decide)))
      have F_s_2 := F_s.other W2 (Or.inr (slot_ne (Or.inr (hw _ (List.mem_of_getElem? (i := 14) rfl))) (Or.inl (hw _ (List.mem_of_getElem? (i := 21) rfl))) (by decide) (t := (.array .int)) (t' := .int) (by decide) (by decide)))
      have V_b_2 := V_b.other W2 (Ne.symm ne_ab)
      have V_c_2 := V_c.other W2 (Ne.symm ne_ac)
      have N2 := Fr.snoc X2 N g_a1
      have K2 := Keep.wr Kp W2 (Or.inl (List.mem_of_getElem? (i := 0) rfl))
      refine own_pre (B := (T2.setTop (mkF m 33 #[.val (.ref a1), .val (.int i)] []))) (fun t kt => ?_) ?_
      · show Steps p.tables e below (T1.setTop (mkF m 30 _ [(.int (0 : Int32)), (.ref a1)])) _
        refine st2 _ ?_
        exact kt
      exact own_fin X2 none (fun _ => rfl) (BodyLoose.notSynchronized Bd) e2 (fun fs hr => X2.returnOut hx Bd.returns (hb hby d4_33) hr) ⟨rfl, N2, K2, E_a1_2, F_m_2, F_s_2, F_count_a1_2, (V_b_2).congr (own_done hit hcov), V_c_2, g_a1, g_bb, g_cc, ne_ab, ne_ac, ne_bc⟩ (by decide) (by decide)
    | succ t ih =>
      intro i T h locs f X eT N Kp M hi0 hit hcov
      obtain ⟨E_a1, F_m, F_s, F_c, V_b, V_c, g_a1, g_bb, g_cc, ne_ab, ne_ac, ne_bc⟩ := M
      have hgo : i < kk := by rw [Int32.lt_iff_toInt_lt]; omega
      have hlt : i.toNatClampNeg < kk.toNatClampNeg := by rw [own_tn, own_tn]; omega
      have hin : ¬ i < 0 ∧ i < nn := own_rng' ⟨hi0, by omega⟩
      refine own_pre (B := (T.setTop (mkF m 4 #[.val (.ref a1), .val (.int i)] [(.ref a1), (.int i)]))) (fun t kt => ?_) ?_
      · show Steps p.tables e below (T.setTop (mkF m 2 _ [])) _
        refine XS.iloadN X.here hx rfl (hb hby d4_2) rfl ?_
        show Steps p.tables e below (T.setTop (mkF m 3 _ [(.int i)])) _
        refine XS.aloadN X.here hx rfl (hb hby d4_3) rfl rfl ?_
        exact kt
      obtain ⟨T3, X3, e3, st3⟩ := getF X hx hZ hown (host := "") (Or.inl (hw _ (List.mem_of_getElem? (i := 20) rfl))) Via.refl eT F_c (g := (mkF m 4 #[.val (.ref a1), .val (.int i)] [(.ref a1), (.int i)])) rfl rfl (hb hby d4_4)
      refine own_pre (B := (T3.setTop (mkF m 11 #[.val (.ref a1), .val (.int i)] [(.ref a1)]))) (fun t kt => ?_) ?_
      · show Steps p.tables e below (T.setTop (mkF m 4 _ [(.ref a1), (.int i)])) _
        refine st3 _ ?_
        show Steps p.tables e below (T3.setTop (mkF m 7 _ [(.int kk), (.int i)])) _
        refine XS.icmpNo X3.here hx rfl (hb hby d4_7) rfl (tlt (hgo : i < kk)).2.1 ?_
        show Steps p.tables e below (T3.setTop (mkF m 10 _ [])) _
        refine XS.aloadN X3.here hx rfl (hb hby d4_10) rfl rfl ?_
        exact kt
      obtain ⟨T4, X4, e4, st4⟩ := getF X3 hx hZ hown (host := "") (Or.inl (hw _ (List.mem_of_getElem? (i := 10) rfl))) Via.refl e3 F_m (g := (mkF m 11 #[.val (.ref a1), .val (.int i)] [(.ref a1)])) rfl rfl (hb hby d4_11)
      refine own_pre (B := (T4.setTop (mkF m 15 #[.val (.ref a1), .val (.int i)] [(.ref a1), (.ref b2)]))) (fun t kt => ?_) ?_
      · show Steps p.tables e below (T3.setTop (mkF m 11 _ [(.ref a1)])) _
        refine st4 _ ?_
        show Steps p.tables e below (T4.setTop (mkF m 14 _ [(.ref b2)])) _
        refine XS.aloadN X4.here hx rfl (hb hby d4_14) rfl rfl ?_
        exact kt
      obtain ⟨T5, X5, e5, st5⟩ := getF X4 hx hZ hown (host := "") (Or.inl (hw _ (List.mem_of_getElem? (i := 13) rfl))) Via.refl e4 F_s (g := (mkF m 15 #[.val (.ref a1), .val (.int i)] [(.ref a1), (.ref b2)])) rfl rfl (hb hby d4_15)
      refine own_pre (B := (T5.setTop (mkF m 19 #[.val (.ref a1), .val (.int i)] [(.int i), (.ref c3), (.ref b2)]))) (fun t kt => ?_) ?_
      · show Steps p.tables e below (T4.setTop (mkF m 15 _ [(.ref a1), (.ref b2)])) _
        refine st5 _ ?_
        show Steps p.tables e below (T5.setTop (mkF m 18 _ [(.ref c3), (.ref b2)])) _
        refine XS.iloadN X5.here hx rfl (hb hby d4_18) rfl ?_
        exact kt
      obtain ⟨cl6, Ar6, S6, P6, H6⟩ := id V_c
      have in6 := inb_of S6 (hin : ¬ i < 0 ∧ i < nn)
      have at6 : cl6.slots[(i).toNatClampNeg]? = some (.int (gg i.toNatClampNeg)) := (H6 _ (Nat.lt_of_not_le fun y => in6 (Or.inr y)))
      refine own_pre (B := (T5.setTop (mkF m 21 #[.val (.ref a1), .val (.int i)] [(.int (0 : Int32)), (.int (gg i.toNatClampNeg)), (.ref b2)]))) (fun t kt => ?_) ?_
      · show Steps p.tables e below (T5.setTop (mkF m 19 _ [(.int i), (.ref c3), (.ref b2)])) _
        refine X5.iaload hx (j := i) (v := (.int (gg i.toNatClampNeg))) (by rw [e5]; exact Ar6.1) (State.isArrayOf_alike hZ.alike Ar6.2.1) Ar6.2.2 in6 at6 (g := (mkF m 19 #[.val (.ref a1), .val (.int i)] [(.int i), (.ref c3), (.ref b2)])) rfl rfl (hb hby d4_19) _ ?_
        show Steps p.tables e below (T5.setTop (mkF m 20 _ [(.int (gg i.toNatClampNeg)), (.ref b2)])) _
        refine XS.iconst X5.here hx rfl (hb hby d4_20) ?_
        exact kt
      obtain ⟨cl7, Ar7, S7, P7, H7⟩ := id V_b
      have in7 := inb_of S7 ((hg _ hlt) : ¬ (gg i.toNatClampNeg) < 0 ∧ (gg i.toNatClampNeg) < nn)
      obtain ⟨T7, h7, X7, e7, W7, st7⟩ := stZ X5 hx hZ e5 Ar7 (j := (gg i.toNatClampNeg)) in7 (g := (mkF m 21 #[.val (.ref a1), .val (.int i)] [(.int (0 : Int32)), (.int (gg i.toNatClampNeg)), (.ref b2)])) rfl rfl (hb hby d4_21)
      rw [own_nb0] at W7
      have V_b2_7 := V_b.set W7
      have E_a1_7 := E_a1.wr W7
      have F_m_7 := F_m.other W7 (Or.inl ne_ab)
      have F_s_7 := F_s.other W7 (Or.inl ne_ab)
      have F_c_7 := F_c.other W7 (Or.inl ne_ab)
      have V_c_7 := V_c.other W7 (Ne.symm ne_bc)
      have N7 := Fr.snoc X7 N g_bb
      have K7 := Keep.wr Kp W7 (Or.inl (List.mem_of_getElem? (i := 1) rfl))
      refine own_pre (B := (T7.setTop (mkF m 2 #[.val (.ref a1), .val (.int (i + (1 : Int32)))] []))) (fun t kt => ?_) ?_
      · show Steps p.tables e below (T5.setTop (mkF m 21 _ [(.int (0 : Int32)), (.int (gg i.toNatClampNeg)), (.ref b2)])) _
        refine st7 _ ?_
        show Steps p.tables e below (T7.setTop (mkF m 22 _ [])) _
        refine XS.iinc X7.here hx rfl (hb hby d4_22) rfl (l' := #[.val (.ref a1), .val (.int (i + (1 : Int32)))]) rfl ?_
        show Steps p.tables e below (T7.setTop (mkF m 25 _ [])) _
        refine XS.goto X7.here hx rfl (pc0 := 25) (pc' := 2) rfl (hb hby d4_25) (by decide) (by decide) ?_
        exact kt
      exact ih _ _ _ _ _ X7 e7 N7 K7 ⟨E_a1_7, F_m_7, F_s_7, F_c_7, V_b2_7, V_c_7, g_a1, g_bb, g_cc, ne_ab, ne_ac, ne_bc⟩ (own_inc hi0 hgo).1 (by rw [(own_inc hi0 hgo).2]; omega) (own_cov_step hi0 hgo hcov)
  refine own_pre (B := (s₁.setTop (mkF m 2 #[.val (.ref a1), .val (.int (0 : Int32))] []))) (fun t kt => ?_) ?_
  · show Steps p.tables e below (s₁.setTop (mkF m 0 _ [])) _
    refine XS.iconst X0.here hx rfl (hb hby d4_0) ?_
    show Steps p.tables e below (s₁.setTop (mkF m 1 _ [(.int (0 : Int32))])) _
    refine XS.istoreN X0.here hx rfl (hb hby d4_1) rfl (l' := #[.val (.ref a1), .val (.int (0 : Int32))]) rfl ?_
    exact kt
  exact loop kk.toInt.toNat (0 : Int32) s₁ h0 [] ff X0 e0 N0 (Keep.refl _ _) M (by decide) (by have e0 : (0 : Int32).toInt = 0 := (by decide); omega) (fun x hx hne => by obtain ⟨j, q1, q2⟩ := hcov0 x hx hne; exact ⟨j, Nat.zero_le _, q1, q2⟩)
theorem own_m3 (p1 : Int32) : ¬ (p1 &&& (3 : Int32)) < 0 ∧ (p1 &&& (3 : Int32)) < (4 : Int32) := by
  have e1 : (p1 &&& (3 : Int32)).toInt = p1.toInt % 2 ^ 2 := Jvm.Kit.i32_mask p1 3 (k := 2) (by decide) (by decide)
  have e : (4 : Int32).toInt = 4 := by decide
  refine own_rng' ?_
  omega
theorem own_lt4 {v : Int32} (h : ¬ v < 0 ∧ v < (4 : Int32)) : v.toNatClampNeg < 4 := by
  have h1 := own_rng h
  have e : (4 : Int32).toInt = 4 := by decide
  rw [own_tn]
  omega
/-- a Members of four places behind at most t additions -/
def own_Inv (f g : Nat → Int32) (k : Int32) (t : Nat) : Prop := (∀ x, x < 4 → f x = 0 ∨ f x = 1) ∧ 0 ≤ k.toInt ∧ (k.toInt ≤ t ∧ t ≤ 4) ∧ (∀ j, j < k.toNatClampNeg → ¬ g j < 0 ∧ g j < (4 : Int32)) ∧ (∀ x, x < (4 : Int32).toNatClampNeg → f x ≠ 0 → ∃ j, j < k.toNatClampNeg ∧ (g j).toNatClampNeg = x)
theorem own_Inv_zero : own_Inv (fun _ => (0 : Int32)) (fun _ => (0 : Int32)) 0 0 := ⟨fun _ _ => Or.inl rfl, by decide, ⟨by decide, by decide⟩, fun j hj => absurd hj (Nat.not_lt_zero j), fun x _ q => absurd rfl q⟩
theorem own_Inv_k {f g : Nat → Int32} {k : Int32} {t : Nat} (h : own_Inv f g k t) : 0 ≤ k.toInt ∧ k.toInt ≤ (4 : Int32).toInt := by
  have e : (4 : Int32).toInt = 4 := by decide
  have h1 := h.2.1; have h2 := h.2.2.1
  omega
theorem own_Inv_b {f g : Nat → Int32} {k : Int32} {t : Nat} (h : own_Inv f g k t) (ht : t < 4) : ¬ k < 0 ∧ k < (4 : Int32) := by
  have e : (4 : Int32).toInt = 4 := by decide
  have h1 := h.2.1; have h2 := h.2.2.1
  refine own_rng' ?_
  omega
theorem own_Inv_up {f g : Nat → Int32} {k : Int32} {t : Nat} (h : own_Inv f g k t) (ht : t < 4 := by decide) : own_Inv f g k (t + 1) := ⟨h.1, h.2.1, ⟨by have h2 := h.2.2.1; omega, ht⟩, h.2.2.2⟩
theorem own_Inv_add {f g : Nat → Int32} {k v : Int32} {t : Nat} (h : own_Inv f g k t) (ht : t < 4) (hv : ¬ v < 0 ∧ v < (4 : Int32)) : own_Inv (own_upd f v.toNatClampNeg 1) (own_upd g k.toNatClampNeg v) (k + 1) (t + 1) := by
  obtain ⟨h1, h2, h3, h4, h5⟩ := h
  have e1 : (1 : Int32).toInt = 1 := by decide
  have ek : (k + 1).toInt = k.toInt + 1 := by rw [Jvm.Kit.i32_add (by omega) (by omega), e1]
  refine ⟨fun x hx => ?_, by omega, ⟨by omega, by omega⟩, fun j hj => ?_, fun x hx q => ?_⟩
  · by_cases z : x = v.toNatClampNeg
    · exact Or.inr (own_upd_hit z)
    · rw [own_upd_ne z]; exact h1 x hx
  · by_cases z : j = k.toNatClampNeg
    · rw [own_upd_hit z]; exact hv
    · rw [own_upd_ne z]
      refine h4 j ?_
      rw [own_tn] at hj z ⊢
      omega
  · by_cases z : x = v.toNatClampNeg
    · exact ⟨k.toNatClampNeg, by rw [own_tn, own_tn]; omega, by rw [own_upd_same, z]⟩
    · rw [own_upd_ne z] at q
      obtain ⟨j, a, b⟩ := h5 x hx q
      refine ⟨j, by rw [own_tn] at a ⊢; omega, ?_⟩
      rw [own_upd_ne (fun w => by rw [w] at a; exact Nat.lt_irrefl _ a)]
      exact b
theorem ef_0 (m : MethodId) (x0 : Int32) (x1 : Int32) (x2 : Int32) (x3 : Int32) : entryFrame m #[(.int x0), (.int x1), (.int x2), (.int x3)] maxLocals = mkF m 0 #[.val (.int x0), .val (.int x1), .val (.int x2), .val (.int x3), .unset, .unset, .unset, .unset, .unset, .unset, .unset, .unset, .unset, .unset, .unset, .unset] [] := by first | (simp [entryFrame, mkF, argsToLocals, Value.category, maxLocals]; done) | rfl
def Q0 (Z : State) (p1 p2 p3 p4 : Int32) (h0 : Heap) (n0 : Nat) (v : Option Value) (h : Heap) (L : List Loc) : Prop := v = some (.int 1) ∧ Fr n0 L
set_option maxRecDepth 65536 in
set_option maxHeartbeats 40000000 in
theorem rm0 (l : Launch) (Z : State) (a0 : Array Value) (hw : ∀ d ∈ tables_1, d.before a0 Z = true) (ws : List Jvm.Cond) (p1 p2 p3 p4 : Int32) (h0 : Heap) (n0 : Nat) (Z0 : n0 ≤ h0.size)  :
    MetFree l x (head1 (Jvm.Cond.code x code maxLocals ret :: ws) room_1) (fun a U => a = #[(.int p1), (.int p2), (.int p3), (.int p4)] ∧ Z.Warmed39 U.vm ∧ U.heap = h0) (fun _ _ _ _ _ => True) (fun _ U o U' => ∃ v L, o = .returned v ∧ Q0 Z p1 p2 p3 p4 h0 n0 v U'.heap L ∧ FrameEnd U o U' L room_1.cells room_1.slots) := by
  refine MetFree.of_bodySF (plainFor_of_name pn_0) hisR ?_
  intro p e s m args below meth c s₁ Bd hml0 hP hK
  obtain ⟨rfl, hZ, hh⟩ := hP
  have hx := Bd.exec
  have hby := Bd.bytes
  have hml : c.maxLocals = 16 := hml0
  have hown : s.vm.findClass "com/example/faregraph/faregraph/search/MembersClearPinLaw" = some m.cls := findClass_of_methodNamed Bd.named
  have hnm := (name_of_methodNamed Bd.named Bd.method).1
  have X0 : Stand p l e room_1 s m #[(.int p1), (.int p2), (.int p3), (.int p4)] below meth c s₁ [] 0 0 := Stand.of_body Bd
  have e0 : s₁.heap = h0 := by rw [← hh, Bd.state]; rfl
  have N0 := Fr.nil n0
  show own_Ends p e below s room_1.cells room_1.slots (Q0 Z p1 p2 p3 p4 h0 n0) (s₁.setTop (entryFrame m #[(.int p1), (.int p2), (.int p3), (.int p4)] maxLocals))
  rw [ef_0 m p1 p2 p3 p4]
  have K20 : ∀ aa bb cc kn : Int32, (¬ aa < 0 ∧ aa < (4 : Int32)) → (¬ bb < 0 ∧ bb < (4 : Int32)) → (¬ cc < 0 ∧ cc < (4 : Int32)) → own_Ends p e below s room_1.cells room_1.slots (Q0 Z p1 p2 p3 p4 h0 n0) (s₁.setTop (mkF m 20 #[.val (.int p1), .val (.int p2), .val (.int p3), .val (.int p4), .val (.int aa), .val (.int bb), .val (.int cc), .val (.int kn), .unset, .unset, .unset, .unset, .unset, .unset, .unset, .unset] [])) := by
    intro aa bb cc kn ra rb rc
    have ia := own_rng ra
    have ib := own_rng rb
    have ic := own_rng rc
    obtain ⟨T1, h1, X1, e1, E1, A1, D1, -, st1⟩ := newO X0 hx hZ hown (hw _ (List.mem_of_getElem? (i := 0) rfl)) (hw _ (List.mem_of_getElem? (i := 1) rfl)) (hw _ (List.mem_of_getElem? (i := 2) rfl)) e0 (g := (mkF m 20 #[.val (.int p1), .val (.int p2), .val (.int p3), .val (.int p4), .val (.int aa), .val (.int bb), .val (.int cc), .val (.int kn), .unset, .unset, .unset, .unset, .unset, .unset, .unset, .unset] [])) rfl (hb hby at_20) (by decide) (by decide)
    obtain ⟨b1, g1⟩ : ∃ z, z = h0.size := ⟨_, rfl⟩
    have g_b1 : n0 ≤ b1 := Nat.le_trans Z0 (Nat.le_of_eq g1.symm)
    have sz_b1 : h0.size ≤ b1 := Nat.le_trans (Keep.refl h0 []).1 (Nat.le_of_eq g1.symm)
    rw [← g1] at A1 D1 st1
    have K1 := Keep.ext (Keep.refl h0 []) E1
    have E_b1 := A1
    have F_member_b1 : Fld Z h1 b1 "com/example/faregraph/faregraph/search/Members" "member" "[Z" .null := D1 (Or.inr (hw _ (List.mem_of_getElem? (i := 11) rfl))) (ty := (.array .boolean)) (by decide)
    have F_members_b1 : Fld Z h1 b1 "com/example/faregraph/faregraph/search/Members" "members" "[I" .null := D1 (Or.inr (hw _ (List.mem_of_getElem? (i := 14) rfl))) (ty := (.array .int)) (by decide)
    have F_count_b1 : Fld Z h1 b1 "com/example/faregraph/faregraph/search/Members" "count" "I" (.int (0 : Int32)) := D1 (Or.inl (hw _ (List.mem_of_getElem? (i := 21) rfl))) (ty := .int) (by decide)
    refine own_pre (B := (T1.setTop (mkF m 25 #[.val (.int p1), .val (.int p2), .val (.int p3), .val (.int p4), .val (.int aa), .val (.int bb), .val (.int cc), .val (.int kn), .unset, .unset, .unset, .unset, .unset, .unset, .unset, .unset] [(.int (4 : Int32)), (.ref b1), (.ref b1)]))) (fun t kt => ?_) ?_
    · show Steps p.tables e below (s₁.setTop (mkF m 20 _ [])) _
      refine st1 _ ?_
      show Steps p.tables e below (T1.setTop (mkF m 23 _ [(.ref b1)])) _
      refine XS.dup X1.here hx rfl (hb hby at_23) rfl rfl ?_
      show Steps p.tables e below (T1.setTop (mkF m 24 _ [(.ref b1), (.ref b1)])) _
      refine XS.iconst X1.here hx rfl (hb hby at_24) ?_
      exact kt
    obtain ⟨_, _, ⟨T2, L2, k2, n2⟩, -, X2, ⟨Lc2, hQ2, l2, y2, z2⟩, st2⟩ := X1.specialBack hx (y := (⟨"com/example/faregraph/faregraph/search/Members", "<init>", "(I)V"⟩ : MethodName)) rfl hown (mvT hZ (hw _ (List.mem_of_getElem? (i := 3) rfl))) (mvT hZ (hw _ (List.mem_of_getElem? (i := 4) rfl))) (mvT hZ (hw _ (List.mem_of_getElem? (i := 5) rfl))) (by decide) (backOf (W := 1) (rm1 l Z a0 hw [] b1 (4 : Int32) h1 n0 (Nat.le_trans Z0 E1.1) E_b1 F_member_b1 F_members_b1 F_count_b1 g_b1 (by decide) (by decide)) hZ (hw _ (List.mem_of_getElem? (i := 5) rfl)) (hw _ (List.mem_of_getElem? (i := 2) rfl)) (by decide) (by decide)) (g := (mkF m 25 #[.val (.int p1), .val (.int p2), .val (.int p3), .val (.int p4), .val (.int aa), .val (.int bb), .val (.int cc), .val (.int kn), .unset, .unset, .unset, .unset, .unset, .unset, .unset, .unset] [(.int (4 : Int32)), (.ref b1), (.ref b1)])) rfl (by rw [hml]; rfl) (Steps.refl _) (a := b1) (argsL := [(.int (4 : Int32))]) (rest := [(.ref b1)]) (lenOf pd_0 rfl) rfl (by show 2 * 0 + _ ≤ _; exact Nat.le_of_eq rfl) (hb hby at_25) (fun _ _ => ⟨rfl, e1, (by decide : 1 + 2 ≤ _), (by decide : 3 + 8 ≤ _)⟩)
    dsimp only [Pt.U, Pt.locs, Pt.cells, Pt.slots] at X2 l2 y2 z2 st2 hQ2
    subst l2 y2 z2
    obtain ⟨rfl, N2q, KK2, mb, mc, szb, szc, M2⟩ := hQ2
    have N2 := Fr.app N0 N2q
    have g_mb : n0 ≤ mb := Nat.le_trans (Nat.le_trans Z0 E1.1) szb
    have g_mc : n0 ≤ mc := Nat.le_trans (Nat.le_trans Z0 E1.1) szc
    have sz_mb : h0.size ≤ mb := Nat.le_trans K1.1 szb
    have sz_mc : h0.size ≤ mc := Nat.le_trans K1.1 szc
    have E_b1_2 := E_b1.keep KK2
    have KC2 := Keep.trans K1 KK2 (allS (P := fun x => x ∈ [] ∨ h0.size ≤ x) (Or.inr sz_b1) all0)
    refine own_pre (B := (T2.setTop (mkF m 30 #[.val (.int p1), .val (.int p2), .val (.int p3), .val (.int p4), .val (.int aa), .val (.int bb), .val (.int cc), .val (.int kn), .val (.ref b1), .unset, .unset, .unset, .unset, .unset, .unset, .unset] []))) (fun t kt => ?_) ?_
    · refine st2.trans ?_
      show Steps p.tables e below (T2.setTop (mkF m 28 _ [(.ref b1)])) _
      refine XS.astore X2.here hx rfl (hb hby at_28) rfl rfl (l' := #[.val (.int p1), .val (.int p2), .val (.int p3), .val (.int p4), .val (.int aa), .val (.int bb), .val (.int cc), .val (.int kn), .val (.ref b1), .unset, .unset, .unset, .unset, .unset, .unset, .unset]) rfl ?_
      exact kt
    have S71 : ∀ (T : State) (h : Heap) (locs : List Loc) (f g : Nat → Int32) (k : Int32), Stand p l e room_1 s m #[(.int p1), (.int p2), (.int p3), (.int p4)] below meth c T locs 3 11 → T.heap = h → Fr n0 locs → n0 ≤ h.size → own_Mem Z h n0 b1 mb mc (4 : Int32) f g k → own_Inv f g k 3 → own_Ends p e below s room_1.cells room_1.slots (Q0 Z p1 p2 p3 p4 h0 n0) (T.setTop (mkF m 71 #[.val (.int p1), .val (.int p2), .val (.int p3), .val (.int p4), .val (.int aa), .val (.int bb), .val (.int cc), .val (.int kn), .val (.ref b1), .unset, .unset, .unset, .unset, .unset, .unset, .unset] [])) := by
      intro T h locs f g k X eT N Zh M inv
      by_cases hba : bb.toInt = aa.toInt
      · by_cases hca : cc.toInt = aa.toInt
        · refine own_pre (B := (T.setTop (mkF m 73 #[.val (.int p1), .val (.int p2), .val (.int p3), .val (.int p4), .val (.int aa), .val (.int bb), .val (.int cc), .val (.int kn), .val (.ref b1), .unset, .unset, .unset, .unset, .unset, .unset, .unset] [(.ref b1)]))) (fun t kt => ?_) ?_
          · show Steps p.tables e below (T.setTop (mkF m 71 _ [])) _
            refine XS.aload X.here hx rfl (hb hby at_71) rfl rfl ?_
            exact kt
          obtain ⟨cq3, kq3, q3a, q3b, q3c⟩ := isOf hZ eT M.1
          obtain ⟨_, _, ⟨T3, L3, k3, n3⟩, -, X3, ⟨Lc3, hQ3, l3, y3, z3⟩, st3⟩ := X.virtualBack hx (y := (⟨"com/example/faregraph/faregraph/search/Members", "clear", "()V"⟩ : MethodName)) (z := (⟨"com/example/faregraph/faregraph/search/Members", "clear", "()V"⟩ : MethodName)) hown (mvT hZ (hw _ (List.mem_of_getElem? (i := 22) rfl))) (mvT hZ (hw _ (List.mem_of_getElem? (i := 23) rfl))) (notFace_of_selects (args := #[]) (mvT hZ (hw _ (List.mem_of_getElem? (i := 25) rfl)))) (mvT hZ (hw _ (List.mem_of_getElem? (i := 25) rfl))) (mvT hZ (hw _ (List.mem_of_getElem? (i := 24) rfl))) (by decide) (backOf (W := 0) (rm4 l Z a0 hw [] b1 mb mc (4 : Int32) k f g h n0 Zh M (own_Inv_k inv) inv.2.2.2.1 inv.2.2.2.2) hZ (hw _ (List.mem_of_getElem? (i := 26) rfl)) (hw _ (List.mem_of_getElem? (i := 2) rfl)) (by decide) (by decide)) q3a q3c (g := (mkF m 73 #[.val (.int p1), .val (.int p2), .val (.int p3), .val (.int p4), .val (.int aa), .val (.int bb), .val (.int cc), .val (.int kn), .val (.ref b1), .unset, .unset, .unset, .unset, .unset, .unset, .unset] [(.ref b1)])) rfl (by rw [hml]; rfl) (Steps.refl _) (argsL := []) (rest := []) (lenOf pd_1 rfl) rfl (by show 2 * 0 + _ ≤ _; exact Nat.le_of_eq rfl) (hb hby at_73) (fun _ _ => ⟨rfl, eT, (by decide : 3 + 0 ≤ _), (by decide : 11 + 0 ≤ _)⟩)
          dsimp only [Pt.U, Pt.locs, Pt.cells, Pt.slots] at X3 l3 y3 z3 st3 hQ3
          subst l3 y3 z3
          obtain ⟨rfl, N3q, KK3, M3⟩ := hQ3
          have N3 := Fr.app N N3q
          refine own_pre (B := (T3.setTop (mkF m 78 #[.val (.int p1), .val (.int p2), .val (.int p3), .val (.int p4), .val (.int aa), .val (.int bb), .val (.int cc), .val (.int kn), .val (.ref b1), .unset, .unset, .unset, .unset, .unset, .unset, .unset] [(.ref b1)]))) (fun t kt => ?_) ?_
          · refine st3.trans ?_
            show Steps p.tables e below (T3.setTop (mkF m 76 _ [])) _
            refine XS.aload X3.here hx rfl (hb hby at_76) rfl rfl ?_
            exact kt
          obtain ⟨cq4, kq4, q4a, q4b, q4c⟩ := isOf hZ rfl M3.1
          obtain ⟨_, _, ⟨T4, L4, k4, n4⟩, -, X4, ⟨Lc4, hQ4, l4, y4, z4⟩, st4⟩ := X3.virtualBack hx (y := (⟨"com/example/faregraph/faregraph/search/Members", "count", "()I"⟩ : MethodName)) (z := (⟨"com/example/faregraph/faregraph/search/Members", "count", "()I"⟩ : MethodName)) hown (mvT hZ (hw _ (List.mem_of_getElem? (i := 27) rfl))) (mvT hZ (hw _ (List.mem_of_getElem? (i := 28) rfl))) (notFace_of_selects (args := #[]) (mvT hZ (hw _ (List.mem_of_getElem? (i := 30) rfl)))) (mvT hZ (hw _ (List.mem_of_getElem? (i := 30) rfl))) (mvT hZ (hw _ (List.mem_of_getElem? (i := 29) rfl))) (by decide) (backOf (W := 0) (rm5 l Z a0 hw [] b1 mb mc (4 : Int32) (0 : Int32) (fun _ => (0 : Int32)) g T3.heap n0 (Nat.le_trans Zh KK3.1) M3) hZ (hw _ (List.mem_of_getElem? (i := 31) rfl)) (hw _ (List.mem_of_getElem? (i := 2) rfl)) (by decide) (by decide)) q4a q4c (g := (mkF m 78 #[.val (.int p1), .val (.int p2), .val (.int p3), .val (.int p4), .val (.int aa), .val (.int bb), .val (.int cc), .val (.int kn), .val (.ref b1), .unset, .unset, .unset, .unset, .unset, .unset, .unset] [(.ref b1)])) rfl (by rw [hml]; rfl) (Steps.refl _) (argsL := []) (rest := []) (lenOf pd_3 rfl) rfl (by show 2 * 0 + _ ≤ _; exact Nat.le_of_eq rfl) (hb hby at_78) (fun _ _ => ⟨rfl, rfl, (by decide : 3 + 0 ≤ _), (by decide : 11 + 0 ≤ _)⟩)
          dsimp only [Pt.U, Pt.locs, Pt.cells, Pt.slots] at X4 l4 y4 z4 st4 hQ4
          subst l4 y4 z4
          obtain ⟨rfl, N4q, e4⟩ := hQ4
          have N4 := Fr.app N3 N4q
          refine own_pre (B := (T4.setTop (mkF m 95 #[.val (.int p1), .val (.int p2), .val (.int p3), .val (.int p4), .val (.int aa), .val (.int bb), .val (.int cc), .val (.int kn), .val (.ref b1), .val (.int (1 : Int32)), .unset, .unset, .unset, .unset, .unset, .unset] [(.int aa), (.ref b1)]))) (fun t kt => ?_) ?_
          · refine st4.trans ?_
            show Steps p.tables e below (T4.setTop (mkF m 81 _ [(.int (0 : Int32))])) _
            refine XS.ifNo X4.here hx rfl (hb hby at_81) rfl ((if0 _ _).trans (teq (rfl : (0 : Int32) = (0 : Int32))).2) ?_
            show Steps p.tables e below (T4.setTop (mkF m 84 _ [])) _
            refine XS.iconst X4.here hx rfl (hb hby at_84) ?_
            show Steps p.tables e below (T4.setTop (mkF m 85 _ [(.int (1 : Int32))])) _
            refine XS.goto X4.here hx rfl (pc0 := 85) (pc' := 89) rfl (hb hby at_85) (by decide) (by decide) ?_
            show Steps p.tables e below (T4.setTop (mkF m 89 _ [(.int (1 : Int32))])) _
            refine XS.istore X4.here hx rfl (hb hby at_89) rfl (l' := #[.val (.int p1), .val (.int p2), .val (.int p3), .val (.int p4), .val (.int aa), .val (.int bb), .val (.int cc), .val (.int kn), .val (.ref b1), .val (.int (1 : Int32)), .unset, .unset, .unset, .unset, .unset, .unset]) rfl ?_
            show Steps p.tables e below (T4.setTop (mkF m 91 _ [])) _
            refine XS.aload X4.here hx rfl (hb hby at_91) rfl rfl ?_
            show Steps p.tables e below (T4.setTop (mkF m 93 _ [(.ref b1)])) _
            refine XS.iload X4.here hx rfl (hb hby at_93) rfl ?_
            exact kt
          have hf_aa : (fun _ => (0 : Int32)) (aa).toNatClampNeg = 0 := by
            simp only [own_upd, own_tn]
          obtain ⟨cq5, kq5, q5a, q5b, q5c⟩ := isOf hZ e4 M3.1
          obtain ⟨_, _, ⟨T5, L5, k5, n5⟩, -, X5, ⟨Lc5, hQ5, l5, y5, z5⟩, st5⟩ := X4.virtualBack hx (y := (⟨"com/example/faregraph/faregraph/search/Members", "add", "(I)Z"⟩ : MethodName)) (z := (⟨"com/example/faregraph/faregraph/search/Members", "add", "(I)Z"⟩ : MethodName)) hown (mvT hZ (hw _ (List.mem_of_getElem? (i := 15) rfl))) (mvT hZ (hw _ (List.mem_of_getElem? (i := 16) rfl))) (notFace_of_selects (args := #[]) (mvT hZ (hw _ (List.mem_of_getElem? (i := 18) rfl)))) (mvT hZ (hw _ (List.mem_of_getElem? (i := 18) rfl))) (mvT hZ (hw _ (List.mem_of_getElem? (i := 17) rfl))) (by decide) (backOf (W := 0) (rm3n l Z a0 hw [] b1 mb mc (4 : Int32) (0 : Int32) (fun _ => (0 : Int32)) g aa T3.heap n0 (Nat.le_trans Zh KK3.1) M3 ra ⟨by decide, by decide⟩ hf_aa) hZ (hw _ (List.mem_of_getElem? (i := 19) rfl)) (hw _ (List.mem_of_getElem? (i := 2) rfl)) (by decide) (by decide)) q5a q5c (g := (mkF m 95 #[.val (.int p1), .val (.int p2), .val (.int p3), .val (.int p4), .val (.int aa), .val (.int bb), .val (.int cc), .val (.int kn), .val (.ref b1), .val (.int (1 : Int32)), .unset, .unset, .unset, .unset, .unset, .unset] [(.int aa), (.ref b1)])) rfl (by rw [hml]; rfl) (Steps.refl _) (argsL := [(.int aa)]) (rest := []) (lenOf pd_2 rfl) rfl (by show 2 * 0 + _ ≤ _; exact Nat.le_of_eq rfl) (hb hby at_95) (fun _ _ => ⟨rfl, e4, (by decide : 3 + 0 ≤ _), (by decide : 11 + 0 ≤ _)⟩)
          dsimp only [Pt.U, Pt.locs, Pt.cells, Pt.slots] at X5 l5 y5 z5 st5 hQ5
          subst l5 y5 z5
          obtain ⟨rfl, N5q, KK5, M5⟩ := hQ5
          have N5 := Fr.app N4 N5q
          refine own_pre (B := (T5.setTop (mkF m 104 #[.val (.int p1), .val (.int p2), .val (.int p3), .val (.int p4), .val (.int aa), .val (.int bb), .val (.int cc), .val (.int kn), .val (.ref b1), .val (.int (1 : Int32)), .val (.int (1 : Int32)), .unset, .unset, .unset, .unset, .unset] [(.int bb), (.ref b1)]))) (fun t kt => ?_) ?_
          · refine st5.trans ?_
            show Steps p.tables e below (T5.setTop (mkF m 98 _ [(.int (1 : Int32))])) _
            refine XS.istore X5.here hx rfl (hb hby at_98) rfl (l' := #[.val (.int p1), .val (.int p2), .val (.int p3), .val (.int p4), .val (.int aa), .val (.int bb), .val (.int cc), .val (.int kn), .val (.ref b1), .val (.int (1 : Int32)), .val (.int (1 : Int32)), .unset, .unset, .unset, .unset, .unset]) rfl ?_
            show Steps p.tables e below (T5.setTop (mkF m 100 _ [])) _
            refine XS.aload X5.here hx rfl (hb hby at_100) rfl rfl ?_
            show Steps p.tables e below (T5.setTop (mkF m 102 _ [(.ref b1)])) _
            refine XS.iload X5.here hx rfl (hb hby at_102) rfl ?_
            exact kt
          have hf_bb : (own_upd (fun _ => (0 : Int32)) (aa).toNatClampNeg 1) (bb).toNatClampNeg = 1 := by
            simp only [own_upd, own_tn]
            repeat' split
            all_goals first | rfl | (exfalso; omega)
          obtain ⟨cq6, kq6, q6a, q6b, q6c⟩ := isOf hZ rfl M5.1
          obtain ⟨_, _, ⟨T6, L6, k6, n6⟩, -, X6, ⟨Lc6, hQ6, l6, y6, z6⟩, st6⟩ := X5.virtualBack hx (y := (⟨"com/example/faregraph/faregraph/search/Members", "add", "(I)Z"⟩ : MethodName)) (z := (⟨"com/example/faregraph/faregraph/search/Members", "add", "(I)Z"⟩ : MethodName)) hown (mvT hZ (hw _ (List.mem_of_getElem? (i := 15) rfl))) (mvT hZ (hw _ (List.mem_of_getElem? (i := 16) rfl))) (notFace_of_selects (args := #[]) (mvT hZ (hw _ (List.mem_of_getElem? (i := 18) rfl)))) (mvT hZ (hw _ (List.mem_of_getElem? (i := 18) rfl))) (mvT hZ (hw _ (List.mem_of_getElem? (i := 17) rfl))) (by decide) (backOf (W := 0) (rm3y l Z a0 hw [] b1 mb mc (4 : Int32) ((0 : Int32) + (1 : Int32)) (own_upd (fun _ => (0 : Int32)) (aa).toNatClampNeg 1) (own_upd g ((0 : Int32)).toNatClampNeg aa) bb T5.heap n0 (Nat.le_trans (Nat.le_trans Zh KK3.1) KK5.1) M5 rb hf_bb) hZ (hw _ (List.mem_of_getElem? (i := 19) rfl)) (hw _ (List.mem_of_getElem? (i := 2) rfl)) (by decide) (by decide)) q6a q6c (g := (mkF m 104 #[.val (.int p1), .val (.int p2), .val (.int p3), .val (.int p4), .val (.int aa), .val (.int bb), .val (.int cc), .val (.int kn), .val (.ref b1), .val (.int (1 : Int32)), .val (.int (1 : Int32)), .unset, .unset, .unset, .unset, .unset] [(.int bb), (.ref b1)])) rfl (by rw [hml]; rfl) (Steps.refl _) (argsL := [(.int bb)]) (rest := []) (lenOf pd_2 rfl) rfl (by show 2 * 0 + _ ≤ _; exact Nat.le_of_eq rfl) (hb hby at_104) (fun _ _ => ⟨rfl, rfl, (by decide : 3 + 0 ≤ _), (by decide : 11 + 0 ≤ _)⟩)
          dsimp only [Pt.U, Pt.locs, Pt.cells, Pt.slots] at X6 l6 y6 z6 st6 hQ6
          subst l6 y6 z6
          obtain ⟨rfl, N6q, e6⟩ := hQ6
          have N6 := Fr.app N5 N6q
          refine own_pre (B := (T6.setTop (mkF m 113 #[.val (.int p1), .val (.int p2), .val (.int p3), .val (.int p4), .val (.int aa), .val (.int bb), .val (.int cc), .val (.int kn), .val (.ref b1), .val (.int (1 : Int32)), .val (.int (1 : Int32)), .val (.int (0 : Int32)), .unset, .unset, .unset, .unset] [(.int cc), (.ref b1)]))) (fun t kt => ?_) ?_
          · refine st6.trans ?_
            show Steps p.tables e below (T6.setTop (mkF m 107 _ [(.int (0 : Int32))])) _
            refine XS.istore X6.here hx rfl (hb hby at_107) rfl (l' := #[.val (.int p1), .val (.int p2), .val (.int p3), .val (.int p4), .val (.int aa), .val (.int bb), .val (.int cc), .val (.int kn), .val (.ref b1), .val (.int (1 : Int32)), .val (.int (1 : Int32)), .val (.int (0 : Int32)), .unset, .unset, .unset, .unset]) rfl ?_
            show Steps p.tables e below (T6.setTop (mkF m 109 _ [])) _
            refine XS.aload X6.here hx rfl (hb hby at_109) rfl rfl ?_
            show Steps p.tables e below (T6.setTop (mkF m 111 _ [(.ref b1)])) _
            refine XS.iload X6.here hx rfl (hb hby at_111) rfl ?_
            exact kt
          have hf_cc : (own_upd (fun _ => (0 : Int32)) (aa).toNatClampNeg 1) (cc).toNatClampNeg = 1 := by
            simp only [own_upd, own_tn]
            repeat' split
            all_goals first | rfl | (exfalso; omega)
          obtain ⟨cq7, kq7, q7a, q7b, q7c⟩ := isOf hZ e6 M5.1
          obtain ⟨_, _, ⟨T7, L7, k7, n7⟩, -, X7, ⟨Lc7, hQ7, l7, y7, z7⟩, st7⟩ := X6.virtualBack hx (y := (⟨"com/example/faregraph/faregraph/search/Members", "add", "(I)Z"⟩ : MethodName)) (z := (⟨"com/example/faregraph/faregraph/search/Members", "add", "(I)Z"⟩ : MethodName)) hown (mvT hZ (hw _ (List.mem_of_getElem? (i := 15) rfl))) (mvT hZ (hw _ (List.mem_of_getElem? (i := 16) rfl))) (notFace_of_selects (args := #[]) (mvT hZ (hw _ (List.mem_of_getElem? (i := 18) rfl)))) (mvT hZ (hw _ (List.mem_of_getElem? (i := 18) rfl))) (mvT hZ (hw _ (List.mem_of_getElem? (i := 17) rfl))) (by decide) (backOf (W := 0) (rm3y l Z a0 hw [] b1 mb mc (4 : Int32) ((0 : Int32) + (1 : Int32)) (own_upd (fun _ => (0 : Int32)) (aa).toNatClampNeg 1) (own_upd g ((0 : Int32)).toNatClampNeg aa) cc T5.heap n0 (Nat.le_trans (Nat.le_trans Zh KK3.1) KK5.1) M5 rc hf_cc) hZ (hw _ (List.mem_of_getElem? (i := 19) rfl)) (hw _ (List.mem_of_getElem? (i := 2) rfl)) (by decide) (by decide)) q7a q7c (g := (mkF m 113 #[.val (.int p1), .val (.int p2), .val (.int p3), .val (.int p4), .val (.int aa), .val (.int bb), .val (.int cc), .val (.int kn), .val (.ref b1), .val (.int (1 : Int32)), .val (.int (1 : Int32)), .val (.int (0 : Int32)), .unset, .unset, .unset, .unset] [(.int cc), (.ref b1)])) rfl (by rw [hml]; rfl) (Steps.refl _) (argsL := [(.int cc)]) (rest := []) (lenOf pd_2 rfl) rfl (by show 2 * 0 + _ ≤ _; exact Nat.le_of_eq rfl) (hb hby at_113) (fun _ _ => ⟨rfl, e6, (by decide : 3 + 0 ≤ _), (by decide : 11 + 0 ≤ _)⟩)
          dsimp only [Pt.U, Pt.locs, Pt.cells, Pt.slots] at X7 l7 y7 z7 st7 hQ7
          subst l7 y7 z7
          obtain ⟨rfl, N7q, e7⟩ := hQ7
          have N7 := Fr.app N6 N7q
          refine own_pre (B := (T7.setTop (mkF m 204 #[.val (.int p1), .val (.int p2), .val (.int p3), .val (.int p4), .val (.int aa), .val (.int bb), .val (.int cc), .val (.int kn), .val (.ref b1), .val (.int (1 : Int32)), .val (.int (1 : Int32)), .val (.int (0 : Int32)), .val (.int (0 : Int32)), .val (.int (0 : Int32)), .val (.int (0 : Int32)), .val (.int (((1 : Int32) + (0 : Int32)) + (0 : Int32)))] [(.ref b1)]))) (fun t kt => ?_) ?_
          · refine st7.trans ?_
            show Steps p.tables e below (T7.setTop (mkF m 116 _ [(.int (0 : Int32))])) _
            refine XS.istore X7.here hx rfl (hb hby at_116) rfl (l' := #[.val (.int p1), .val (.int p2), .val (.int p3), .val (.int p4), .val (.int aa), .val (.int bb), .val (.int cc), .val (.int kn), .val (.ref b1), .val (.int (1 : Int32)), .val (.int (1 : Int32)), .val (.int (0 : Int32)), .val (.int (0 : Int32)), .unset, .unset, .unset]) rfl ?_
            show Steps p.tables e below (T7.setTop (mkF m 118 _ [])) _
            refine XS.iload X7.here hx rfl (hb hby at_118) rfl ?_
            show Steps p.tables e below (T7.setTop (mkF m 120 _ [(.int bb)])) _
            refine XS.iload X7.here hx rfl (hb hby at_120) rfl ?_
            show Steps p.tables e below (T7.setTop (mkF m 122 _ [(.int aa), (.int bb)])) _
            refine XS.icmpYes X7.here hx rfl (pc0 := 122) (pc' := 129) rfl (hb hby at_122) rfl (teq ((Int32.toInt_inj.mp hba) : bb = aa)).1 (by decide) (by decide) ?_
            show Steps p.tables e below (T7.setTop (mkF m 129 _ [])) _
            refine XS.iconst X7.here hx rfl (hb hby at_129) ?_
            show Steps p.tables e below (T7.setTop (mkF m 130 _ [(.int (0 : Int32))])) _
            refine XS.istore X7.here hx rfl (hb hby at_130) rfl (l' := #[.val (.int p1), .val (.int p2), .val (.int p3), .val (.int p4), .val (.int aa), .val (.int bb), .val (.int cc), .val (.int kn), .val (.ref b1), .val (.int (1 : Int32)), .val (.int (1 : Int32)), .val (.int (0 : Int32)), .val (.int (0 : Int32)), .val (.int (0 : Int32)), .unset, .unset]) rfl ?_
            show Steps p.tables e below (T7.setTop (mkF m 132 _ [])) _
            refine XS.iload X7.here hx rfl (hb hby at_132) rfl ?_
            show Steps p.tables e below (T7.setTop (mkF m 134 _ [(.int cc)])) _
            refine XS.iload X7.here hx rfl (hb hby at_134) rfl ?_
            show Steps p.tables e below (T7.setTop (mkF m 136 _ [(.int aa), (.int cc)])) _
            refine XS.icmpYes X7.here hx rfl (pc0 := 136) (pc' := 150) rfl (hb hby at_136) rfl (teq ((Int32.toInt_inj.mp hca) : cc = aa)).1 (by decide) (by decide) ?_
            show Steps p.tables e below (T7.setTop (mkF m 150 _ [])) _
            refine XS.iconst X7.here hx rfl (hb hby at_150) ?_
            show Steps p.tables e below (T7.setTop (mkF m 151 _ [(.int (0 : Int32))])) _
            refine XS.istore X7.here hx rfl (hb hby at_151) rfl (l' := #[.val (.int p1), .val (.int p2), .val (.int p3), .val (.int p4), .val (.int aa), .val (.int bb), .val (.int cc), .val (.int kn), .val (.ref b1), .val (.int (1 : Int32)), .val (.int (1 : Int32)), .val (.int (0 : Int32)), .val (.int (0 : Int32)), .val (.int (0 : Int32)), .val (.int (0 : Int32)), .unset]) rfl ?_
            show Steps p.tables e below (T7.setTop (mkF m 153 _ [])) _
            refine XS.iconst X7.here hx rfl (hb hby at_153) ?_
            show Steps p.tables e below (T7.setTop (mkF m 154 _ [(.int (1 : Int32))])) _
            refine XS.iload X7.here hx rfl (hb hby at_154) rfl ?_
            show Steps p.tables e below (T7.setTop (mkF m 156 _ [(.int (0 : Int32)), (.int (1 : Int32))])) _
            refine XS.ifYes X7.here hx rfl (pc0 := 156) (pc' := 163) rfl (hb hby at_156) rfl ((if0 _ _).trans (teq (rfl : (0 : Int32) = (0 : Int32))).1) (by decide) (by decide) ?_
            show Steps p.tables e below (T7.setTop (mkF m 163 _ [(.int (1 : Int32))])) _
            refine XS.iconst X7.here hx rfl (hb hby at_163) ?_
            show Steps p.tables e below (T7.setTop (mkF m 164 _ [(.int (0 : Int32)), (.int (1 : Int32))])) _
            refine XS.iadd X7.here hx rfl (hb hby at_164) rfl ?_
            show Steps p.tables e below (T7.setTop (mkF m 165 _ [(.int ((1 : Int32) + (0 : Int32)))])) _
            refine XS.iload X7.here hx rfl (hb hby at_165) rfl ?_
            show Steps p.tables e below (T7.setTop (mkF m 167 _ [(.int (0 : Int32)), (.int ((1 : Int32) + (0 : Int32)))])) _
            refine XS.ifYes X7.here hx rfl (pc0 := 167) (pc' := 174) rfl (hb hby at_167) rfl ((if0 _ _).trans (teq (rfl : (0 : Int32) = (0 : Int32))).1) (by decide) (by decide) ?_
            show Steps p.tables e below (T7.setTop (mkF m 174 _ [(.int ((1 : Int32) + (0 : Int32)))])) _
            refine XS.iconst X7.here hx rfl (hb hby at_174) ?_
            show Steps p.tables e below (T7.setTop (mkF m 175 _ [(.int (0 : Int32)), (.int ((1 : Int32) + (0 : Int32)))])) _
            refine XS.iadd X7.here hx rfl (hb hby at_175) rfl ?_
            show Steps p.tables e below (T7.setTop (mkF m 176 _ [(.int (((1 : Int32) + (0 : Int32)) + (0 : Int32)))])) _
            refine XS.istore X7.here hx rfl (hb hby at_176) rfl (l' := #[.val (.int p1), .val (.int p2), .val (.int p3), .val (.int p4), .val (.int aa), .val (.int bb), .val (.int cc), .val (.int kn), .val (.ref b1), .val (.int (1 : Int32)), .val (.int (1 : Int32)), .val (.int (0 : Int32)), .val (.int (0 : Int32)), .val (.int (0 : Int32)), .val (.int (0 : Int32)), .val (.int (((1 : Int32) + (0 : Int32)) + (0 : Int32)))]) rfl ?_
            show Steps p.tables e below (T7.setTop (mkF m 178 _ [])) _
            refine XS.iload X7.here hx rfl (hb hby at_178) rfl ?_
            show Steps p.tables e below (T7.setTop (mkF m 180 _ [(.int (1 : Int32))])) _
            refine XS.ifNo X7.here hx rfl (hb hby at_180) rfl ((if0 _ _).trans (feq ((by decide) : ¬ ((1 : Int32) = (0 : Int32)))).1) ?_
            show Steps p.tables e below (T7.setTop (mkF m 183 _ [])) _
            refine XS.iload X7.here hx rfl (hb hby at_183) rfl ?_
            show Steps p.tables e below (T7.setTop (mkF m 185 _ [(.int (1 : Int32))])) _
            refine XS.ifNo X7.here hx rfl (hb hby at_185) rfl ((if0 _ _).trans (feq ((by decide) : ¬ ((1 : Int32) = (0 : Int32)))).1) ?_
            show Steps p.tables e below (T7.setTop (mkF m 188 _ [])) _
            refine XS.iload X7.here hx rfl (hb hby at_188) rfl ?_
            show Steps p.tables e below (T7.setTop (mkF m 190 _ [(.int (0 : Int32))])) _
            refine XS.iload X7.here hx rfl (hb hby at_190) rfl ?_
            show Steps p.tables e below (T7.setTop (mkF m 192 _ [(.int (0 : Int32)), (.int (0 : Int32))])) _
            refine XS.icmpNo X7.here hx rfl (hb hby at_192) rfl (teq (rfl : (0 : Int32) = (0 : Int32))).2 ?_
            show Steps p.tables e below (T7.setTop (mkF m 195 _ [])) _
            refine XS.iload X7.here hx rfl (hb hby at_195) rfl ?_
            show Steps p.tables e below (T7.setTop (mkF m 197 _ [(.int (0 : Int32))])) _
            refine XS.iload X7.here hx rfl (hb hby at_197) rfl ?_
            show Steps p.tables e below (T7.setTop (mkF m 199 _ [(.int (0 : Int32)), (.int (0 : Int32))])) _
            refine XS.icmpNo X7.here hx rfl (hb hby at_199) rfl (teq (rfl : (0 : Int32) = (0 : Int32))).2 ?_
            show Steps p.tables e below (T7.setTop (mkF m 202 _ [])) _
            refine XS.aload X7.here hx rfl (hb hby at_202) rfl rfl ?_
            exact kt
          obtain ⟨cq8, kq8, q8a, q8b, q8c⟩ := isOf hZ e7 M5.1
          obtain ⟨_, _, ⟨T8, L8, k8, n8⟩, -, X8, ⟨Lc8, hQ8, l8, y8, z8⟩, st8⟩ := X7.virtualBack hx (y := (⟨"com/example/faregraph/faregraph/search/Members", "count", "()I"⟩ : MethodName)) (z := (⟨"com/example/faregraph/faregraph/search/Members", "count", "()I"⟩ : MethodName)) hown (mvT hZ (hw _ (List.mem_of_getElem? (i := 27) rfl))) (mvT hZ (hw _ (List.mem_of_getElem? (i := 28) rfl))) (notFace_of_selects (args := #[]) (mvT hZ (hw _ (List.mem_of_getElem? (i := 30) rfl)))) (mvT hZ (hw _ (List.mem_of_getElem? (i := 30) rfl))) (mvT hZ (hw _ (List.mem_of_getElem? (i := 29) rfl))) (by decide) (backOf (W := 0) (rm5 l Z a0 hw [] b1 mb mc (4 : Int32) ((0 : Int32) + (1 : Int32)) (own_upd (fun _ => (0 : Int32)) (aa).toNatClampNeg 1) (own_upd g ((0 : Int32)).toNatClampNeg aa) T5.heap n0 (Nat.le_trans (Nat.le_trans Zh KK3.1) KK5.1) M5) hZ (hw _ (List.mem_of_getElem? (i := 31) rfl)) (hw _ (List.mem_of_getElem? (i := 2) rfl)) (by decide) (by decide)) q8a q8c (g := (mkF m 204 #[.val (.int p1), .val (.int p2), .val (.int p3), .val (.int p4), .val (.int aa), .val (.int bb), .val (.int cc), .val (.int kn), .val (.ref b1), .val (.int (1 : Int32)), .val (.int (1 : Int32)), .val (.int (0 : Int32)), .val (.int (0 : Int32)), .val (.int (0 : Int32)), .val (.int (0 : Int32)), .val (.int (((1 : Int32) + (0 : Int32)) + (0 : Int32)))] [(.ref b1)])) rfl (by rw [hml]; rfl) (Steps.refl _) (argsL := []) (rest := []) (lenOf pd_3 rfl) rfl (by show 2 * 0 + _ ≤ _; exact Nat.le_of_eq rfl) (hb hby at_204) (fun _ _ => ⟨rfl, e7, (by decide : 3 + 0 ≤ _), (by decide : 11 + 0 ≤ _)⟩)
          dsimp only [Pt.U, Pt.locs, Pt.cells, Pt.slots] at X8 l8 y8 z8 st8 hQ8
          subst l8 y8 z8
          obtain ⟨rfl, N8q, e8⟩ := hQ8
          have N8 := Fr.app N7 N8q
          refine own_pre (B := (T8.setTop (mkF m 215 #[.val (.int p1), .val (.int p2), .val (.int p3), .val (.int p4), .val (.int aa), .val (.int bb), .val (.int cc), .val (.int kn), .val (.ref b1), .val (.int (1 : Int32)), .val (.int (1 : Int32)), .val (.int (0 : Int32)), .val (.int (0 : Int32)), .val (.int (0 : Int32)), .val (.int (0 : Int32)), .val (.int (((1 : Int32) + (0 : Int32)) + (0 : Int32)))] [(.int (0 : Int32)), (.ref b1)]))) (fun t kt => ?_) ?_
          · refine st8.trans ?_
            show Steps p.tables e below (T8.setTop (mkF m 207 _ [(.int ((0 : Int32) + (1 : Int32)))])) _
            refine XS.iload X8.here hx rfl (hb hby at_207) rfl ?_
            show Steps p.tables e below (T8.setTop (mkF m 209 _ [(.int (((1 : Int32) + (0 : Int32)) + (0 : Int32))), (.int ((0 : Int32) + (1 : Int32)))])) _
            refine XS.icmpNo X8.here hx rfl (hb hby at_209) rfl (teq ((by decide) : ((0 : Int32) + (1 : Int32)) = (((1 : Int32) + (0 : Int32)) + (0 : Int32)))).2 ?_
            show Steps p.tables e below (T8.setTop (mkF m 212 _ [])) _
            refine XS.aload X8.here hx rfl (hb hby at_212) rfl rfl ?_
            show Steps p.tables e below (T8.setTop (mkF m 214 _ [(.ref b1)])) _
            refine XS.iconst X8.here hx rfl (hb hby at_214) ?_
            exact kt
          have pg9 : (own_upd g ((0 : Int32)).toNatClampNeg aa) ((0 : Int32)).toNatClampNeg = aa := (own_upd_hit (by decide))
          obtain ⟨cq9, kq9, q9a, q9b, q9c⟩ := isOf hZ e8 M5.1
          obtain ⟨_, _, ⟨T9, L9, k9, n9⟩, -, X9, ⟨Lc9, hQ9, l9, y9, z9⟩, st9⟩ := X8.virtualBack hx (y := (⟨"com/example/faregraph/faregraph/search/Members", "get", "(I)I"⟩ : MethodName)) (z := (⟨"com/example/faregraph/faregraph/search/Members", "get", "(I)I"⟩ : MethodName)) hown (mvT hZ (hw _ (List.mem_of_getElem? (i := 32) rfl))) (mvT hZ (hw _ (List.mem_of_getElem? (i := 33) rfl))) (notFace_of_selects (args := #[]) (mvT hZ (hw _ (List.mem_of_getElem? (i := 35) rfl)))) (mvT hZ (hw _ (List.mem_of_getElem? (i := 35) rfl))) (mvT hZ (hw _ (List.mem_of_getElem? (i := 34) rfl))) (by decide) (backOf (W := 0) (rm6 l Z a0 hw [] b1 mb mc (4 : Int32) ((0 : Int32) + (1 : Int32)) (own_upd (fun _ => (0 : Int32)) (aa).toNatClampNeg 1) (own_upd g ((0 : Int32)).toNatClampNeg aa) (0 : Int32) aa T5.heap n0 (Nat.le_trans (Nat.le_trans Zh KK3.1) KK5.1) M5 ⟨by decide, by decide⟩ pg9) hZ (hw _ (List.mem_of_getElem? (i := 36) rfl)) (hw _ (List.mem_of_getElem? (i := 2) rfl)) (by decide) (by decide)) q9a q9c (g := (mkF m 215 #[.val (.int p1), .val (.int p2), .val (.int p3), .val (.int p4), .val (.int aa), .val (.int bb), .val (.int cc), .val (.int kn), .val (.ref b1), .val (.int (1 : Int32)), .val (.int (1 : Int32)), .val (.int (0 : Int32)), .val (.int (0 : Int32)), .val (.int (0 : Int32)), .val (.int (0 : Int32)), .val (.int (((1 : Int32) + (0 : Int32)) + (0 : Int32)))] [(.int (0 : Int32)), (.ref b1)])) rfl (by rw [hml]; rfl) (Steps.refl _) (argsL := [(.int (0 : Int32))]) (rest := []) (lenOf pd_4 rfl) rfl (by show 2 * 0 + _ ≤ _; exact Nat.le_of_eq rfl) (hb hby at_215) (fun _ _ => ⟨rfl, e8, (by decide : 3 + 0 ≤ _), (by decide : 11 + 0 ≤ _)⟩)
          dsimp only [Pt.U, Pt.locs, Pt.cells, Pt.slots] at X9 l9 y9 z9 st9 hQ9
          subst l9 y9 z9
          obtain ⟨rfl, N9q, e9⟩ := hQ9
          have N9 := Fr.app N8 N9q
          refine own_pre (B := (T9.setTop (mkF m 228 #[.val (.int p1), .val (.int p2), .val (.int p3), .val (.int p4), .val (.int aa), .val (.int bb), .val (.int cc), .val (.int kn), .val (.ref b1), .val (.int (1 : Int32)), .val (.int (1 : Int32)), .val (.int (0 : Int32)), .val (.int (0 : Int32)), .val (.int (0 : Int32)), .val (.int (0 : Int32)), .val (.int (((1 : Int32) + (0 : Int32)) + (0 : Int32)))] [(.int (1 : Int32))]))) (fun t kt => ?_) ?_
          · refine st9.trans ?_
            show Steps p.tables e below (T9.setTop (mkF m 218 _ [(.int aa)])) _
            refine XS.iload X9.here hx rfl (hb hby at_218) rfl ?_
            show Steps p.tables e below (T9.setTop (mkF m 220 _ [(.int aa), (.int aa)])) _
            refine XS.icmpNo X9.here hx rfl (hb hby at_220) rfl (teq (rfl : aa = aa)).2 ?_
            show Steps p.tables e below (T9.setTop (mkF m 223 _ [])) _
            refine XS.iconst X9.here hx rfl (hb hby at_223) ?_
            show Steps p.tables e below (T9.setTop (mkF m 224 _ [(.int (1 : Int32))])) _
            refine XS.goto X9.here hx rfl (pc0 := 224) (pc' := 228) rfl (hb hby at_224) (by decide) (by decide) ?_
            exact kt
          exact own_fin X9 (some (.int (1 : Int32))) (fun h => by rw [Bd.returns] at h; cases h) (BodyLoose.notSynchronized Bd) e9 (fun fs hr => retN X9 hx (t := .boolean) Bd.returns (by simp) (hb hby at_228) hr) ⟨rfl, N9⟩ (by decide) (by decide)
        · refine own_pre (B := (T.setTop (mkF m 73 #[.val (.int p1), .val (.int p2), .val (.int p3), .val (.int p4), .val (.int aa), .val (.int bb), .val (.int cc), .val (.int kn), .val (.ref b1), .unset, .unset, .unset, .unset, .unset, .unset, .unset] [(.ref b1)]))) (fun t kt => ?_) ?_
          · show Steps p.tables e below (T.setTop (mkF m 71 _ [])) _
            refine XS.aload X.here hx rfl (hb hby at_71) rfl rfl ?_
            exact kt
          obtain ⟨cq10, kq10, q10a, q10b, q10c⟩ := isOf hZ eT M.1
          obtain ⟨_, _, ⟨T10, L10, k10, n10⟩, -, X10, ⟨Lc10, hQ10, l10, y10, z10⟩, st10⟩ := X.virtualBack hx (y := (⟨"com/example/faregraph/faregraph/search/Members", "clear", "()V"⟩ : MethodName)) (z := (⟨"com/example/faregraph/faregraph/search/Members", "clear", "()V"⟩ : MethodName)) hown (mvT hZ (hw _ (List.mem_of_getElem? (i := 22) rfl))) (mvT hZ (hw _ (List.mem_of_getElem? (i := 23) rfl))) (notFace_of_selects (args := #[]) (mvT hZ (hw _ (List.mem_of_getElem? (i := 25) rfl)))) (mvT hZ (hw _ (List.mem_of_getElem? (i := 25) rfl))) (mvT hZ (hw _ (List.mem_of_getElem? (i := 24) rfl))) (by decide) (backOf (W := 0) (rm4 l Z a0 hw [] b1 mb mc (4 : Int32) k f g h n0 Zh M (own_Inv_k inv) inv.2.2.2.1 inv.2.2.2.2) hZ (hw _ (List.mem_of_getElem? (i := 26) rfl)) (hw _ (List.mem_of_getElem? (i := 2) rfl)) (by decide) (by decide)) q10a q10c (g := (mkF m 73 #[.val (.int p1), .val (.int p2), .val (.int p3), .val (.int p4), .val (.int aa), .val (.int bb), .val (.int cc), .val (.int kn), .val (.ref b1), .unset, .unset, .unset, .unset, .unset, .unset, .unset] [(.ref b1)])) rfl (by rw [hml]; rfl) (Steps.refl _) (argsL := []) (rest := []) (lenOf pd_1 rfl) rfl (by show 2 * 0 + _ ≤ _; exact Nat.le_of_eq rfl) (hb hby at_73) (fun _ _ => ⟨rfl, eT, (by decide : 3 + 0 ≤ _), (by decide : 11 + 0 ≤ _)⟩)
          dsimp only [Pt.U, Pt.locs, Pt.cells, Pt.slots] at X10 l10 y10 z10 st10 hQ10
          subst l10 y10 z10
          obtain ⟨rfl, N10q, KK10, M10⟩ := hQ10
          have N10 := Fr.app N N10q
          refine own_pre (B := (T10.setTop (mkF m 78 #[.val (.int p1), .val (.int p2), .val (.int p3), .val (.int p4), .val (.int aa), .val (.int bb), .val (.int cc), .val (.int kn), .val (.ref b1), .unset, .unset, .unset, .unset, .unset, .unset, .unset] [(.ref b1)]))) (fun t kt => ?_) ?_
          · refine st10.trans ?_
            show Steps p.tables e below (T10.setTop (mkF m 76 _ [])) _
            refine XS.aload X10.here hx rfl (hb hby at_76) rfl rfl ?_
            exact kt
          obtain ⟨cq11, kq11, q11a, q11b, q11c⟩ := isOf hZ rfl M10.1
          obtain ⟨_, _, ⟨T11, L11, k11, n11⟩, -, X11, ⟨Lc11, hQ11, l11, y11, z11⟩, st11⟩ := X10.virtualBack hx (y := (⟨"com/example/faregraph/faregraph/search/Members", "count", "()I"⟩ : MethodName)) (z := (⟨"com/example/faregraph/faregraph/search/Members", "count", "()I"⟩ : MethodName)) hown (mvT hZ (hw _ (List.mem_of_getElem? (i := 27) rfl))) (mvT hZ (hw _ (List.mem_of_getElem? (i := 28) rfl))) (notFace_of_selects (args := #[]) (mvT hZ (hw _ (List.mem_of_getElem? (i := 30) rfl)))) (mvT hZ (hw _ (List.mem_of_getElem? (i := 30) rfl))) (mvT hZ (hw _ (List.mem_of_getElem? (i := 29) rfl))) (by decide) (backOf (W := 0) (rm5 l Z a0 hw [] b1 mb mc (4 : Int32) (0 : Int32) (fun _ => (0 : Int32)) g T10.heap n0 (Nat.le_trans Zh KK10.1) M10) hZ (hw _ (List.mem_of_getElem? (i := 31) rfl)) (hw _ (List.mem_of_getElem? (i := 2) rfl)) (by decide) (by decide)) q11a q11c (g := (mkF m 78 #[.val (.int p1), .val (.int p2), .val (.int p3), .val (.int p4), .val (.int aa), .val (.int bb), .val (.int cc), .val (.int kn), .val (.ref b1), .unset, .unset, .unset, .unset, .unset, .unset, .unset] [(.ref b1)])) rfl (by rw [hml]; rfl) (Steps.refl _) (argsL := []) (rest := []) (lenOf pd_3 rfl) rfl (by show 2 * 0 + _ ≤ _; exact Nat.le_of_eq rfl) (hb hby at_78) (fun _ _ => ⟨rfl, rfl, (by decide : 3 + 0 ≤ _), (by decide : 11 + 0 ≤ _)⟩)
          dsimp only [Pt.U, Pt.locs, Pt.cells, Pt.slots] at X11 l11 y11 z11 st11 hQ11
          subst l11 y11 z11
          obtain ⟨rfl, N11q, e11⟩ := hQ11
          have N11 := Fr.app N10 N11q
          refine own_pre (B := (T11.setTop (mkF m 95 #[.val (.int p1), .val (.int p2), .val (.int p3), .val (.int p4), .val (.int aa), .val (.int bb), .val (.int cc), .val (.int kn), .val (.ref b1), .val (.int (1 : Int32)), .unset, .unset, .unset, .unset, .unset, .unset] [(.int aa), (.ref b1)]))) (fun t kt => ?_) ?_
          · refine st11.trans ?_
            show Steps p.tables e below (T11.setTop (mkF m 81 _ [(.int (0 : Int32))])) _
            refine XS.ifNo X11.here hx rfl (hb hby at_81) rfl ((if0 _ _).trans (teq (rfl : (0 : Int32) = (0 : Int32))).2) ?_
            show Steps p.tables e below (T11.setTop (mkF m 84 _ [])) _
            refine XS.iconst X11.here hx rfl (hb hby at_84) ?_
            show Steps p.tables e below (T11.setTop (mkF m 85 _ [(.int (1 : Int32))])) _
            refine XS.goto X11.here hx rfl (pc0 := 85) (pc' := 89) rfl (hb hby at_85) (by decide) (by decide) ?_
            show Steps p.tables e below (T11.setTop (mkF m 89 _ [(.int (1 : Int32))])) _
            refine XS.istore X11.here hx rfl (hb hby at_89) rfl (l' := #[.val (.int p1), .val (.int p2), .val (.int p3), .val (.int p4), .val (.int aa), .val (.int bb), .val (.int cc), .val (.int kn), .val (.ref b1), .val (.int (1 : Int32)), .unset, .unset, .unset, .unset, .unset, .unset]) rfl ?_
            show Steps p.tables e below (T11.setTop (mkF m 91 _ [])) _
            refine XS.aload X11.here hx rfl (hb hby at_91) rfl rfl ?_
            show Steps p.tables e below (T11.setTop (mkF m 93 _ [(.ref b1)])) _
            refine XS.iload X11.here hx rfl (hb hby at_93) rfl ?_
            exact kt
          have hf_aa : (fun _ => (0 : Int32)) (aa).toNatClampNeg = 0 := by
            simp only [own_upd, own_tn]
          obtain ⟨cq12, kq12, q12a, q12b, q12c⟩ := isOf hZ e11 M10.1
          obtain ⟨_, _, ⟨T12, L12, k12, n12⟩, -, X12, ⟨Lc12, hQ12, l12, y12, z12⟩, st12⟩ := X11.virtualBack hx (y := (⟨"com/example/faregraph/faregraph/search/Members", "add", "(I)Z"⟩ : MethodName)) (z := (⟨"com/example/faregraph/faregraph/search/Members", "add", "(I)Z"⟩ : MethodName)) hown (mvT hZ (hw _ (List.mem_of_getElem? (i := 15) rfl))) (mvT hZ (hw _ (List.mem_of_getElem? (i := 16) rfl))) (notFace_of_selects (args := #[]) (mvT hZ (hw _ (List.mem_of_getElem? (i := 18) rfl)))) (mvT hZ (hw _ (List.mem_of_getElem? (i := 18) rfl))) (mvT hZ (hw _ (List.mem_of_getElem? (i := 17) rfl))) (by decide) (backOf (W := 0) (rm3n l Z a0 hw [] b1 mb mc (4 : Int32) (0 : Int32) (fun _ => (0 : Int32)) g aa T10.heap n0 (Nat.le_trans Zh KK10.1) M10 ra ⟨by decide, by decide⟩ hf_aa) hZ (hw _ (List.mem_of_getElem? (i := 19) rfl)) (hw _ (List.mem_of_getElem? (i := 2) rfl)) (by decide) (by decide)) q12a q12c (g := (mkF m 95 #[.val (.int p1), .val (.int p2), .val (.int p3), .val (.int p4), .val (.int aa), .val (.int bb), .val (.int cc), .val (.int kn), .val (.ref b1), .val (.int (1 : Int32)), .unset, .unset, .unset, .unset, .unset, .unset] [(.int aa), (.ref b1)])) rfl (by rw [hml]; rfl) (Steps.refl _) (argsL := [(.int aa)]) (rest := []) (lenOf pd_2 rfl) rfl (by show 2 * 0 + _ ≤ _; exact Nat.le_of_eq rfl) (hb hby at_95) (fun _ _ => ⟨rfl, e11, (by decide : 3 + 0 ≤ _), (by decide : 11 + 0 ≤ _)⟩)
          dsimp only [Pt.U, Pt.locs, Pt.cells, Pt.slots] at X12 l12 y12 z12 st12 hQ12
          subst l12 y12 z12
          obtain ⟨rfl, N12q, KK12, M12⟩ := hQ12
          have N12 := Fr.app N11 N12q
          refine own_pre (B := (T12.setTop (mkF m 104 #[.val (.int p1), .val (.int p2), .val (.int p3), .val (.int p4), .val (.int aa), .val (.int bb), .val (.int cc), .val (.int kn), .val (.ref b1), .val (.int (1 : Int32)), .val (.int (1 : Int32)), .unset, .unset, .unset, .unset, .unset] [(.int bb), (.ref b1)]))) (fun t kt => ?_) ?_
          · refine st12.trans ?_
            show Steps p.tables e below (T12.setTop (mkF m 98 _ [(.int (1 : Int32))])) _
            refine XS.istore X12.here hx rfl (hb hby at_98) rfl (l' := #[.val (.int p1), .val (.int p2), .val (.int p3), .val (.int p4), .val (.int aa), .val (.int bb), .val (.int cc), .val (.int kn), .val (.ref b1), .val (.int (1 : Int32)), .val (.int (1 : Int32)), .unset, .unset, .unset, .unset, .unset]) rfl ?_
            show Steps p.tables e below (T12.setTop (mkF m 100 _ [])) _
            refine XS.aload X12.here hx rfl (hb hby at_100) rfl rfl ?_
            show Steps p.tables e below (T12.setTop (mkF m 102 _ [(.ref b1)])) _
            refine XS.iload X12.here hx rfl (hb hby at_102) rfl ?_
            exact kt
          have hf_bb : (own_upd (fun _ => (0 : Int32)) (aa).toNatClampNeg 1) (bb).toNatClampNeg = 1 := by
            simp only [own_upd, own_tn]
            repeat' split
            all_goals first | rfl | (exfalso; omega)
          obtain ⟨cq13, kq13, q13a, q13b, q13c⟩ := isOf hZ rfl M12.1
          obtain ⟨_, _, ⟨T13, L13, k13, n13⟩, -, X13, ⟨Lc13, hQ13, l13, y13, z13⟩, st13⟩ := X12.virtualBack hx (y := (⟨"com/example/faregraph/faregraph/search/Members", "add", "(I)Z"⟩ : MethodName)) (z := (⟨"com/example/faregraph/faregraph/search/Members", "add", "(I)Z"⟩ : MethodName)) hown (mvT hZ (hw _ (List.mem_of_getElem? (i := 15) rfl))) (mvT hZ (hw _ (List.mem_of_getElem? (i := 16) rfl))) (notFace_of_selects (args := #[]) (mvT hZ (hw _ (List.mem_of_getElem? (i := 18) rfl)))) (mvT hZ (hw _ (List.mem_of_getElem? (i := 18) rfl))) (mvT hZ (hw _ (List.mem_of_getElem? (i := 17) rfl))) (by decide) (backOf (W := 0) (rm3y l Z a0 hw [] b1 mb mc (4 : Int32) ((0 : Int32) + (1 : Int32)) (own_upd (fun _ => (0 : Int32)) (aa).toNatClampNeg 1) (own_upd g ((0 : Int32)).toNatClampNeg aa) bb T12.heap n0 (Nat.le_trans (Nat.le_trans Zh KK10.1) KK12.1) M12 rb hf_bb) hZ (hw _ (List.mem_of_getElem? (i := 19) rfl)) (hw _ (List.mem_of_getElem? (i := 2) rfl)) (by decide) (by decide)) q13a q13c (g := (mkF m 104 #[.val (.int p1), .val (.int p2), .val (.int p3), .val (.int p4), .val (.int aa), .val (.int bb), .val (.int cc), .val (.int kn), .val (.ref b1), .val (.int (1 : Int32)), .val (.int (1 : Int32)), .unset, .unset, .unset, .unset, .unset] [(.int bb), (.ref b1)])) rfl (by rw [hml]; rfl) (Steps.refl _) (argsL := [(.int bb)]) (rest := []) (lenOf pd_2 rfl) rfl (by show 2 * 0 + _ ≤ _; exact Nat.le_of_eq rfl) (hb hby at_104) (fun _ _ => ⟨rfl, rfl, (by decide : 3 + 0 ≤ _), (by decide : 11 + 0 ≤ _)⟩)
          dsimp only [Pt.U, Pt.locs, Pt.cells, Pt.slots] at X13 l13 y13 z13 st13 hQ13
          subst l13 y13 z13
          obtain ⟨rfl, N13q, e13⟩ := hQ13
          have N13 := Fr.app N12 N13q
          refine own_pre (B := (T13.setTop (mkF m 113 #[.val (.int p1), .val (.int p2), .val (.int p3), .val (.int p4), .val (.int aa), .val (.int bb), .val (.int cc), .val (.int kn), .val (.ref b1), .val (.int (1 : Int32)), .val (.int (1 : Int32)), .val (.int (0 : Int32)), .unset, .unset, .unset, .unset] [(.int cc), (.ref b1)]))) (fun t kt => ?_) ?_
          · refine st13.trans ?_
            show Steps p.tables e below (T13.setTop (mkF m 107 _ [(.int (0 : Int32))])) _
            refine XS.istore X13.here hx rfl (hb hby at_107) rfl (l' := #[.val (.int p1), .val (.int p2), .val (.int p3), .val (.int p4), .val (.int aa), .val (.int bb), .val (.int cc), .val (.int kn), .val (.ref b1), .val (.int (1 : Int32)), .val (.int (1 : Int32)), .val (.int (0 : Int32)), .unset, .unset, .unset, .unset]) rfl ?_
            show Steps p.tables e below (T13.setTop (mkF m 109 _ [])) _
            refine XS.aload X13.here hx rfl (hb hby at_109) rfl rfl ?_
            show Steps p.tables e below (T13.setTop (mkF m 111 _ [(.ref b1)])) _
            refine XS.iload X13.here hx rfl (hb hby at_111) rfl ?_
            exact kt
          have hf_cc : (own_upd (fun _ => (0 : Int32)) (aa).toNatClampNeg 1) (cc).toNatClampNeg = 0 := by
            simp only [own_upd, own_tn]
            repeat' split
            all_goals first | rfl | (exfalso; omega)
          obtain ⟨cq14, kq14, q14a, q14b, q14c⟩ := isOf hZ e13 M12.1
          obtain ⟨_, _, ⟨T14, L14, k14, n14⟩, -, X14, ⟨Lc14, hQ14, l14, y14, z14⟩, st14⟩ := X13.virtualBack hx (y := (⟨"com/example/faregraph/faregraph/search/Members", "add", "(I)Z"⟩ : MethodName)) (z := (⟨"com/example/faregraph/faregraph/search/Members", "add", "(I)Z"⟩ : MethodName)) hown (mvT hZ (hw _ (List.mem_of_getElem? (i := 15) rfl))) (mvT hZ (hw _ (List.mem_of_getElem? (i := 16) rfl))) (notFace_of_selects (args := #[]) (mvT hZ (hw _ (List.mem_of_getElem? (i := 18) rfl)))) (mvT hZ (hw _ (List.mem_of_getElem? (i := 18) rfl))) (mvT hZ (hw _ (List.mem_of_getElem? (i := 17) rfl))) (by decide) (backOf (W := 0) (rm3n l Z a0 hw [] b1 mb mc (4 : Int32) ((0 : Int32) + (1 : Int32)) (own_upd (fun _ => (0 : Int32)) (aa).toNatClampNeg 1) (own_upd g ((0 : Int32)).toNatClampNeg aa) cc T12.heap n0 (Nat.le_trans (Nat.le_trans Zh KK10.1) KK12.1) M12 rc ⟨by decide, by decide⟩ hf_cc) hZ (hw _ (List.mem_of_getElem? (i := 19) rfl)) (hw _ (List.mem_of_getElem? (i := 2) rfl)) (by decide) (by decide)) q14a q14c (g := (mkF m 113 #[.val (.int p1), .val (.int p2), .val (.int p3), .val (.int p4), .val (.int aa), .val (.int bb), .val (.int cc), .val (.int kn), .val (.ref b1), .val (.int (1 : Int32)), .val (.int (1 : Int32)), .val (.int (0 : Int32)), .unset, .unset, .unset, .unset] [(.int cc), (.ref b1)])) rfl (by rw [hml]; rfl) (Steps.refl _) (argsL := [(.int cc)]) (rest := []) (lenOf pd_2 rfl) rfl (by show 2 * 0 + _ ≤ _; exact Nat.le_of_eq rfl) (hb hby at_113) (fun _ _ => ⟨rfl, e13, (by decide : 3 + 0 ≤ _), (by decide : 11 + 0 ≤ _)⟩)
          dsimp only [Pt.U, Pt.locs, Pt.cells, Pt.slots] at X14 l14 y14 z14 st14 hQ14
          subst l14 y14 z14
          obtain ⟨rfl, N14q, KK14, M14⟩ := hQ14
          have N14 := Fr.app N13 N14q
          refine own_pre (B := (T14.setTop (mkF m 204 #[.val (.int p1), .val (.int p2), .val (.int p3), .val (.int p4), .val (.int aa), .val (.int bb), .val (.int cc), .val (.int kn), .val (.ref b1), .val (.int (1 : Int32)), .val (.int (1 : Int32)), .val (.int (0 : Int32)), .val (.int (1 : Int32)), .val (.int (0 : Int32)), .val (.int (1 : Int32)), .val (.int (((1 : Int32) + (0 : Int32)) + (1 : Int32)))] [(.ref b1)]))) (fun t kt => ?_) ?_
          · refine st14.trans ?_
            show Steps p.tables e below (T14.setTop (mkF m 116 _ [(.int (1 : Int32))])) _
            refine XS.istore X14.here hx rfl (hb hby at_116) rfl (l' := #[.val (.int p1), .val (.int p2), .val (.int p3), .val (.int p4), .val (.int aa), .val (.int bb), .val (.int cc), .val (.int kn), .val (.ref b1), .val (.int (1 : Int32)), .val (.int (1 : Int32)), .val (.int (0 : Int32)), .val (.int (1 : Int32)), .unset, .unset, .unset]) rfl ?_
            show Steps p.tables e below (T14.setTop (mkF m 118 _ [])) _
            refine XS.iload X14.here hx rfl (hb hby at_118) rfl ?_
            show Steps p.tables e below (T14.setTop (mkF m 120 _ [(.int bb)])) _
            refine XS.iload X14.here hx rfl (hb hby at_120) rfl ?_
            show Steps p.tables e below (T14.setTop (mkF m 122 _ [(.int aa), (.int bb)])) _
            refine XS.icmpYes X14.here hx rfl (pc0 := 122) (pc' := 129) rfl (hb hby at_122) rfl (teq ((Int32.toInt_inj.mp hba) : bb = aa)).1 (by decide) (by decide) ?_
            show Steps p.tables e below (T14.setTop (mkF m 129 _ [])) _
            refine XS.iconst X14.here hx rfl (hb hby at_129) ?_
            show Steps p.tables e below (T14.setTop (mkF m 130 _ [(.int (0 : Int32))])) _
            refine XS.istore X14.here hx rfl (hb hby at_130) rfl (l' := #[.val (.int p1), .val (.int p2), .val (.int p3), .val (.int p4), .val (.int aa), .val (.int bb), .val (.int cc), .val (.int kn), .val (.ref b1), .val (.int (1 : Int32)), .val (.int (1 : Int32)), .val (.int (0 : Int32)), .val (.int (1 : Int32)), .val (.int (0 : Int32)), .unset, .unset]) rfl ?_
            show Steps p.tables e below (T14.setTop (mkF m 132 _ [])) _
            refine XS.iload X14.here hx rfl (hb hby at_132) rfl ?_
            show Steps p.tables e below (T14.setTop (mkF m 134 _ [(.int cc)])) _
            refine XS.iload X14.here hx rfl (hb hby at_134) rfl ?_
            show Steps p.tables e below (T14.setTop (mkF m 136 _ [(.int aa), (.int cc)])) _
            refine XS.icmpNo X14.here hx rfl (hb hby at_136) rfl (feq ((fun q => hca (congrArg Int32.toInt q)) : ¬ (cc = aa))).1 ?_
            show Steps p.tables e below (T14.setTop (mkF m 139 _ [])) _
            refine XS.iload X14.here hx rfl (hb hby at_139) rfl ?_
            show Steps p.tables e below (T14.setTop (mkF m 141 _ [(.int cc)])) _
            refine XS.iload X14.here hx rfl (hb hby at_141) rfl ?_
            show Steps p.tables e below (T14.setTop (mkF m 143 _ [(.int bb), (.int cc)])) _
            refine XS.icmpNo X14.here hx rfl (hb hby at_143) rfl (feq ((fun q => hca ((congrArg Int32.toInt q).trans hba)) : ¬ (cc = bb))).1 ?_
            show Steps p.tables e below (T14.setTop (mkF m 146 _ [])) _
            refine XS.iconst X14.here hx rfl (hb hby at_146) ?_
            show Steps p.tables e below (T14.setTop (mkF m 147 _ [(.int (1 : Int32))])) _
            refine XS.goto X14.here hx rfl (pc0 := 147) (pc' := 151) rfl (hb hby at_147) (by decide) (by decide) ?_
            show Steps p.tables e below (T14.setTop (mkF m 151 _ [(.int (1 : Int32))])) _
            refine XS.istore X14.here hx rfl (hb hby at_151) rfl (l' := #[.val (.int p1), .val (.int p2), .val (.int p3), .val (.int p4), .val (.int aa), .val (.int bb), .val (.int cc), .val (.int kn), .val (.ref b1), .val (.int (1 : Int32)), .val (.int (1 : Int32)), .val (.int (0 : Int32)), .val (.int (1 : Int32)), .val (.int (0 : Int32)), .val (.int (1 : Int32)), .unset]) rfl ?_
            show Steps p.tables e below (T14.setTop (mkF m 153 _ [])) _
            refine XS.iconst X14.here hx rfl (hb hby at_153) ?_
            show Steps p.tables e below (T14.setTop (mkF m 154 _ [(.int (1 : Int32))])) _
            refine XS.iload X14.here hx rfl (hb hby at_154) rfl ?_
            show Steps p.tables e below (T14.setTop (mkF m 156 _ [(.int (0 : Int32)), (.int (1 : Int32))])) _
            refine XS.ifYes X14.here hx rfl (pc0 := 156) (pc' := 163) rfl (hb hby at_156) rfl ((if0 _ _).trans (teq (rfl : (0 : Int32) = (0 : Int32))).1) (by decide) (by decide) ?_
            show Steps p.tables e below (T14.setTop (mkF m 163 _ [(.int (1 : Int32))])) _
            refine XS.iconst X14.here hx rfl (hb hby at_163) ?_
            show Steps p.tables e below (T14.setTop (mkF m 164 _ [(.int (0 : Int32)), (.int (1 : Int32))])) _
            refine XS.iadd X14.here hx rfl (hb hby at_164) rfl ?_
            show Steps p.tables e below (T14.setTop (mkF m 165 _ [(.int ((1 : Int32) + (0 : Int32)))])) _
            refine XS.iload X14.here hx rfl (hb hby at_165) rfl ?_
            show Steps p.tables e below (T14.setTop (mkF m 167 _ [(.int (1 : Int32)), (.int ((1 : Int32) + (0 : Int32)))])) _
            refine XS.ifNo X14.here hx rfl (hb hby at_167) rfl ((if0 _ _).trans (feq ((by decide) : ¬ ((1 : Int32) = (0 : Int32)))).1) ?_
            show Steps p.tables e below (T14.setTop (mkF m 170 _ [(.int ((1 : Int32) + (0 : Int32)))])) _
            refine XS.iconst X14.here hx rfl (hb hby at_170) ?_
            show Steps p.tables e below (T14.setTop (mkF m 171 _ [(.int (1 : Int32)), (.int ((1 : Int32) + (0 : Int32)))])) _
            refine XS.goto X14.here hx rfl (pc0 := 171) (pc' := 175) rfl (hb hby at_171) (by decide) (by decide) ?_
            show Steps p.tables e below (T14.setTop (mkF m 175 _ [(.int (1 : Int32)), (.int ((1 : Int32) + (0 : Int32)))])) _
            refine XS.iadd X14.here hx rfl (hb hby at_175) rfl ?_
            show Steps p.tables e below (T14.setTop (mkF m 176 _ [(.int (((1 : Int32) + (0 : Int32)) + (1 : Int32)))])) _
            refine XS.istore X14.here hx rfl (hb hby at_176) rfl (l' := #[.val (.int p1), .val (.int p2), .val (.int p3), .val (.int p4), .val (.int aa), .val (.int bb), .val (.int cc), .val (.int kn), .val (.ref b1), .val (.int (1 : Int32)), .val (.int (1 : Int32)), .val (.int (0 : Int32)), .val (.int (1 : Int32)), .val (.int (0 : Int32)), .val (.int (1 : Int32)), .val (.int (((1 : Int32) + (0 : Int32)) + (1 : Int32)))]) rfl ?_
            show Steps p.tables e below (T14.setTop (mkF m 178 _ [])) _
            refine XS.iload X14.here hx rfl (hb hby at_178) rfl ?_
            show Steps p.tables e below (T14.setTop (mkF m 180 _ [(.int (1 : Int32))])) _
            refine XS.ifNo X14.here hx rfl (hb hby at_180) rfl ((if0 _ _).trans (feq ((by decide) : ¬ ((1 : Int32) = (0 : Int32)))).1) ?_
            show Steps p.tables e below (T14.setTop (mkF m 183 _ [])) _
            refine XS.iload X14.here hx rfl (hb hby at_183) rfl ?_
            show Steps p.tables e below (T14.setTop (mkF m 185 _ [(.int (1 : Int32))])) _
            refine XS.ifNo X14.here hx rfl (hb hby at_185) rfl ((if0 _ _).trans (feq ((by decide) : ¬ ((1 : Int32) = (0 : Int32)))).1) ?_
            show Steps p.tables e below (T14.setTop (mkF m 188 _ [])) _
            refine XS.iload X14.here hx rfl (hb hby at_188) rfl ?_
            show Steps p.tables e below (T14.setTop (mkF m 190 _ [(.int (0 : Int32))])) _
            refine XS.iload X14.here hx rfl (hb hby at_190) rfl ?_
            show Steps p.tables e below (T14.setTop (mkF m 192 _ [(.int (0 : Int32)), (.int (0 : Int32))])) _
            refine XS.icmpNo X14.here hx rfl (hb hby at_192) rfl (teq (rfl : (0 : Int32) = (0 : Int32))).2 ?_
            show Steps p.tables e below (T14.setTop (mkF m 195 _ [])) _
            refine XS.iload X14.here hx rfl (hb hby at_195) rfl ?_
            show Steps p.tables e below (T14.setTop (mkF m 197 _ [(.int (1 : Int32))])) _
            refine XS.iload X14.here hx rfl (hb hby at_197) rfl ?_
            show Steps p.tables e below (T14.setTop (mkF m 199 _ [(.int (1 : Int32)), (.int (1 : Int32))])) _
            refine XS.icmpNo X14.here hx rfl (hb hby at_199) rfl (teq (rfl : (1 : Int32) = (1 : Int32))).2 ?_
            show Steps p.tables e below (T14.setTop (mkF m 202 _ [])) _
            refine XS.aload X14.here hx rfl (hb hby at_202) rfl rfl ?_
            exact kt
          obtain ⟨cq15, kq15, q15a, q15b, q15c⟩ := isOf hZ rfl M14.1
          obtain ⟨_, _, ⟨T15, L15, k15, n15⟩, -, X15, ⟨Lc15, hQ15, l15, y15, z15⟩, st15⟩ := X14.virtualBack hx (y := (⟨"com/example/faregraph/faregraph/search/Members", "count", "()I"⟩ : MethodName)) (z := (⟨"com/example/faregraph/faregraph/search/Members", "count", "()I"⟩ : MethodName)) hown (mvT hZ (hw _ (List.mem_of_getElem? (i := 27) rfl))) (mvT hZ (hw _ (List.mem_of_getElem? (i := 28) rfl))) (notFace_of_selects (args := #[]) (mvT hZ (hw _ (List.mem_of_getElem? (i := 30) rfl)))) (mvT hZ (hw _ (List.mem_of_getElem? (i := 30) rfl))) (mvT hZ (hw _ (List.mem_of_getElem? (i := 29) rfl))) (by decide) (backOf (W := 0) (rm5 l Z a0 hw [] b1 mb mc (4 : Int32) (((0 : Int32) + (1 : Int32)) + (1 : Int32)) (own_upd (own_upd (fun _ => (0 : Int32)) (aa).toNatClampNeg 1) (cc).toNatClampNeg 1) (own_upd (own_upd g ((0 : Int32)).toNatClampNeg aa) (((0 : Int32) + (1 : Int32))).toNatClampNeg cc) T14.heap n0 (Nat.le_trans (Nat.le_trans (Nat.le_trans Zh KK10.1) KK12.1) KK14.1) M14) hZ (hw _ (List.mem_of_getElem? (i := 31) rfl)) (hw _ (List.mem_of_getElem? (i := 2) rfl)) (by decide) (by decide)) q15a q15c (g := (mkF m 204 #[.val (.int p1), .val (.int p2), .val (.int p3), .val (.int p4), .val (.int aa), .val (.int bb), .val (.int cc), .val (.int kn), .val (.ref b1), .val (.int (1 : Int32)), .val (.int (1 : Int32)), .val (.int (0 : Int32)), .val (.int (1 : Int32)), .val (.int (0 : Int32)), .val (.int (1 : Int32)), .val (.int (((1 : Int32) + (0 : Int32)) + (1 : Int32)))] [(.ref b1)])) rfl (by rw [hml]; rfl) (Steps.refl _) (argsL := []) (rest := []) (lenOf pd_3 rfl) rfl (by show 2 * 0 + _ ≤ _; exact Nat.le_of_eq rfl) (hb hby at_204) (fun _ _ => ⟨rfl, rfl, (by decide : 3 + 0 ≤ _), (by decide : 11 + 0 ≤ _)⟩)
          dsimp only [Pt.U, Pt.locs, Pt.cells, Pt.slots] at X15 l15 y15 z15 st15 hQ15
          subst l15 y15 z15
          obtain ⟨rfl, N15q, e15⟩ := hQ15
          have N15 := Fr.app N14 N15q
          refine own_pre (B := (T15.setTop (mkF m 215 #[.val (.int p1), .val (.int p2), .val (.int p3), .val (.int p4), .val (.int aa), .val (.int bb), .val (.int cc), .val (.int kn), .val (.ref b1), .val (.int (1 : Int32)), .val (.int (1 : Int32)), .val (.int (0 : Int32)), .val (.int (1 : Int32)), .val (.int (0 : Int32)), .val (.int (1 : Int32)), .val (.int (((1 : Int32) + (0 : Int32)) + (1 : Int32)))] [(.int (0 : Int32)), (.ref b1)]))) (fun t kt => ?_) ?_
          · refine st15.trans ?_
            show Steps p.tables e below (T15.setTop (mkF m 207 _ [(.int (((0 : Int32) + (1 : Int32)) + (1 : Int32)))])) _
            refine XS.iload X15.here hx rfl (hb hby at_207) rfl ?_
            show Steps p.tables e below (T15.setTop (mkF m 209 _ [(.int (((1 : Int32) + (0 : Int32)) + (1 : Int32))), (.int (((0 : Int32) + (1 : Int32)) + (1 : Int32)))])) _
            refine XS.icmpNo X15.here hx rfl (hb hby at_209) rfl (teq ((by decide) : (((0 : Int32) + (1 : Int32)) + (1 : Int32)) = (((1 : Int32) + (0 : Int32)) + (1 : Int32)))).2 ?_
            show Steps p.tables e below (T15.setTop (mkF m 212 _ [])) _
            refine XS.aload X15.here hx rfl (hb hby at_212) rfl rfl ?_
            show Steps p.tables e below (T15.setTop (mkF m 214 _ [(.ref b1)])) _
            refine XS.iconst X15.here hx rfl (hb hby at_214) ?_
            exact kt
          have pg16 : (own_upd (own_upd g ((0 : Int32)).toNatClampNeg aa) (((0 : Int32) + (1 : Int32))).toNatClampNeg cc) ((0 : Int32)).toNatClampNeg = aa := ((own_upd_ne (by decide)).trans (own_upd_hit (by decide)))
          obtain ⟨cq16, kq16, q16a, q16b, q16c⟩ := isOf hZ e15 M14.1
          obtain ⟨_, _, ⟨T16, L16, k16, n16⟩, -, X16, ⟨Lc16, hQ16, l16, y16, z16⟩, st16⟩ := X15.virtualBack hx (y := (⟨"com/example/faregraph/faregraph/search/Members", "get", "(I)I"⟩ : MethodName)) (z := (⟨"com/example/faregraph/faregraph/search/Members", "get", "(I)I"⟩ : MethodName)) hown (mvT hZ (hw _ (List.mem_of_getElem? (i := 32) rfl))) (mvT hZ (hw _ (List.mem_of_getElem? (i := 33) rfl))) (notFace_of_selects (args := #[]) (mvT hZ (hw _ (List.mem_of_getElem? (i := 35) rfl)))) (mvT hZ (hw _ (List.mem_of_getElem? (i := 35) rfl))) (mvT hZ (hw _ (List.mem_of_getElem? (i := 34) rfl))) (by decide) (backOf (W := 0) (rm6 l Z a0 hw [] b1 mb mc (4 : Int32) (((0 : Int32) + (1 : Int32)) + (1 : Int32)) (own_upd (own_upd (fun _ => (0 : Int32)) (aa).toNatClampNeg 1) (cc).toNatClampNeg 1) (own_upd (own_upd g ((0 : Int32)).toNatClampNeg aa) (((0 : Int32) + (1 : Int32))).toNatClampNeg cc) (0 : Int32) aa T14.heap n0 (Nat.le_trans (Nat.le_trans (Nat.le_trans Zh KK10.1) KK12.1) KK14.1) M14 ⟨by decide, by decide⟩ pg16) hZ (hw _ (List.mem_of_getElem? (i := 36) rfl)) (hw _ (List.mem_of_getElem? (i := 2) rfl)) (by decide) (by decide)) q16a q16c (g := (mkF m 215 #[.val (.int p1), .val (.int p2), .val (.int p3), .val (.int p4), .val (.int aa), .val (.int bb), .val (.int cc), .val (.int kn), .val (.ref b1), .val (.int (1 : Int32)), .val (.int (1 : Int32)), .val (.int (0 : Int32)), .val (.int (1 : Int32)), .val (.int (0 : Int32)), .val (.int (1 : Int32)), .val (.int (((1 : Int32) + (0 : Int32)) + (1 : Int32)))] [(.int (0 : Int32)), (.ref b1)])) rfl (by rw [hml]; rfl) (Steps.refl _) (argsL := [(.int (0 : Int32))]) (rest := []) (lenOf pd_4 rfl) rfl (by show 2 * 0 + _ ≤ _; exact Nat.le_of_eq rfl) (hb hby at_215) (fun _ _ => ⟨rfl, e15, (by decide : 3 + 0 ≤ _), (by decide : 11 + 0 ≤ _)⟩)
          dsimp only [Pt.U, Pt.locs, Pt.cells, Pt.slots] at X16 l16 y16 z16 st16 hQ16
          subst l16 y16 z16
          obtain ⟨rfl, N16q, e16⟩ := hQ16
          have N16 := Fr.app N15 N16q
          refine own_pre (B := (T16.setTop (mkF m 228 #[.val (.int p1), .val (.int p2), .val (.int p3), .val (.int p4), .val (.int aa), .val (.int bb), .val (.int cc), .val (.int kn), .val (.ref b1), .val (.int (1 : Int32)), .val (.int (1 : Int32)), .val (.int (0 : Int32)), .val (.int (1 : Int32)), .val (.int (0 : Int32)), .val (.int (1 : Int32)), .val (.int (((1 : Int32) + (0 : Int32)) + (1 : Int32)))] [(.int (1 : Int32))]))) (fun t kt => ?_) ?_
          · refine st16.trans ?_
            show Steps p.tables e below (T16.setTop (mkF m 218 _ [(.int aa)])) _
            refine XS.iload X16.here hx rfl (hb hby at_218) rfl ?_
            show Steps p.tables e below (T16.setTop (mkF m 220 _ [(.int aa), (.int aa)])) _
            refine XS.icmpNo X16.here hx rfl (hb hby at_220) rfl (teq (rfl : aa = aa)).2 ?_
            show Steps p.tables e below (T16.setTop (mkF m 223 _ [])) _
            refine XS.iconst X16.here hx rfl (hb hby at_223) ?_
            show Steps p.tables e below (T16.setTop (mkF m 224 _ [(.int (1 : Int32))])) _
            refine XS.goto X16.here hx rfl (pc0 := 224) (pc' := 228) rfl (hb hby at_224) (by decide) (by decide) ?_
            exact kt
          exact own_fin X16 (some (.int (1 : Int32))) (fun h => by rw [Bd.returns] at h; cases h) (BodyLoose.notSynchronized Bd) e16 (fun fs hr => retN X16 hx (t := .boolean) Bd.returns (by simp) (hb hby at_228) hr) ⟨rfl, N16⟩ (by decide) (by decide)
      · by_cases hca : cc.toInt = aa.toInt
        · refine own_pre (B := (T.setTop (mkF m 73 #[.val (.int p1), .val (.int p2), .val (.int p3), .val (.int p4), .val (.int aa), .val (.int bb), .val (.int cc), .val (.int kn), .val (.ref b1), .unset, .unset, .unset, .unset, .unset, .unset, .unset] [(.ref b1)]))) (fun t kt => ?_) ?_
          · show Steps p.tables e below (T.setTop (mkF m 71 _ [])) _
            refine XS.aload X.here hx rfl (hb hby at_71) rfl rfl ?_
            exact kt
          obtain ⟨cq17, kq17, q17a, q17b, q17c⟩ := isOf hZ eT M.1
          obtain ⟨_, _, ⟨T17, L17, k17, n17⟩, -, X17, ⟨Lc17, hQ17, l17, y17, z17⟩, st17⟩ := X.virtualBack hx (y := (⟨"com/example/faregraph/faregraph/search/Members", "clear", "()V"⟩ : MethodName)) (z := (⟨"com/example/faregraph/faregraph/search/Members", "clear", "()V"⟩ : MethodName)) hown (mvT hZ (hw _ (List.mem_of_getElem? (i := 22) rfl))) (mvT hZ (hw _ (List.mem_of_getElem? (i := 23) rfl))) (notFace_of_selects (args := #[]) (mvT hZ (hw _ (List.mem_of_getElem? (i := 25) rfl)))) (mvT hZ (hw _ (List.mem_of_getElem? (i := 25) rfl))) (mvT hZ (hw _ (List.mem_of_getElem? (i := 24) rfl))) (by decide) (backOf (W := 0) (rm4 l Z a0 hw [] b1 mb mc (4 : Int32) k f g h n0 Zh M (own_Inv_k inv) inv.2.2.2.1 inv.2.2.2.2) hZ (hw _ (List.mem_of_getElem? (i := 26) rfl)) (hw _ (List.mem_of_getElem? (i := 2) rfl)) (by decide) (by decide)) q17a q17c (g := (mkF m 73 #[.val (.int p1), .val (.int p2), .val (.int p3), .val (.int p4), .val (.int aa), .val (.int bb), .val (.int cc), .val (.int kn), .val (.ref b1), .unset, .unset, .unset, .unset, .unset, .unset, .unset] [(.ref b1)])) rfl (by rw [hml]; rfl) (Steps.refl _) (argsL := []) (rest := []) (lenOf pd_1 rfl) rfl (by show 2 * 0 + _ ≤ _; exact Nat.le_of_eq rfl) (hb hby at_73) (fun _ _ => ⟨rfl, eT, (by decide : 3 + 0 ≤ _), (by decide : 11 + 0 ≤ _)⟩)
          dsimp only [Pt.U, Pt.locs, Pt.cells, Pt.slots] at X17 l17 y17 z17 st17 hQ17
          subst l17 y17 z17
          obtain ⟨rfl, N17q, KK17, M17⟩ := hQ17
          have N17 := Fr.app N N17q
          refine own_pre (B := (T17.setTop (mkF m 78 #[.val (.int p1), .val (.int p2), .val (.int p3), .val (.int p4), .val (.int aa), .val (.int bb), .val (.int cc), .val (.int kn), .val (.ref b1), .unset, .unset, .unset, .unset, .unset, .unset, .unset] [(.ref b1)]))) (fun t kt => ?_) ?_
          · refine st17.trans ?_
            show Steps p.tables e below (T17.setTop (mkF m 76 _ [])) _
            refine XS.aload X17.here hx rfl (hb hby at_76) rfl rfl ?_
            exact kt
          obtain ⟨cq18, kq18, q18a, q18b, q18c⟩ := isOf hZ rfl M17.1
          obtain ⟨_, _, ⟨T18, L18, k18, n18⟩, -, X18, ⟨Lc18, hQ18, l18, y18, z18⟩, st18⟩ := X17.virtualBack hx (y := (⟨"com/example/faregraph/faregraph/search/Members", "count", "()I"⟩ : MethodName)) (z := (⟨"com/example/faregraph/faregraph/search/Members", "count", "()I"⟩ : MethodName)) hown (mvT hZ (hw _ (List.mem_of_getElem? (i := 27) rfl))) (mvT hZ (hw _ (List.mem_of_getElem? (i := 28) rfl))) (notFace_of_selects (args := #[]) (mvT hZ (hw _ (List.mem_of_getElem? (i := 30) rfl)))) (mvT hZ (hw _ (List.mem_of_getElem? (i := 30) rfl))) (mvT hZ (hw _ (List.mem_of_getElem? (i := 29) rfl))) (by decide) (backOf (W := 0) (rm5 l Z a0 hw [] b1 mb mc (4 : Int32) (0 : Int32) (fun _ => (0 : Int32)) g T17.heap n0 (Nat.le_trans Zh KK17.1) M17) hZ (hw _ (List.mem_of_getElem? (i := 31) rfl)) (hw _ (List.mem_of_getElem? (i := 2) rfl)) (by decide) (by decide)) q18a q18c (g := (mkF m 78 #[.val (.int p1), .val (.int p2), .val (.int p3), .val (.int p4), .val (.int aa), .val (.int bb), .val (.int cc), .val (.int kn), .val (.ref b1), .unset, .unset, .unset, .unset, .unset, .unset, .unset] [(.ref b1)])) rfl (by rw [hml]; rfl) (Steps.refl _) (argsL := []) (rest := []) (lenOf pd_3 rfl) rfl (by show 2 * 0 + _ ≤ _; exact Nat.le_of_eq rfl) (hb hby at_78) (fun _ _ => ⟨rfl, rfl, (by decide : 3 + 0 ≤ _), (by decide : 11 + 0 ≤ _)⟩)
          dsimp only [Pt.U, Pt.locs, Pt.cells, Pt.slots] at X18 l18 y18 z18 st18 hQ18
          subst l18 y18 z18
          obtain ⟨rfl, N18q, e18⟩ := hQ18
          have N18 := Fr.app N17 N18q
          refine own_pre (B := (T18.setTop (mkF m 95 #[.val (.int p1), .val (.int p2), .val (.int p3), .val (.int p4), .val (.int aa), .val (.int bb), .val (.int cc), .val (.int kn), .val (.ref b1), .val (.int (1 : Int32)), .unset, .unset, .unset, .unset, .unset, .unset] [(.int aa), (.ref b1)]))) (fun t kt => ?_) ?_
          · refine st18.trans ?_
            show Steps p.tables e below (T18.setTop (mkF m 81 _ [(.int (0 : Int32))])) _
            refine XS.ifNo X18.here hx rfl (hb hby at_81) rfl ((if0 _ _).trans (teq (rfl : (0 : Int32) = (0 : Int32))).2) ?_
            show Steps p.tables e below (T18.setTop (mkF m 84 _ [])) _
            refine XS.iconst X18.here hx rfl (hb hby at_84) ?_
            show Steps p.tables e below (T18.setTop (mkF m 85 _ [(.int (1 : Int32))])) _
            refine XS.goto X18.here hx rfl (pc0 := 85) (pc' := 89) rfl (hb hby at_85) (by decide) (by decide) ?_
            show Steps p.tables e below (T18.setTop (mkF m 89 _ [(.int (1 : Int32))])) _
            refine XS.istore X18.here hx rfl (hb hby at_89) rfl (l' := #[.val (.int p1), .val (.int p2), .val (.int p3), .val (.int p4), .val (.int aa), .val (.int bb), .val (.int cc), .val (.int kn), .val (.ref b1), .val (.int (1 : Int32)), .unset, .unset, .unset, .unset, .unset, .unset]) rfl ?_
            show Steps p.tables e below (T18.setTop (mkF m 91 _ [])) _
            refine XS.aload X18.here hx rfl (hb hby at_91) rfl rfl ?_
            show Steps p.tables e below (T18.setTop (mkF m 93 _ [(.ref b1)])) _
            refine XS.iload X18.here hx rfl (hb hby at_93) rfl ?_
            exact kt
          have hf_aa : (fun _ => (0 : Int32)) (aa).toNatClampNeg = 0 := by
            simp only [own_upd, own_tn]
          obtain ⟨cq19, kq19, q19a, q19b, q19c⟩ := isOf hZ e18 M17.1
          obtain ⟨_, _, ⟨T19, L19, k19, n19⟩, -, X19, ⟨Lc19, hQ19, l19, y19, z19⟩, st19⟩ := X18.virtualBack hx (y := (⟨"com/example/faregraph/faregraph/search/Members", "add", "(I)Z"⟩ : MethodName)) (z := (⟨"com/example/faregraph/faregraph/search/Members", "add", "(I)Z"⟩ : MethodName)) hown (mvT hZ (hw _ (List.mem_of_getElem? (i := 15) rfl))) (mvT hZ (hw _ (List.mem_of_getElem? (i := 16) rfl))) (notFace_of_selects (args := #[]) (mvT hZ (hw _ (List.mem_of_getElem? (i := 18) rfl)))) (mvT hZ (hw _ (List.mem_of_getElem? (i := 18) rfl))) (mvT hZ (hw _ (List.mem_of_getElem? (i := 17) rfl))) (by decide) (backOf (W := 0) (rm3n l Z a0 hw [] b1 mb mc (4 : Int32) (0 : Int32) (fun _ => (0 : Int32)) g aa T17.heap n0 (Nat.le_trans Zh KK17.1) M17 ra ⟨by decide, by decide⟩ hf_aa) hZ (hw _ (List.mem_of_getElem? (i := 19) rfl)) (hw _ (List.mem_of_getElem? (i := 2) rfl)) (by decide) (by decide)) q19a q19c (g := (mkF m 95 #[.val (.int p1), .val (.int p2), .val (.int p3), .val (.int p4), .val (.int aa), .val (.int bb), .val (.int cc), .val (.int kn), .val (.ref b1), .val (.int (1 : Int32)), .unset, .unset, .unset, .unset, .unset, .unset] [(.int aa), (.ref b1)])) rfl (by rw [hml]; rfl) (Steps.refl _) (argsL := [(.int aa)]) (rest := []) (lenOf pd_2 rfl) rfl (by show 2 * 0 + _ ≤ _; exact Nat.le_of_eq rfl) (hb hby at_95) (fun _ _ => ⟨rfl, e18, (by decide : 3 + 0 ≤ _), (by decide : 11 + 0 ≤ _)⟩)
          dsimp only [Pt.U, Pt.locs, Pt.cells, Pt.slots] at X19 l19 y19 z19 st19 hQ19
          subst l19 y19 z19
          obtain ⟨rfl, N19q, KK19, M19⟩ := hQ19
          have N19 := Fr.app N18 N19q
          refine own_pre (B := (T19.setTop (mkF m 104 #[.val (.int p1), .val (.int p2), .val (.int p3), .val (.int p4), .val (.int aa), .val (.int bb), .val (.int cc), .val (.int kn), .val (.ref b1), .val (.int (1 : Int32)), .val (.int (1 : Int32)), .unset, .unset, .unset, .unset, .unset] [(.int bb), (.ref b1)]))) (fun t kt => ?_) ?_
          · refine st19.trans ?_
            show Steps p.tables e below (T19.setTop (mkF m 98 _ [(.int (1 : Int32))])) _
            refine XS.istore X19.here hx rfl (hb hby at_98) rfl (l' := #[.val (.int p1), .val (.int p2), .val (.int p3), .val (.int p4), .val (.int aa), .val (.int bb), .val (.int cc), .val (.int kn), .val (.ref b1), .val (.int (1 : Int32)), .val (.int (1 : Int32)), .unset, .unset, .unset, .unset, .unset]) rfl ?_
            show Steps p.tables e below (T19.setTop (mkF m 100 _ [])) _
            refine XS.aload X19.here hx rfl (hb hby at_100) rfl rfl ?_
            show Steps p.tables e below (T19.setTop (mkF m 102 _ [(.ref b1)])) _
            refine XS.iload X19.here hx rfl (hb hby at_102) rfl ?_
            exact kt
          have hf_bb : (own_upd (fun _ => (0 : Int32)) (aa).toNatClampNeg 1) (bb).toNatClampNeg = 0 := by
            simp only [own_upd, own_tn]
            repeat' split
            all_goals first | rfl | (exfalso; omega)
          obtain ⟨cq20, kq20, q20a, q20b, q20c⟩ := isOf hZ rfl M19.1
          obtain ⟨_, _, ⟨T20, L20, k20, n20⟩, -, X20, ⟨Lc20, hQ20, l20, y20, z20⟩, st20⟩ := X19.virtualBack hx (y := (⟨"com/example/faregraph/faregraph/search/Members", "add", "(I)Z"⟩ : MethodName)) (z := (⟨"com/example/faregraph/faregraph/search/Members", "add", "(I)Z"⟩ : MethodName)) hown (mvT hZ (hw _ (List.mem_of_getElem? (i := 15) rfl))) (mvT hZ (hw _ (List.mem_of_getElem? (i := 16) rfl))) (notFace_of_selects (args := #[]) (mvT hZ (hw _ (List.mem_of_getElem? (i := 18) rfl)))) (mvT hZ (hw _ (List.mem_of_getElem? (i := 18) rfl))) (mvT hZ (hw _ (List.mem_of_getElem? (i := 17) rfl))) (by decide) (backOf (W := 0) (rm3n l Z a0 hw [] b1 mb mc (4 : Int32) ((0 : Int32) + (1 : Int32)) (own_upd (fun _ => (0 : Int32)) (aa).toNatClampNeg 1) (own_upd g ((0 : Int32)).toNatClampNeg aa) bb T19.heap n0 (Nat.le_trans (Nat.le_trans Zh KK17.1) KK19.1) M19 rb ⟨by decide, by decide⟩ hf_bb) hZ (hw _ (List.mem_of_getElem? (i := 19) rfl)) (hw _ (List.mem_of_getElem? (i := 2) rfl)) (by decide) (by decide)) q20a q20c (g := (mkF m 104 #[.val (.int p1), .val (.int p2), .val (.int p3), .val (.int p4), .val (.int aa), .val (.int bb), .val (.int cc), .val (.int kn), .val (.ref b1), .val (.int (1 : Int32)), .val (.int (1 : Int32)), .unset, .unset, .unset, .unset, .unset] [(.int bb), (.ref b1)])) rfl (by rw [hml]; rfl) (Steps.refl _) (argsL := [(.int bb)]) (rest := []) (lenOf pd_2 rfl) rfl (by show 2 * 0 + _ ≤ _; exact Nat.le_of_eq rfl) (hb hby at_104) (fun _ _ => ⟨rfl, rfl, (by decide : 3 + 0 ≤ _), (by decide : 11 + 0 ≤ _)⟩)
          dsimp only [Pt.U, Pt.locs, Pt.cells, Pt.slots] at X20 l20 y20 z20 st20 hQ20
          subst l20 y20 z20
          obtain ⟨rfl, N20q, KK20, M20⟩ := hQ20
          have N20 := Fr.app N19 N20q
          refine own_pre (B := (T20.setTop (mkF m 113 #[.val (.int p1), .val (.int p2), .val (.int p3), .val (.int p4), .val (.int aa), .val (.int bb), .val (.int cc), .val (.int kn), .val (.ref b1), .val (.int (1 : Int32)), .val (.int (1 : Int32)), .val (.int (1 : Int32)), .unset, .unset, .unset, .unset] [(.int cc), (.ref b1)]))) (fun t kt => ?_) ?_
          · refine st20.trans ?_
            show Steps p.tables e below (T20.setTop (mkF m 107 _ [(.int (1 : Int32))])) _
            refine XS.istore X20.here hx rfl (hb hby at_107) rfl (l' := #[.val (.int p1), .val (.int p2), .val (.int p3), .val (.int p4), .val (.int aa), .val (.int bb), .val (.int cc), .val (.int kn), .val (.ref b1), .val (.int (1 : Int32)), .val (.int (1 : Int32)), .val (.int (1 : Int32)), .unset, .unset, .unset, .unset]) rfl ?_
            show Steps p.tables e below (T20.setTop (mkF m 109 _ [])) _
            refine XS.aload X20.here hx rfl (hb hby at_109) rfl rfl ?_
            show Steps p.tables e below (T20.setTop (mkF m 111 _ [(.ref b1)])) _
            refine XS.iload X20.here hx rfl (hb hby at_111) rfl ?_
            exact kt
          have hf_cc : (own_upd (own_upd (fun _ => (0 : Int32)) (aa).toNatClampNeg 1) (bb).toNatClampNeg 1) (cc).toNatClampNeg = 1 := by
            simp only [own_upd, own_tn]
            repeat' split
            all_goals first | rfl | (exfalso; omega)
          obtain ⟨cq21, kq21, q21a, q21b, q21c⟩ := isOf hZ rfl M20.1
          obtain ⟨_, _, ⟨T21, L21, k21, n21⟩, -, X21, ⟨Lc21, hQ21, l21, y21, z21⟩, st21⟩ := X20.virtualBack hx (y := (⟨"com/example/faregraph/faregraph/search/Members", "add", "(I)Z"⟩ : MethodName)) (z := (⟨"com/example/faregraph/faregraph/search/Members", "add", "(I)Z"⟩ : MethodName)) hown (mvT hZ (hw _ (List.mem_of_getElem? (i := 15) rfl))) (mvT hZ (hw _ (List.mem_of_getElem? (i := 16) rfl))) (notFace_of_selects (args := #[]) (mvT hZ (hw _ (List.mem_of_getElem? (i := 18) rfl)))) (mvT hZ (hw _ (List.mem_of_getElem? (i := 18) rfl))) (mvT hZ (hw _ (List.mem_of_getElem? (i := 17) rfl))) (by decide) (backOf (W := 0) (rm3y l Z a0 hw [] b1 mb mc (4 : Int32) (((0 : Int32) + (1 : Int32)) + (1 : Int32)) (own_upd (own_upd (fun _ => (0 : Int32)) (aa).toNatClampNeg 1) (bb).toNatClampNeg 1) (own_upd (own_upd g ((0 : Int32)).toNatClampNeg aa) (((0 : Int32) + (1 : Int32))).toNatClampNeg bb) cc T20.heap n0 (Nat.le_trans (Nat.le_trans (Nat.le_trans Zh KK17.1) KK19.1) KK20.1) M20 rc hf_cc) hZ (hw _ (List.mem_of_getElem? (i := 19) rfl)) (hw _ (List.mem_of_getElem? (i := 2) rfl)) (by decide) (by decide)) q21a q21c (g := (mkF m 113 #[.val (.int p1), .val (.int p2), .val (.int p3), .val (.int p4), .val (.int aa), .val (.int bb), .val (.int cc), .val (.int kn), .val (.ref b1), .val (.int (1 : Int32)), .val (.int (1 : Int32)), .val (.int (1 : Int32)), .unset, .unset, .unset, .unset] [(.int cc), (.ref b1)])) rfl (by rw [hml]; rfl) (Steps.refl _) (argsL := [(.int cc)]) (rest := []) (lenOf pd_2 rfl) rfl (by show 2 * 0 + _ ≤ _; exact Nat.le_of_eq rfl) (hb hby at_113) (fun _ _ => ⟨rfl, rfl, (by decide : 3 + 0 ≤ _), (by decide : 11 + 0 ≤ _)⟩)
          dsimp only [Pt.U, Pt.locs, Pt.cells, Pt.slots] at X21 l21 y21 z21 st21 hQ21
          subst l21 y21 z21
          obtain ⟨rfl, N21q, e21⟩ := hQ21
          have N21 := Fr.app N20 N21q
          refine own_pre (B := (T21.setTop (mkF m 204 #[.val (.int p1), .val (.int p2), .val (.int p3), .val (.int p4), .val (.int aa), .val (.int bb), .val (.int cc), .val (.int kn), .val (.ref b1), .val (.int (1 : Int32)), .val (.int (1 : Int32)), .val (.int (1 : Int32)), .val (.int (0 : Int32)), .val (.int (1 : Int32)), .val (.int (0 : Int32)), .val (.int (((1 : Int32) + (1 : Int32)) + (0 : Int32)))] [(.ref b1)]))) (fun t kt => ?_) ?_
          · refine st21.trans ?_
            show Steps p.tables e below (T21.setTop (mkF m 116 _ [(.int (0 : Int32))])) _
            refine XS.istore X21.here hx rfl (hb hby at_116) rfl (l' := #[.val (.int p1), .val (.int p2), .val (.int p3), .val (.int p4), .val (.int aa), .val (.int bb), .val (.int cc), .val (.int kn), .val (.ref b1), .val (.int (1 : Int32)), .val (.int (1 : Int32)), .val (.int (1 : Int32)), .val (.int (0 : Int32)), .unset, .unset, .unset]) rfl ?_
            show Steps p.tables e below (T21.setTop (mkF m 118 _ [])) _
            refine XS.iload X21.here hx rfl (hb hby at_118) rfl ?_
            show Steps p.tables e below (T21.setTop (mkF m 120 _ [(.int bb)])) _
            refine XS.iload X21.here hx rfl (hb hby at_120) rfl ?_
            show Steps p.tables e below (T21.setTop (mkF m 122 _ [(.int aa), (.int bb)])) _
            refine XS.icmpNo X21.here hx rfl (hb hby at_122) rfl (feq ((fun q => hba (congrArg Int32.toInt q)) : ¬ (bb = aa))).1 ?_
            show Steps p.tables e below (T21.setTop (mkF m 125 _ [])) _
            refine XS.iconst X21.here hx rfl (hb hby at_125) ?_
            show Steps p.tables e below (T21.setTop (mkF m 126 _ [(.int (1 : Int32))])) _
            refine XS.goto X21.here hx rfl (pc0 := 126) (pc' := 130) rfl (hb hby at_126) (by decide) (by decide) ?_
            show Steps p.tables e below (T21.setTop (mkF m 130 _ [(.int (1 : Int32))])) _
            refine XS.istore X21.here hx rfl (hb hby at_130) rfl (l' := #[.val (.int p1), .val (.int p2), .val (.int p3), .val (.int p4), .val (.int aa), .val (.int bb), .val (.int cc), .val (.int kn), .val (.ref b1), .val (.int (1 : Int32)), .val (.int (1 : Int32)), .val (.int (1 : Int32)), .val (.int (0 : Int32)), .val (.int (1 : Int32)), .unset, .unset]) rfl ?_
            show Steps p.tables e below (T21.setTop (mkF m 132 _ [])) _
            refine XS.iload X21.here hx rfl (hb hby at_132) rfl ?_
            show Steps p.tables e below (T21.setTop (mkF m 134 _ [(.int cc)])) _
            refine XS.iload X21.here hx rfl (hb hby at_134) rfl ?_
            show Steps p.tables e below (T21.setTop (mkF m 136 _ [(.int aa), (.int cc)])) _
            refine XS.icmpYes X21.here hx rfl (pc0 := 136) (pc' := 150) rfl (hb hby at_136) rfl (teq ((Int32.toInt_inj.mp hca) : cc = aa)).1 (by decide) (by decide) ?_
            show Steps p.tables e below (T21.setTop (mkF m 150 _ [])) _
            refine XS.iconst X21.here hx rfl (hb hby at_150) ?_
            show Steps p.tables e below (T21.setTop (mkF m 151 _ [(.int (0 : Int32))])) _
            refine XS.istore X21.here hx rfl (hb hby at_151) rfl (l' := #[.val (.int p1), .val (.int p2), .val (.int p3), .val (.int p4), .val (.int aa), .val (.int bb), .val (.int cc), .val (.int kn), .val (.ref b1), .val (.int (1 : Int32)), .val (.int (1 : Int32)), .val (.int (1 : Int32)), .val (.int (0 : Int32)), .val (.int (1 : Int32)), .val (.int (0 : Int32)), .unset]) rfl ?_
            show Steps p.tables e below (T21.setTop (mkF m 153 _ [])) _
            refine XS.iconst X21.here hx rfl (hb hby at_153) ?_
            show Steps p.tables e below (T21.setTop (mkF m 154 _ [(.int (1 : Int32))])) _
            refine XS.iload X21.here hx rfl (hb hby at_154) rfl ?_
            show Steps p.tables e below (T21.setTop (mkF m 156 _ [(.int (1 : Int32)), (.int (1 : Int32))])) _
            refine XS.ifNo X21.here hx rfl (hb hby at_156) rfl ((if0 _ _).trans (feq ((by decide) : ¬ ((1 : Int32) = (0 : Int32)))).1) ?_
            show Steps p.tables e below (T21.setTop (mkF m 159 _ [(.int (1 : Int32))])) _
            refine XS.iconst X21.here hx rfl (hb hby at_159) ?_
            show Steps p.tables e below (T21.setTop (mkF m 160 _ [(.int (1 : Int32)), (.int (1 : Int32))])) _
            refine XS.goto X21.here hx rfl (pc0 := 160) (pc' := 164) rfl (hb hby at_160) (by decide) (by decide) ?_
            show Steps p.tables e below (T21.setTop (mkF m 164 _ [(.int (1 : Int32)), (.int (1 : Int32))])) _
            refine XS.iadd X21.here hx rfl (hb hby at_164) rfl ?_
            show Steps p.tables e below (T21.setTop (mkF m 165 _ [(.int ((1 : Int32) + (1 : Int32)))])) _
            refine XS.iload X21.here hx rfl (hb hby at_165) rfl ?_
            show Steps p.tables e below (T21.setTop (mkF m 167 _ [(.int (0 : Int32)), (.int ((1 : Int32) + (1 : Int32)))])) _
            refine XS.ifYes X21.here hx rfl (pc0 := 167) (pc' := 174) rfl (hb hby at_167) rfl ((if0 _ _).trans (teq (rfl : (0 : Int32) = (0 : Int32))).1) (by decide) (by decide) ?_
            show Steps p.tables e below (T21.setTop (mkF m 174 _ [(.int ((1 : Int32) + (1 : Int32)))])) _
            refine XS.iconst X21.here hx rfl (hb hby at_174) ?_
            show Steps p.tables e below (T21.setTop (mkF m 175 _ [(.int (0 : Int32)), (.int ((1 : Int32) + (1 : Int32)))])) _
            refine XS.iadd X21.here hx rfl (hb hby at_175) rfl ?_
            show Steps p.tables e below (T21.setTop (mkF m 176 _ [(.int (((1 : Int32) + (1 : Int32)) + (0 : Int32)))])) _
            refine XS.istore X21.here hx rfl (hb hby at_176) rfl (l' := #[.val (.int p1), .val (.int p2), .val (.int p3), .val (.int p4), .val (.int aa), .val (.int bb), .val (.int cc), .val (.int kn), .val (.ref b1), .val (.int (1 : Int32)), .val (.int (1 : Int32)), .val (.int (1 : Int32)), .val (.int (0 : Int32)), .val (.int (1 : Int32)), .val (.int (0 : Int32)), .val (.int (((1 : Int32) + (1 : Int32)) + (0 : Int32)))]) rfl ?_
            show Steps p.tables e below (T21.setTop (mkF m 178 _ [])) _
            refine XS.iload X21.here hx rfl (hb hby at_178) rfl ?_
            show Steps p.tables e below (T21.setTop (mkF m 180 _ [(.int (1 : Int32))])) _
            refine XS.ifNo X21.here hx rfl (hb hby at_180) rfl ((if0 _ _).trans (feq ((by decide) : ¬ ((1 : Int32) = (0 : Int32)))).1) ?_
            show Steps p.tables e below (T21.setTop (mkF m 183 _ [])) _
            refine XS.iload X21.here hx rfl (hb hby at_183) rfl ?_
            show Steps p.tables e below (T21.setTop (mkF m 185 _ [(.int (1 : Int32))])) _
            refine XS.ifNo X21.here hx rfl (hb hby at_185) rfl ((if0 _ _).trans (feq ((by decide) : ¬ ((1 : Int32) = (0 : Int32)))).1) ?_
            show Steps p.tables e below (T21.setTop (mkF m 188 _ [])) _
            refine XS.iload X21.here hx rfl (hb hby at_188) rfl ?_
            show Steps p.tables e below (T21.setTop (mkF m 190 _ [(.int (1 : Int32))])) _
            refine XS.iload X21.here hx rfl (hb hby at_190) rfl ?_
            show Steps p.tables e below (T21.setTop (mkF m 192 _ [(.int (1 : Int32)), (.int (1 : Int32))])) _
            refine XS.icmpNo X21.here hx rfl (hb hby at_192) rfl (teq (rfl : (1 : Int32) = (1 : Int32))).2 ?_
            show Steps p.tables e below (T21.setTop (mkF m 195 _ [])) _
            refine XS.iload X21.here hx rfl (hb hby at_195) rfl ?_
            show Steps p.tables e below (T21.setTop (mkF m 197 _ [(.int (0 : Int32))])) _
            refine XS.iload X21.here hx rfl (hb hby at_197) rfl ?_
            show Steps p.tables e below (T21.setTop (mkF m 199 _ [(.int (0 : Int32)), (.int (0 : Int32))])) _
            refine XS.icmpNo X21.here hx rfl (hb hby at_199) rfl (teq (rfl : (0 : Int32) = (0 : Int32))).2 ?_
            show Steps p.tables e below (T21.setTop (mkF m 202 _ [])) _
            refine XS.aload X21.here hx rfl (hb hby at_202) rfl rfl ?_
            exact kt
          obtain ⟨cq22, kq22, q22a, q22b, q22c⟩ := isOf hZ e21 M20.1
          obtain ⟨_, _, ⟨T22, L22, k22, n22⟩, -, X22, ⟨Lc22, hQ22, l22, y22, z22⟩, st22⟩ := X21.virtualBack hx (y := (⟨"com/example/faregraph/faregraph/search/Members", "count", "()I"⟩ : MethodName)) (z := (⟨"com/example/faregraph/faregraph/search/Members", "count", "()I"⟩ : MethodName)) hown (mvT hZ (hw _ (List.mem_of_getElem? (i := 27) rfl))) (mvT hZ (hw _ (List.mem_of_getElem? (i := 28) rfl))) (notFace_of_selects (args := #[]) (mvT hZ (hw _ (List.mem_of_getElem? (i := 30) rfl)))) (mvT hZ (hw _ (List.mem_of_getElem? (i := 30) rfl))) (mvT hZ (hw _ (List.mem_of_getElem? (i := 29) rfl))) (by decide) (backOf (W := 0) (rm5 l Z a0 hw [] b1 mb mc (4 : Int32) (((0 : Int32) + (1 : Int32)) + (1 : Int32)) (own_upd (own_upd (fun _ => (0 : Int32)) (aa).toNatClampNeg 1) (bb).toNatClampNeg 1) (own_upd (own_upd g ((0 : Int32)).toNatClampNeg aa) (((0 : Int32) + (1 : Int32))).toNatClampNeg bb) T20.heap n0 (Nat.le_trans (Nat.le_trans (Nat.le_trans Zh KK17.1) KK19.1) KK20.1) M20) hZ (hw _ (List.mem_of_getElem? (i := 31) rfl)) (hw _ (List.mem_of_getElem? (i := 2) rfl)) (by decide) (by decide)) q22a q22c (g := (mkF m 204 #[.val (.int p1), .val (.int p2), .val (.int p3), .val (.int p4), .val (.int aa), .val (.int bb), .val (.int cc), .val (.int kn), .val (.ref b1), .val (.int (1 : Int32)), .val (.int (1 : Int32)), .val (.int (1 : Int32)), .val (.int (0 : Int32)), .val (.int (1 : Int32)), .val (.int (0 : Int32)), .val (.int (((1 : Int32) + (1 : Int32)) + (0 : Int32)))] [(.ref b1)])) rfl (by rw [hml]; rfl) (Steps.refl _) (argsL := []) (rest := []) (lenOf pd_3 rfl) rfl (by show 2 * 0 + _ ≤ _; exact Nat.le_of_eq rfl) (hb hby at_204) (fun _ _ => ⟨rfl, e21, (by decide : 3 + 0 ≤ _), (by decide : 11 + 0 ≤ _)⟩)
          dsimp only [Pt.U, Pt.locs, Pt.cells, Pt.slots] at X22 l22 y22 z22 st22 hQ22
          subst l22 y22 z22
          obtain ⟨rfl, N22q, e22⟩ := hQ22
          have N22 := Fr.app N21 N22q
          refine own_pre (B := (T22.setTop (mkF m 215 #[.val (.int p1), .val (.int p2), .val (.int p3), .val (.int p4), .val (.int aa), .val (.int bb), .val (.int cc), .val (.int kn), .val (.ref b1), .val (.int (1 : Int32)), .val (.int (1 : Int32)), .val (.int (1 : Int32)), .val (.int (0 : Int32)), .val (.int (1 : Int32)), .val (.int (0 : Int32)), .val (.int (((1 : Int32) + (1 : Int32)) + (0 : Int32)))] [(.int (0 : Int32)), (.ref b1)]))) (fun t kt => ?_) ?_
          · refine st22.trans ?_
            show Steps p.tables e below (T22.setTop (mkF m 207 _ [(.int (((0 : Int32) + (1 : Int32)) + (1 : Int32)))])) _
            refine XS.iload X22.here hx rfl (hb hby at_207) rfl ?_
            show Steps p.tables e below (T22.setTop (mkF m 209 _ [(.int (((1 : Int32) + (1 : Int32)) + (0 : Int32))), (.int (((0 : Int32) + (1 : Int32)) + (1 : Int32)))])) _
            refine XS.icmpNo X22.here hx rfl (hb hby at_209) rfl (teq ((by decide) : (((0 : Int32) + (1 : Int32)) + (1 : Int32)) = (((1 : Int32) + (1 : Int32)) + (0 : Int32)))).2 ?_
            show Steps p.tables e below (T22.setTop (mkF m 212 _ [])) _
            refine XS.aload X22.here hx rfl (hb hby at_212) rfl rfl ?_
            show Steps p.tables e below (T22.setTop (mkF m 214 _ [(.ref b1)])) _
            refine XS.iconst X22.here hx rfl (hb hby at_214) ?_
            exact kt
          have pg23 : (own_upd (own_upd g ((0 : Int32)).toNatClampNeg aa) (((0 : Int32) + (1 : Int32))).toNatClampNeg bb) ((0 : Int32)).toNatClampNeg = aa := ((own_upd_ne (by decide)).trans (own_upd_hit (by decide)))
          obtain ⟨cq23, kq23, q23a, q23b, q23c⟩ := isOf hZ e22 M20.1
          obtain ⟨_, _, ⟨T23, L23, k23, n23⟩, -, X23, ⟨Lc23, hQ23, l23, y23, z23⟩, st23⟩ := X22.virtualBack hx (y := (⟨"com/example/faregraph/faregraph/search/Members", "get", "(I)I"⟩ : MethodName)) (z := (⟨"com/example/faregraph/faregraph/search/Members", "get", "(I)I"⟩ : MethodName)) hown (mvT hZ (hw _ (List.mem_of_getElem? (i := 32) rfl))) (mvT hZ (hw _ (List.mem_of_getElem? (i := 33) rfl))) (notFace_of_selects (args := #[]) (mvT hZ (hw _ (List.mem_of_getElem? (i := 35) rfl)))) (mvT hZ (hw _ (List.mem_of_getElem? (i := 35) rfl))) (mvT hZ (hw _ (List.mem_of_getElem? (i := 34) rfl))) (by decide) (backOf (W := 0) (rm6 l Z a0 hw [] b1 mb mc (4 : Int32) (((0 : Int32) + (1 : Int32)) + (1 : Int32)) (own_upd (own_upd (fun _ => (0 : Int32)) (aa).toNatClampNeg 1) (bb).toNatClampNeg 1) (own_upd (own_upd g ((0 : Int32)).toNatClampNeg aa) (((0 : Int32) + (1 : Int32))).toNatClampNeg bb) (0 : Int32) aa T20.heap n0 (Nat.le_trans (Nat.le_trans (Nat.le_trans Zh KK17.1) KK19.1) KK20.1) M20 ⟨by decide, by decide⟩ pg23) hZ (hw _ (List.mem_of_getElem? (i := 36) rfl)) (hw _ (List.mem_of_getElem? (i := 2) rfl)) (by decide) (by decide)) q23a q23c (g := (mkF m 215 #[.val (.int p1), .val (.int p2), .val (.int p3), .val (.int p4), .val (.int aa), .val (.int bb), .val (.int cc), .val (.int kn), .val (.ref b1), .val (.int (1 : Int32)), .val (.int (1 : Int32)), .val (.int (1 : Int32)), .val (.int (0 : Int32)), .val (.int (1 : Int32)), .val (.int (0 : Int32)), .val (.int (((1 : Int32) + (1 : Int32)) + (0 : Int32)))] [(.int (0 : Int32)), (.ref b1)])) rfl (by rw [hml]; rfl) (Steps.refl _) (argsL := [(.int (0 : Int32))]) (rest := []) (lenOf pd_4 rfl) rfl (by show 2 * 0 + _ ≤ _; exact Nat.le_of_eq rfl) (hb hby at_215) (fun _ _ => ⟨rfl, e22, (by decide : 3 + 0 ≤ _), (by decide : 11 + 0 ≤ _)⟩)
          dsimp only [Pt.U, Pt.locs, Pt.cells, Pt.slots] at X23 l23 y23 z23 st23 hQ23
          subst l23 y23 z23
          obtain ⟨rfl, N23q, e23⟩ := hQ23
          have N23 := Fr.app N22 N23q
          refine own_pre (B := (T23.setTop (mkF m 228 #[.val (.int p1), .val (.int p2), .val (.int p3), .val (.int p4), .val (.int aa), .val (.int bb), .val (.int cc), .val (.int kn), .val (.ref b1), .val (.int (1 : Int32)), .val (.int (1 : Int32)), .val (.int (1 : Int32)), .val (.int (0 : Int32)), .val (.int (1 : Int32)), .val (.int (0 : Int32)), .val (.int (((1 : Int32) + (1 : Int32)) + (0 : Int32)))] [(.int (1 : Int32))]))) (fun t kt => ?_) ?_
          · refine st23.trans ?_
            show Steps p.tables e below (T23.setTop (mkF m 218 _ [(.int aa)])) _
            refine XS.iload X23.here hx rfl (hb hby at_218) rfl ?_
            show Steps p.tables e below (T23.setTop (mkF m 220 _ [(.int aa), (.int aa)])) _
            refine XS.icmpNo X23.here hx rfl (hb hby at_220) rfl (teq (rfl : aa = aa)).2 ?_
            show Steps p.tables e below (T23.setTop (mkF m 223 _ [])) _
            refine XS.iconst X23.here hx rfl (hb hby at_223) ?_
            show Steps p.tables e below (T23.setTop (mkF m 224 _ [(.int (1 : Int32))])) _
            refine XS.goto X23.here hx rfl (pc0 := 224) (pc' := 228) rfl (hb hby at_224) (by decide) (by decide) ?_
            exact kt
          exact own_fin X23 (some (.int (1 : Int32))) (fun h => by rw [Bd.returns] at h; cases h) (BodyLoose.notSynchronized Bd) e23 (fun fs hr => retN X23 hx (t := .boolean) Bd.returns (by simp) (hb hby at_228) hr) ⟨rfl, N23⟩ (by decide) (by decide)
        · by_cases hcb : cc.toInt = bb.toInt
          · refine own_pre (B := (T.setTop (mkF m 73 #[.val (.int p1), .val (.int p2), .val (.int p3), .val (.int p4), .val (.int aa), .val (.int bb), .val (.int cc), .val (.int kn), .val (.ref b1), .unset, .unset, .unset, .unset, .unset, .unset, .unset] [(.ref b1)]))) (fun t kt => ?_) ?_
            · show Steps p.tables e below (T.setTop (mkF m 71 _ [])) _
              refine XS.aload X.here hx rfl (hb hby at_71) rfl rfl ?_
              exact kt
            obtain ⟨cq24, kq24, q24a, q24b, q24c⟩ := isOf hZ eT M.1
            obtain ⟨_, _, ⟨T24, L24, k24, n24⟩, -, X24, ⟨Lc24, hQ24, l24, y24, z24⟩, st24⟩ := X.virtualBack hx (y := (⟨"com/example/faregraph/faregraph/search/Members", "clear", "()V"⟩ : MethodName)) (z := (⟨"com/example/faregraph/faregraph/search/Members", "clear", "()V"⟩ : MethodName)) hown (mvT hZ (hw _ (List.mem_of_getElem? (i := 22) rfl))) (mvT hZ (hw _ (List.mem_of_getElem? (i := 23) rfl))) (notFace_of_selects (args := #[]) (mvT hZ (hw _ (List.mem_of_getElem? (i := 25) rfl)))) (mvT hZ (hw _ (List.mem_of_getElem? (i := 25) rfl))) (mvT hZ (hw _ (List.mem_of_getElem? (i := 24) rfl))) (by decide) (backOf (W := 0) (rm4 l Z a0 hw [] b1 mb mc (4 : Int32) k f g h n0 Zh M (own_Inv_k inv) inv.2.2.2.1 inv.2.2.2.2) hZ (hw _ (List.mem_of_getElem? (i := 26) rfl)) (hw _ (List.mem_of_getElem? (i := 2) rfl)) (by decide) (by decide)) q24a q24c (g := (mkF m 73 #[.val (.int p1), .val (.int p2), .val (.int p3), .val (.int p4), .val (.int aa), .val (.int bb), .val (.int cc), .val (.int kn), .val (.ref b1), .unset, .unset, .unset, .unset, .unset, .unset, .unset] [(.ref b1)])) rfl (by rw [hml]; rfl) (Steps.refl _) (argsL := []) (rest := []) (lenOf pd_1 rfl) rfl (by show 2 * 0 + _ ≤ _; exact Nat.le_of_eq rfl) (hb hby at_73) (fun _ _ => ⟨rfl, eT, (by decide : 3 + 0 ≤ _), (by decide : 11 + 0 ≤ _)⟩)
            dsimp only [Pt.U, Pt.locs, Pt.cells, Pt.slots] at X24 l24 y24 z24 st24 hQ24
            subst l24 y24 z24
            obtain ⟨rfl, N24q, KK24, M24⟩ := hQ24
            have N24 := Fr.app N N24q
            refine own_pre (B := (T24.setTop (mkF m 78 #[.val (.int p1), .val (.int p2), .val (.int p3), .val (.int p4), .val (.int aa), .val (.int bb), .val (.int cc), .val (.int kn), .val (.ref b1), .unset, .unset, .unset, .unset, .unset, .unset, .unset] [(.ref b1)]))) (fun t kt => ?_) ?_
            · refine st24.trans ?_
              show Steps p.tables e below (T24.setTop (mkF m 76 _ [])) _
              refine XS.aload X24.here hx rfl (hb hby at_76) rfl rfl ?_
              exact kt
            obtain ⟨cq25, kq25, q25a, q25b, q25c⟩ := isOf hZ rfl M24.1
            obtain ⟨_, _, ⟨T25, L25, k25, n25⟩, -, X25, ⟨Lc25, hQ25, l25, y25, z25⟩, st25⟩ := X24.virtualBack hx (y := (⟨"com/example/faregraph/faregraph/search/Members", "count", "()I"⟩ : MethodName)) (z := (⟨"com/example/faregraph/faregraph/search/Members", "count", "()I"⟩ : MethodName)) hown (mvT hZ (hw _ (List.mem_of_getElem? (i := 27) rfl))) (mvT hZ (hw _ (List.mem_of_getElem? (i := 28) rfl))) (notFace_of_selects (args := #[]) (mvT hZ (hw _ (List.mem_of_getElem? (i := 30) rfl)))) (mvT hZ (hw _ (List.mem_of_getElem? (i := 30) rfl))) (mvT hZ (hw _ (List.mem_of_getElem? (i := 29) rfl))) (by decide) (backOf (W := 0) (rm5 l Z a0 hw [] b1 mb mc (4 : Int32) (0 : Int32) (fun _ => (0 : Int32)) g T24.heap n0 (Nat.le_trans Zh KK24.1) M24) hZ (hw _ (List.mem_of_getElem? (i := 31) rfl)) (hw _ (List.mem_of_getElem? (i := 2) rfl)) (by decide) (by decide)) q25a q25c (g := (mkF m 78 #[.val (.int p1), .val (.int p2), .val (.int p3), .val (.int p4), .val (.int aa), .val (.int bb), .val (.int cc), .val (.int kn), .val (.ref b1), .unset, .unset, .unset, .unset, .unset, .unset, .unset] [(.ref b1)])) rfl (by rw [hml]; rfl) (Steps.refl _) (argsL := []) (rest := []) (lenOf pd_3 rfl) rfl (by show 2 * 0 + _ ≤ _; exact Nat.le_of_eq rfl) (hb hby at_78) (fun _ _ => ⟨rfl, rfl, (by decide : 3 + 0 ≤ _), (by decide : 11 + 0 ≤ _)⟩)
            dsimp only [Pt.U, Pt.locs, Pt.cells, Pt.slots] at X25 l25 y25 z25 st25 hQ25
            subst l25 y25 z25
            obtain ⟨rfl, N25q, e25⟩ := hQ25
            have N25 := Fr.app N24 N25q
            refine own_pre (B := (T25.setTop (mkF m 95 #[.val (.int p1), .val (.int p2), .val (.int p3), .val (.int p4), .val (.int aa), .val (.int bb), .val (.int cc), .val (.int kn), .val (.ref b1), .val (.int (1 : Int32)), .unset, .unset, .unset, .unset, .unset, .unset] [(.int aa), (.ref b1)]))) (fun t kt => ?_) ?_
            · refine st25.trans ?_
              show Steps p.tables e below (T25.setTop (mkF m 81 _ [(.int (0 : Int32))])) _
              refine XS.ifNo X25.here hx rfl (hb hby at_81) rfl ((if0 _ _).trans (teq (rfl : (0 : Int32) = (0 : Int32))).2) ?_
              show Steps p.tables e below (T25.setTop (mkF m 84 _ [])) _
              refine XS.iconst X25.here hx rfl (hb hby at_84) ?_
              show Steps p.tables e below (T25.setTop (mkF m 85 _ [(.int (1 : Int32))])) _
              refine XS.goto X25.here hx rfl (pc0 := 85) (pc' := 89) rfl (hb hby at_85) (by decide) (by decide) ?_
              show Steps p.tables e below (T25.setTop (mkF m 89 _ [(.int (1 : Int32))])) _
              refine XS.istore X25.here hx rfl (hb hby at_89) rfl (l' := #[.val (.int p1), .val (.int p2), .val (.int p3), .val (.int p4), .val (.int aa), .val (.int bb), .val (.int cc), .val (.int kn), .val (.ref b1), .val (.int (1 : Int32)), .unset, .unset, .unset, .unset, .unset, .unset]) rfl ?_
              show Steps p.tables e below (T25.setTop (mkF m 91 _ [])) _
              refine XS.aload X25.here hx rfl (hb hby at_91) rfl rfl ?_
              show Steps p.tables e below (T25.setTop (mkF m 93 _ [(.ref b1)])) _
              refine XS.iload X25.here hx rfl (hb hby at_93) rfl ?_
              exact kt
            have hf_aa : (fun _ => (0 : Int32)) (aa).toNatClampNeg = 0 := by
              simp only [own_upd, own_tn]
            obtain ⟨cq26, kq26, q26a, q26b, q26c⟩ := isOf hZ e25 M24.1
            obtain ⟨_, _, ⟨T26, L26, k26, n26⟩, -, X26, ⟨Lc26, hQ26, l26, y26, z26⟩, st26⟩ := X25.virtualBack hx (y := (⟨"com/example/faregraph/faregraph/search/Members", "add", "(I)Z"⟩ : MethodName)) (z := (⟨"com/example/faregraph/faregraph/search/Members", "add", "(I)Z"⟩ : MethodName)) hown (mvT hZ (hw _ (List.mem_of_getElem? (i := 15) rfl))) (mvT hZ (hw _ (List.mem_of_getElem? (i := 16) rfl))) (notFace_of_selects (args := #[]) (mvT hZ (hw _ (List.mem_of_getElem? (i := 18) rfl)))) (mvT hZ (hw _ (List.mem_of_getElem? (i := 18) rfl))) (mvT hZ (hw _ (List.mem_of_getElem? (i := 17) rfl))) (by decide) (backOf (W := 0) (rm3n l Z a0 hw [] b1 mb mc (4 : Int32) (0 : Int32) (fun _ => (0 : Int32)) g aa T24.heap n0 (Nat.le_trans Zh KK24.1) M24 ra ⟨by decide, by decide⟩ hf_aa) hZ (hw _ (List.mem_of_getElem? (i := 19) rfl)) (hw _ (List.mem_of_getElem? (i := 2) rfl)) (by decide) (by decide)) q26a q26c (g := (mkF m 95 #[.val (.int p1), .val (.int p2), .val (.int p3), .val (.int p4), .val (.int aa), .val (.int bb), .val (.int cc), .val (.int kn), .val (.ref b1), .val (.int (1 : Int32)), .unset, .unset, .unset, .unset, .unset, .unset] [(.int aa), (.ref b1)])) rfl (by rw [hml]; rfl) (Steps.refl _) (argsL := [(.int aa)]) (rest := []) (lenOf pd_2 rfl) rfl (by show 2 * 0 + _ ≤ _; exact Nat.le_of_eq rfl) (hb hby at_95) (fun _ _ => ⟨rfl, e25, (by decide : 3 + 0 ≤ _), (by decide : 11 + 0 ≤ _)⟩)
            dsimp only [Pt.U, Pt.locs, Pt.cells, Pt.slots] at X26 l26 y26 z26 st26 hQ26
            subst l26 y26 z26
            obtain ⟨rfl, N26q, KK26, M26⟩ := hQ26
            have N26 := Fr.app N25 N26q
            refine own_pre (B := (T26.setTop (mkF m 104 #[.val (.int p1), .val (.int p2), .val (.int p3), .val (.int p4), .val (.int aa), .val (.int bb), .val (.int cc), .val (.int kn), .val (.ref b1), .val (.int (1 : Int32)), .val (.int (1 : Int32)), .unset, .unset, .unset, .unset, .unset] [(.int bb), (.ref b1)]))) (fun t kt => ?_) ?_
            · refine st26.trans ?_
              show Steps p.tables e below (T26.setTop (mkF m 98 _ [(.int (1 : Int32))])) _
              refine XS.istore X26.here hx rfl (hb hby at_98) rfl (l' := #[.val (.int p1), .val (.int p2), .val (.int p3), .val (.int p4), .val (.int aa), .val (.int bb), .val (.int cc), .val (.int kn), .val (.ref b1), .val (.int (1 : Int32)), .val (.int (1 : Int32)), .unset, .unset, .unset, .unset, .unset]) rfl ?_
              show Steps p.tables e below (T26.setTop (mkF m 100 _ [])) _
              refine XS.aload X26.here hx rfl (hb hby at_100) rfl rfl ?_
              show Steps p.tables e below (T26.setTop (mkF m 102 _ [(.ref b1)])) _
              refine XS.iload X26.here hx rfl (hb hby at_102) rfl ?_
              exact kt
            have hf_bb : (own_upd (fun _ => (0 : Int32)) (aa).toNatClampNeg 1) (bb).toNatClampNeg = 0 := by
              simp only [own_upd, own_tn]
              repeat' split
              all_goals first | rfl | (exfalso; omega)
            obtain ⟨cq27, kq27, q27a, q27b, q27c⟩ := isOf hZ rfl M26.1
            obtain ⟨_, _, ⟨T27, L27, k27, n27⟩, -, X27, ⟨Lc27, hQ27, l27, y27, z27⟩, st27⟩ := X26.virtualBack hx (y := (⟨"com/example/faregraph/faregraph/search/Members", "add", "(I)Z"⟩ : MethodName)) (z := (⟨"com/example/faregraph/faregraph/search/Members", "add", "(I)Z"⟩ : MethodName)) hown (mvT hZ (hw _ (List.mem_of_getElem? (i := 15) rfl))) (mvT hZ (hw _ (List.mem_of_getElem? (i := 16) rfl))) (notFace_of_selects (args := #[]) (mvT hZ (hw _ (List.mem_of_getElem? (i := 18) rfl)))) (mvT hZ (hw _ (List.mem_of_getElem? (i := 18) rfl))) (mvT hZ (hw _ (List.mem_of_getElem? (i := 17) rfl))) (by decide) (backOf (W := 0) (rm3n l Z a0 hw [] b1 mb mc (4 : Int32) ((0 : Int32) + (1 : Int32)) (own_upd (fun _ => (0 : Int32)) (aa).toNatClampNeg 1) (own_upd g ((0 : Int32)).toNatClampNeg aa) bb T26.heap n0 (Nat.le_trans (Nat.le_trans Zh KK24.1) KK26.1) M26 rb ⟨by decide, by decide⟩ hf_bb) hZ (hw _ (List.mem_of_getElem? (i := 19) rfl)) (hw _ (List.mem_of_getElem? (i := 2) rfl)) (by decide) (by decide)) q27a q27c (g := (mkF m 104 #[.val (.int p1), .val (.int p2), .val (.int p3), .val (.int p4), .val (.int aa), .val (.int bb), .val (.int cc), .val (.int kn), .val (.ref b1), .val (.int (1 : Int32)), .val (.int (1 : Int32)), .unset, .unset, .unset, .unset, .unset] [(.int bb), (.ref b1)])) rfl (by rw [hml]; rfl) (Steps.refl _) (argsL := [(.int bb)]) (rest := []) (lenOf pd_2 rfl) rfl (by show 2 * 0 + _ ≤ _; exact Nat.le_of_eq rfl) (hb hby at_104) (fun _ _ => ⟨rfl, rfl, (by decide : 3 + 0 ≤ _), (by decide : 11 + 0 ≤ _)⟩)
            dsimp only [Pt.U, Pt.locs, Pt.cells, Pt.slots] at X27 l27 y27 z27 st27 hQ27
            subst l27 y27 z27
            obtain ⟨rfl, N27q, KK27, M27⟩ := hQ27
            have N27 := Fr.app N26 N27q
            refine own_pre (B := (T27.setTop (mkF m 113 #[.val (.int p1), .val (.int p2), .val (.int p3), .val (.int p4), .val (.int aa), .val (.int bb), .val (.int cc), .val (.int kn), .val (.ref b1), .val (.int (1 : Int32)), .val (.int (1 : Int32)), .val (.int (1 : Int32)), .unset, .unset, .unset, .unset] [(.int cc), (.ref b1)]))) (fun t kt => ?_) ?_
            · refine st27.trans ?_
              show Steps p.tables e below (T27.setTop (mkF m 107 _ [(.int (1 : Int32))])) _
              refine XS.istore X27.here hx rfl (hb hby at_107) rfl (l' := #[.val (.int p1), .val (.int p2), .val (.int p3), .val (.int p4), .val (.int aa), .val (.int bb), .val (.int cc), .val (.int kn), .val (.ref b1), .val (.int (1 : Int32)), .val (.int (1 : Int32)), .val (.int (1 : Int32)), .unset, .unset, .unset, .unset]) rfl ?_
              show Steps p.tables e below (T27.setTop (mkF m 109 _ [])) _
              refine XS.aload X27.here hx rfl (hb hby at_109) rfl rfl ?_
              show Steps p.tables e below (T27.setTop (mkF m 111 _ [(.ref b1)])) _
              refine XS.iload X27.here hx rfl (hb hby at_111) rfl ?_
              exact kt
            have hf_cc : (own_upd (own_upd (fun _ => (0 : Int32)) (aa).toNatClampNeg 1) (bb).toNatClampNeg 1) (cc).toNatClampNeg = 1 := by
              simp only [own_upd, own_tn]
              repeat' split
              all_goals first | rfl | (exfalso; omega)
            obtain ⟨cq28, kq28, q28a, q28b, q28c⟩ := isOf hZ rfl M27.1
            obtain ⟨_, _, ⟨T28, L28, k28, n28⟩, -, X28, ⟨Lc28, hQ28, l28, y28, z28⟩, st28⟩ := X27.virtualBack hx (y := (⟨"com/example/faregraph/faregraph/search/Members", "add", "(I)Z"⟩ : MethodName)) (z := (⟨"com/example/faregraph/faregraph/search/Members", "add", "(I)Z"⟩ : MethodName)) hown (mvT hZ (hw _ (List.mem_of_getElem? (i := 15) rfl))) (mvT hZ (hw _ (List.mem_of_getElem? (i := 16) rfl))) (notFace_of_selects (args := #[]) (mvT hZ (hw _ (List.mem_of_getElem? (i := 18) rfl)))) (mvT hZ (hw _ (List.mem_of_getElem? (i := 18) rfl))) (mvT hZ (hw _ (List.mem_of_getElem? (i := 17) rfl))) (by decide) (backOf (W := 0) (rm3y l Z a0 hw [] b1 mb mc (4 : Int32) (((0 : Int32) + (1 : Int32)) + (1 : Int32)) (own_upd (own_upd (fun _ => (0 : Int32)) (aa).toNatClampNeg 1) (bb).toNatClampNeg 1) (own_upd (own_upd g ((0 : Int32)).toNatClampNeg aa) (((0 : Int32) + (1 : Int32))).toNatClampNeg bb) cc T27.heap n0 (Nat.le_trans (Nat.le_trans (Nat.le_trans Zh KK24.1) KK26.1) KK27.1) M27 rc hf_cc) hZ (hw _ (List.mem_of_getElem? (i := 19) rfl)) (hw _ (List.mem_of_getElem? (i := 2) rfl)) (by decide) (by decide)) q28a q28c (g := (mkF m 113 #[.val (.int p1), .val (.int p2), .val (.int p3), .val (.int p4), .val (.int aa), .val (.int bb), .val (.int cc), .val (.int kn), .val (.ref b1), .val (.int (1 : Int32)), .val (.int (1 : Int32)), .val (.int (1 : Int32)), .unset, .unset, .unset, .unset] [(.int cc), (.ref b1)])) rfl (by rw [hml]; rfl) (Steps.refl _) (argsL := [(.int cc)]) (rest := []) (lenOf pd_2 rfl) rfl (by show 2 * 0 + _ ≤ _; exact Nat.le_of_eq rfl) (hb hby at_113) (fun _ _ => ⟨rfl, rfl, (by decide : 3 + 0 ≤ _), (by decide : 11 + 0 ≤ _)⟩)
            dsimp only [Pt.U, Pt.locs, Pt.cells, Pt.slots] at X28 l28 y28 z28 st28 hQ28
            subst l28 y28 z28
            obtain ⟨rfl, N28q, e28⟩ := hQ28
            have N28 := Fr.app N27 N28q
            refine own_pre (B := (T28.setTop (mkF m 204 #[.val (.int p1), .val (.int p2), .val (.int p3), .val (.int p4), .val (.int aa), .val (.int bb), .val (.int cc), .val (.int kn), .val (.ref b1), .val (.int (1 : Int32)), .val (.int (1 : Int32)), .val (.int (1 : Int32)), .val (.int (0 : Int32)), .val (.int (1 : Int32)), .val (.int (0 : Int32)), .val (.int (((1 : Int32) + (1 : Int32)) + (0 : Int32)))] [(.ref b1)]))) (fun t kt => ?_) ?_
            · refine st28.trans ?_
              show Steps p.tables e below (T28.setTop (mkF m 116 _ [(.int (0 : Int32))])) _
              refine XS.istore X28.here hx rfl (hb hby at_116) rfl (l' := #[.val (.int p1), .val (.int p2), .val (.int p3), .val (.int p4), .val (.int aa), .val (.int bb), .val (.int cc), .val (.int kn), .val (.ref b1), .val (.int (1 : Int32)), .val (.int (1 : Int32)), .val (.int (1 : Int32)), .val (.int (0 : Int32)), .unset, .unset, .unset]) rfl ?_
              show Steps p.tables e below (T28.setTop (mkF m 118 _ [])) _
              refine XS.iload X28.here hx rfl (hb hby at_118) rfl ?_
              show Steps p.tables e below (T28.setTop (mkF m 120 _ [(.int bb)])) _
              refine XS.iload X28.here hx rfl (hb hby at_120) rfl ?_
              show Steps p.tables e below (T28.setTop (mkF m 122 _ [(.int aa), (.int bb)])) _
              refine XS.icmpNo X28.here hx rfl (hb hby at_122) rfl (feq ((fun q => hba (congrArg Int32.toInt q)) : ¬ (bb = aa))).1 ?_
              show Steps p.tables e below (T28.setTop (mkF m 125 _ [])) _
              refine XS.iconst X28.here hx rfl (hb hby at_125) ?_
              show Steps p.tables e below (T28.setTop (mkF m 126 _ [(.int (1 : Int32))])) _
              refine XS.goto X28.here hx rfl (pc0 := 126) (pc' := 130) rfl (hb hby at_126) (by decide) (by decide) ?_
              show Steps p.tables e below (T28.setTop (mkF m 130 _ [(.int (1 : Int32))])) _
              refine XS.istore X28.here hx rfl (hb hby at_130) rfl (l' := #[.val (.int p1), .val (.int p2), .val (.int p3), .val (.int p4), .val (.int aa), .val (.int bb), .val (.int cc), .val (.int kn), .val (.ref b1), .val (.int (1 : Int32)), .val (.int (1 : Int32)), .val (.int (1 : Int32)), .val (.int (0 : Int32)), .val (.int (1 : Int32)), .unset, .unset]) rfl ?_
              show Steps p.tables e below (T28.setTop (mkF m 132 _ [])) _
              refine XS.iload X28.here hx rfl (hb hby at_132) rfl ?_
              show Steps p.tables e below (T28.setTop (mkF m 134 _ [(.int cc)])) _
              refine XS.iload X28.here hx rfl (hb hby at_134) rfl ?_
              show Steps p.tables e below (T28.setTop (mkF m 136 _ [(.int aa), (.int cc)])) _
              refine XS.icmpNo X28.here hx rfl (hb hby at_136) rfl (feq ((fun q => hca (congrArg Int32.toInt q)) : ¬ (cc = aa))).1 ?_
              show Steps p.tables e below (T28.setTop (mkF m 139 _ [])) _
              refine XS.iload X28.here hx rfl (hb hby at_139) rfl ?_
              show Steps p.tables e below (T28.setTop (mkF m 141 _ [(.int cc)])) _
              refine XS.iload X28.here hx rfl (hb hby at_141) rfl ?_
              show Steps p.tables e below (T28.setTop (mkF m 143 _ [(.int bb), (.int cc)])) _
              refine XS.icmpYes X28.here hx rfl (pc0 := 143) (pc' := 150) rfl (hb hby at_143) rfl (teq ((Int32.toInt_inj.mp hcb) : cc = bb)).1 (by decide) (by decide) ?_
              show Steps p.tables e below (T28.setTop (mkF m 150 _ [])) _
              refine XS.iconst X28.here hx rfl (hb hby at_150) ?_
              show Steps p.tables e below (T28.setTop (mkF m 151 _ [(.int (0 : Int32))])) _
              refine XS.istore X28.here hx rfl (hb hby at_151) rfl (l' := #[.val (.int p1), .val (.int p2), .val (.int p3), .val (.int p4), .val (.int aa), .val (.int bb), .val (.int cc), .val (.int kn), .val (.ref b1), .val (.int (1 : Int32)), .val (.int (1 : Int32)), .val (.int (1 : Int32)), .val (.int (0 : Int32)), .val (.int (1 : Int32)), .val (.int (0 : Int32)), .unset]) rfl ?_
              show Steps p.tables e below (T28.setTop (mkF m 153 _ [])) _
              refine XS.iconst X28.here hx rfl (hb hby at_153) ?_
              show Steps p.tables e below (T28.setTop (mkF m 154 _ [(.int (1 : Int32))])) _
              refine XS.iload X28.here hx rfl (hb hby at_154) rfl ?_
              show Steps p.tables e below (T28.setTop (mkF m 156 _ [(.int (1 : Int32)), (.int (1 : Int32))])) _
              refine XS.ifNo X28.here hx rfl (hb hby at_156) rfl ((if0 _ _).trans (feq ((by decide) : ¬ ((1 : Int32) = (0 : Int32)))).1) ?_
              show Steps p.tables e below (T28.setTop (mkF m 159 _ [(.int (1 : Int32))])) _
              refine XS.iconst X28.here hx rfl (hb hby at_159) ?_
              show Steps p.tables e below (T28.setTop (mkF m 160 _ [(.int (1 : Int32)), (.int (1 : Int32))])) _
              refine XS.goto X28.here hx rfl (pc0 := 160) (pc' := 164) rfl (hb hby at_160) (by decide) (by decide) ?_
              show Steps p.tables e below (T28.setTop (mkF m 164 _ [(.int (1 : Int32)), (.int (1 : Int32))])) _
              refine XS.iadd X28.here hx rfl (hb hby at_164) rfl ?_
              show Steps p.tables e below (T28.setTop (mkF m 165 _ [(.int ((1 : Int32) + (1 : Int32)))])) _
              refine XS.iload X28.here hx rfl (hb hby at_165) rfl ?_
              show Steps p.tables e below (T28.setTop (mkF m 167 _ [(.int (0 : Int32)), (.int ((1 : Int32) + (1 : Int32)))])) _
              refine XS.ifYes X28.here hx rfl (pc0 := 167) (pc' := 174) rfl (hb hby at_167) rfl ((if0 _ _).trans (teq (rfl : (0 : Int32) = (0 : Int32))).1) (by decide) (by decide) ?_
              show Steps p.tables e below (T28.setTop (mkF m 174 _ [(.int ((1 : Int32) + (1 : Int32)))])) _
              refine XS.iconst X28.here hx rfl (hb hby at_174) ?_
              show Steps p.tables e below (T28.setTop (mkF m 175 _ [(.int (0 : Int32)), (.int ((1 : Int32) + (1 : Int32)))])) _
              refine XS.iadd X28.here hx rfl (hb hby at_175) rfl ?_
              show Steps p.tables e below (T28.setTop (mkF m 176 _ [(.int (((1 : Int32) + (1 : Int32)) + (0 : Int32)))])) _
              refine XS.istore X28.here hx rfl (hb hby at_176) rfl (l' := #[.val (.int p1), .val (.int p2), .val (.int p3), .val (.int p4), .val (.int aa), .val (.int bb), .val (.int cc), .val (.int kn), .val (.ref b1), .val (.int (1 : Int32)), .val (.int (1 : Int32)), .val (.int (1 : Int32)), .val (.int (0 : Int32)), .val (.int (1 : Int32)), .val (.int (0 : Int32)), .val (.int (((1 : Int32) + (1 : Int32)) + (0 : Int32)))]) rfl ?_
              show Steps p.tables e below (T28.setTop (mkF m 178 _ [])) _
              refine XS.iload X28.here hx rfl (hb hby at_178) rfl ?_
              show Steps p.tables e below (T28.setTop (mkF m 180 _ [(.int (1 : Int32))])) _
              refine XS.ifNo X28.here hx rfl (hb hby at_180) rfl ((if0 _ _).trans (feq ((by decide) : ¬ ((1 : Int32) = (0 : Int32)))).1) ?_
              show Steps p.tables e below (T28.setTop (mkF m 183 _ [])) _
              refine XS.iload X28.here hx rfl (hb hby at_183) rfl ?_
              show Steps p.tables e below (T28.setTop (mkF m 185 _ [(.int (1 : Int32))])) _
              refine XS.ifNo X28.here hx rfl (hb hby at_185) rfl ((if0 _ _).trans (feq ((by decide) : ¬ ((1 : Int32) = (0 : Int32)))).1) ?_
              show Steps p.tables e below (T28.setTop (mkF m 188 _ [])) _
              refine XS.iload X28.here hx rfl (hb hby at_188) rfl ?_
              show Steps p.tables e below (T28.setTop (mkF m 190 _ [(.int (1 : Int32))])) _
              refine XS.iload X28.here hx rfl (hb hby at_190) rfl ?_
              show Steps p.tables e below (T28.setTop (mkF m 192 _ [(.int (1 : Int32)), (.int (1 : Int32))])) _
              refine XS.icmpNo X28.here hx rfl (hb hby at_192) rfl (teq (rfl : (1 : Int32) = (1 : Int32))).2 ?_
              show Steps p.tables e below (T28.setTop (mkF m 195 _ [])) _
              refine XS.iload X28.here hx rfl (hb hby at_195) rfl ?_
              show Steps p.tables e below (T28.setTop (mkF m 197 _ [(.int (0 : Int32))])) _
              refine XS.iload X28.here hx rfl (hb hby at_197) rfl ?_
              show Steps p.tables e below (T28.setTop (mkF m 199 _ [(.int (0 : Int32)), (.int (0 : Int32))])) _
              refine XS.icmpNo X28.here hx rfl (hb hby at_199) rfl (teq (rfl : (0 : Int32) = (0 : Int32))).2 ?_
              show Steps p.tables e below (T28.setTop (mkF m 202 _ [])) _
              refine XS.aload X28.here hx rfl (hb hby at_202) rfl rfl ?_
              exact kt
            obtain ⟨cq29, kq29, q29a, q29b, q29c⟩ := isOf hZ e28 M27.1
            obtain ⟨_, _, ⟨T29, L29, k29, n29⟩, -, X29, ⟨Lc29, hQ29, l29, y29, z29⟩, st29⟩ := X28.virtualBack hx (y := (⟨"com/example/faregraph/faregraph/search/Members", "count", "()I"⟩ : MethodName)) (z := (⟨"com/example/faregraph/faregraph/search/Members", "count", "()I"⟩ : MethodName)) hown (mvT hZ (hw _ (List.mem_of_getElem? (i := 27) rfl))) (mvT hZ (hw _ (List.mem_of_getElem? (i := 28) rfl))) (notFace_of_selects (args := #[]) (mvT hZ (hw _ (List.mem_of_getElem? (i := 30) rfl)))) (mvT hZ (hw _ (List.mem_of_getElem? (i := 30) rfl))) (mvT hZ (hw _ (List.mem_of_getElem? (i := 29) rfl))) (by decide) (backOf (W := 0) (rm5 l Z a0 hw [] b1 mb mc (4 : Int32) (((0 : Int32) + (1 : Int32)) + (1 : Int32)) (own_upd (own_upd (fun _ => (0 : Int32)) (aa).toNatClampNeg 1) (bb).toNatClampNeg 1) (own_upd (own_upd g ((0 : Int32)).toNatClampNeg aa) (((0 : Int32) + (1 : Int32))).toNatClampNeg bb) T27.heap n0 (Nat.le_trans (Nat.le_trans (Nat.le_trans Zh KK24.1) KK26.1) KK27.1) M27) hZ (hw _ (List.mem_of_getElem? (i := 31) rfl)) (hw _ (List.mem_of_getElem? (i := 2) rfl)) (by decide) (by decide)) q29a q29c (g := (mkF m 204 #[.val (.int p1), .val (.int p2), .val (.int p3), .val (.int p4), .val (.int aa), .val (.int bb), .val (.int cc), .val (.int kn), .val (.ref b1), .val (.int (1 : Int32)), .val (.int (1 : Int32)), .val (.int (1 : Int32)), .val (.int (0 : Int32)), .val (.int (1 : Int32)), .val (.int (0 : Int32)), .val (.int (((1 : Int32) + (1 : Int32)) + (0 : Int32)))] [(.ref b1)])) rfl (by rw [hml]; rfl) (Steps.refl _) (argsL := []) (rest := []) (lenOf pd_3 rfl) rfl (by show 2 * 0 + _ ≤ _; exact Nat.le_of_eq rfl) (hb hby at_204) (fun _ _ => ⟨rfl, e28, (by decide : 3 + 0 ≤ _), (by decide : 11 + 0 ≤ _)⟩)
            dsimp only [Pt.U, Pt.locs, Pt.cells, Pt.slots] at X29 l29 y29 z29 st29 hQ29
            subst l29 y29 z29
            obtain ⟨rfl, N29q, e29⟩ := hQ29
            have N29 := Fr.app N28 N29q
            refine own_pre (B := (T29.setTop (mkF m 215 #[.val (.int p1), .val (.int p2), .val (.int p3), .val (.int p4), .val (.int aa), .val (.int bb), .val (.int cc), .val (.int kn), .val (.ref b1), .val (.int (1 : Int32)), .val (.int (1 : Int32)), .val (.int (1 : Int32)), .val (.int (0 : Int32)), .val (.int (1 : Int32)), .val (.int (0 : Int32)), .val (.int (((1 : Int32) + (1 : Int32)) + (0 : Int32)))] [(.int (0 : Int32)), (.ref b1)]))) (fun t kt => ?_) ?_
            · refine st29.trans ?_
              show Steps p.tables e below (T29.setTop (mkF m 207 _ [(.int (((0 : Int32) + (1 : Int32)) + (1 : Int32)))])) _
              refine XS.iload X29.here hx rfl (hb hby at_207) rfl ?_
              show Steps p.tables e below (T29.setTop (mkF m 209 _ [(.int (((1 : Int32) + (1 : Int32)) + (0 : Int32))), (.int (((0 : Int32) + (1 : Int32)) + (1 : Int32)))])) _
              refine XS.icmpNo X29.here hx rfl (hb hby at_209) rfl (teq ((by decide) : (((0 : Int32) + (1 : Int32)) + (1 : Int32)) = (((1 : Int32) + (1 : Int32)) + (0 : Int32)))).2 ?_
              show Steps p.tables e below (T29.setTop (mkF m 212 _ [])) _
              refine XS.aload X29.here hx rfl (hb hby at_212) rfl rfl ?_
              show Steps p.tables e below (T29.setTop (mkF m 214 _ [(.ref b1)])) _
              refine XS.iconst X29.here hx rfl (hb hby at_214) ?_
              exact kt
            have pg30 : (own_upd (own_upd g ((0 : Int32)).toNatClampNeg aa) (((0 : Int32) + (1 : Int32))).toNatClampNeg bb) ((0 : Int32)).toNatClampNeg = aa := ((own_upd_ne (by decide)).trans (own_upd_hit (by decide)))
            obtain ⟨cq30, kq30, q30a, q30b, q30c⟩ := isOf hZ e29 M27.1
            obtain ⟨_, _, ⟨T30, L30, k30, n30⟩, -, X30, ⟨Lc30, hQ30, l30, y30, z30⟩, st30⟩ := X29.virtualBack hx (y := (⟨"com/example/faregraph/faregraph/search/Members", "get", "(I)I"⟩ : MethodName)) (z := (⟨"com/example/faregraph/faregraph/search/Members", "get", "(I)I"⟩ : MethodName)) hown (mvT hZ (hw _ (List.mem_of_getElem? (i := 32) rfl))) (mvT hZ (hw _ (List.mem_of_getElem? (i := 33) rfl))) (notFace_of_selects (args := #[]) (mvT hZ (hw _ (List.mem_of_getElem? (i := 35) rfl)))) (mvT hZ (hw _ (List.mem_of_getElem? (i := 35) rfl))) (mvT hZ (hw _ (List.mem_of_getElem? (i := 34) rfl))) (by decide) (backOf (W := 0) (rm6 l Z a0 hw [] b1 mb mc (4 : Int32) (((0 : Int32) + (1 : Int32)) + (1 : Int32)) (own_upd (own_upd (fun _ => (0 : Int32)) (aa).toNatClampNeg 1) (bb).toNatClampNeg 1) (own_upd (own_upd g ((0 : Int32)).toNatClampNeg aa) (((0 : Int32) + (1 : Int32))).toNatClampNeg bb) (0 : Int32) aa T27.heap n0 (Nat.le_trans (Nat.le_trans (Nat.le_trans Zh KK24.1) KK26.1) KK27.1) M27 ⟨by decide, by decide⟩ pg30) hZ (hw _ (List.mem_of_getElem? (i := 36) rfl)) (hw _ (List.mem_of_getElem? (i := 2) rfl)) (by decide) (by decide)) q30a q30c (g := (mkF m 215 #[.val (.int p1), .val (.int p2), .val (.int p3), .val (.int p4), .val (.int aa), .val (.int bb), .val (.int cc), .val (.int kn), .val (.ref b1), .val (.int (1 : Int32)), .val (.int (1 : Int32)), .val (.int (1 : Int32)), .val (.int (0 : Int32)), .val (.int (1 : Int32)), .val (.int (0 : Int32)), .val (.int (((1 : Int32) + (1 : Int32)) + (0 : Int32)))] [(.int (0 : Int32)), (.ref b1)])) rfl (by rw [hml]; rfl) (Steps.refl _) (argsL := [(.int (0 : Int32))]) (rest := []) (lenOf pd_4 rfl) rfl (by show 2 * 0 + _ ≤ _; exact Nat.le_of_eq rfl) (hb hby at_215) (fun _ _ => ⟨rfl, e29, (by decide : 3 + 0 ≤ _), (by decide : 11 + 0 ≤ _)⟩)
            dsimp only [Pt.U, Pt.locs, Pt.cells, Pt.slots] at X30 l30 y30 z30 st30 hQ30
            subst l30 y30 z30
            obtain ⟨rfl, N30q, e30⟩ := hQ30
            have N30 := Fr.app N29 N30q
            refine own_pre (B := (T30.setTop (mkF m 228 #[.val (.int p1), .val (.int p2), .val (.int p3), .val (.int p4), .val (.int aa), .val (.int bb), .val (.int cc), .val (.int kn), .val (.ref b1), .val (.int (1 : Int32)), .val (.int (1 : Int32)), .val (.int (1 : Int32)), .val (.int (0 : Int32)), .val (.int (1 : Int32)), .val (.int (0 : Int32)), .val (.int (((1 : Int32) + (1 : Int32)) + (0 : Int32)))] [(.int (1 : Int32))]))) (fun t kt => ?_) ?_
            · refine st30.trans ?_
              show Steps p.tables e below (T30.setTop (mkF m 218 _ [(.int aa)])) _
              refine XS.iload X30.here hx rfl (hb hby at_218) rfl ?_
              show Steps p.tables e below (T30.setTop (mkF m 220 _ [(.int aa), (.int aa)])) _
              refine XS.icmpNo X30.here hx rfl (hb hby at_220) rfl (teq (rfl : aa = aa)).2 ?_
              show Steps p.tables e below (T30.setTop (mkF m 223 _ [])) _
              refine XS.iconst X30.here hx rfl (hb hby at_223) ?_
              show Steps p.tables e below (T30.setTop (mkF m 224 _ [(.int (1 : Int32))])) _
              refine XS.goto X30.here hx rfl (pc0 := 224) (pc' := 228) rfl (hb hby at_224) (by decide) (by decide) ?_
              exact kt
            exact own_fin X30 (some (.int (1 : Int32))) (fun h => by rw [Bd.returns] at h; cases h) (BodyLoose.notSynchronized Bd) e30 (fun fs hr => retN X30 hx (t := .boolean) Bd.returns (by simp) (hb hby at_228) hr) ⟨rfl, N30⟩ (by decide) (by decide)
          · refine own_pre (B := (T.setTop (mkF m 73 #[.val (.int p1), .val (.int p2), .val (.int p3), .val (.int p4), .val (.int aa), .val (.int bb), .val (.int cc), .val (.int kn), .val (.ref b1), .unset, .unset, .unset, .unset, .unset, .unset, .unset] [(.ref b1)]))) (fun t kt => ?_) ?_
            · show Steps p.tables e below (T.setTop (mkF m 71 _ [])) _
              refine XS.aload X.here hx rfl (hb hby at_71) rfl rfl ?_
              exact kt
            obtain ⟨cq31, kq31, q31a, q31b, q31c⟩ := isOf hZ eT M.1
            obtain ⟨_, _, ⟨T31, L31, k31, n31⟩, -, X31, ⟨Lc31, hQ31, l31, y31, z31⟩, st31⟩ := X.virtualBack hx (y := (⟨"com/example/faregraph/faregraph/search/Members", "clear", "()V"⟩ : MethodName)) (z := (⟨"com/example/faregraph/faregraph/search/Members", "clear", "()V"⟩ : MethodName)) hown (mvT hZ (hw _ (List.mem_of_getElem? (i := 22) rfl))) (mvT hZ (hw _ (List.mem_of_getElem? (i := 23) rfl))) (notFace_of_selects (args := #[]) (mvT hZ (hw _ (List.mem_of_getElem? (i := 25) rfl)))) (mvT hZ (hw _ (List.mem_of_getElem? (i := 25) rfl))) (mvT hZ (hw _ (List.mem_of_getElem? (i := 24) rfl))) (by decide) (backOf (W := 0) (rm4 l Z a0 hw [] b1 mb mc (4 : Int32) k f g h n0 Zh M (own_Inv_k inv) inv.2.2.2.1 inv.2.2.2.2) hZ (hw _ (List.mem_of_getElem? (i := 26) rfl)) (hw _ (List.mem_of_getElem? (i := 2) rfl)) (by decide) (by decide)) q31a q31c (g := (mkF m 73 #[.val (.int p1), .val (.int p2), .val (.int p3), .val (.int p4), .val (.int aa), .val (.int bb), .val (.int cc), .val (.int kn), .val (.ref b1), .unset, .unset, .unset, .unset, .unset, .unset, .unset] [(.ref b1)])) rfl (by rw [hml]; rfl) (Steps.refl _) (argsL := []) (rest := []) (lenOf pd_1 rfl) rfl (by show 2 * 0 + _ ≤ _; exact Nat.le_of_eq rfl) (hb hby at_73) (fun _ _ => ⟨rfl, eT, (by decide : 3 + 0 ≤ _), (by decide : 11 + 0 ≤ _)⟩)
            dsimp only [Pt.U, Pt.locs, Pt.cells, Pt.slots] at X31 l31 y31 z31 st31 hQ31
            subst l31 y31 z31
            obtain ⟨rfl, N31q, KK31, M31⟩ := hQ31
            have N31 := Fr.app N N31q
            refine own_pre (B := (T31.setTop (mkF m 78 #[.val (.int p1), .val (.int p2), .val (.int p3), .val (.int p4), .val (.int aa), .val (.int bb), .val (.int cc), .val (.int kn), .val (.ref b1), .unset, .unset, .unset, .unset, .unset, .unset, .unset] [(.ref b1)]))) (fun t kt => ?_) ?_
            · refine st31.trans ?_
              show Steps p.tables e below (T31.setTop (mkF m 76 _ [])) _
              refine XS.aload X31.here hx rfl (hb hby at_76) rfl rfl ?_
              exact kt
            obtain ⟨cq32, kq32, q32a, q32b, q32c⟩ := isOf hZ rfl M31.1
            obtain ⟨_, _, ⟨T32, L32, k32, n32⟩, -, X32, ⟨Lc32, hQ32, l32, y32, z32⟩, st32⟩ := X31.virtualBack hx (y := (⟨"com/example/faregraph/faregraph/search/Members", "count", "()I"⟩ : MethodName)) (z := (⟨"com/example/faregraph/faregraph/search/Members", "count", "()I"⟩ : MethodName)) hown (mvT hZ (hw _ (List.mem_of_getElem? (i := 27) rfl))) (mvT hZ (hw _ (List.mem_of_getElem? (i := 28) rfl))) (notFace_of_selects (args := #[]) (mvT hZ (hw _ (List.mem_of_getElem? (i := 30) rfl)))) (mvT hZ (hw _ (List.mem_of_getElem? (i := 30) rfl))) (mvT hZ (hw _ (List.mem_of_getElem? (i := 29) rfl))) (by decide) (backOf (W := 0) (rm5 l Z a0 hw [] b1 mb mc (4 : Int32) (0 : Int32) (fun _ => (0 : Int32)) g T31.heap n0 (Nat.le_trans Zh KK31.1) M31) hZ (hw _ (List.mem_of_getElem? (i := 31) rfl)) (hw _ (List.mem_of_getElem? (i := 2) rfl)) (by decide) (by decide)) q32a q32c (g := (mkF m 78 #[.val (.int p1), .val (.int p2), .val (.int p3), .val (.int p4), .val (.int aa), .val (.int bb), .val (.int cc), .val (.int kn), .val (.ref b1), .unset, .unset, .unset, .unset, .unset, .unset, .unset] [(.ref b1)])) rfl (by rw [hml]; rfl) (Steps.refl _) (argsL := []) (rest := []) (lenOf pd_3 rfl) rfl (by show 2 * 0 + _ ≤ _; exact Nat.le_of_eq rfl) (hb hby at_78) (fun _ _ => ⟨rfl, rfl, (by decide : 3 + 0 ≤ _), (by decide : 11 + 0 ≤ _)⟩)
            dsimp only [Pt.U, Pt.locs, Pt.cells, Pt.slots] at X32 l32 y32 z32 st32 hQ32
            subst l32 y32 z32
            obtain ⟨rfl, N32q, e32⟩ := hQ32
            have N32 := Fr.app N31 N32q
            refine own_pre (B := (T32.setTop (mkF m 95 #[.val (.int p1), .val (.int p2), .val (.int p3), .val (.int p4), .val (.int aa), .val (.int bb), .val (.int cc), .val (.int kn), .val (.ref b1), .val (.int (1 : Int32)), .unset, .unset, .unset, .unset, .unset, .unset] [(.int aa), (.ref b1)]))) (fun t kt => ?_) ?_
            · refine st32.trans ?_
              show Steps p.tables e below (T32.setTop (mkF m 81 _ [(.int (0 : Int32))])) _
              refine XS.ifNo X32.here hx rfl (hb hby at_81) rfl ((if0 _ _).trans (teq (rfl : (0 : Int32) = (0 : Int32))).2) ?_
              show Steps p.tables e below (T32.setTop (mkF m 84 _ [])) _
              refine XS.iconst X32.here hx rfl (hb hby at_84) ?_
              show Steps p.tables e below (T32.setTop (mkF m 85 _ [(.int (1 : Int32))])) _
              refine XS.goto X32.here hx rfl (pc0 := 85) (pc' := 89) rfl (hb hby at_85) (by decide) (by decide) ?_
              show Steps p.tables e below (T32.setTop (mkF m 89 _ [(.int (1 : Int32))])) _
              refine XS.istore X32.here hx rfl (hb hby at_89) rfl (l' := #[.val (.int p1), .val (.int p2), .val (.int p3), .val (.int p4), .val (.int aa), .val (.int bb), .val (.int cc), .val (.int kn), .val (.ref b1), .val (.int (1 : Int32)), .unset, .unset, .unset, .unset, .unset, .unset]) rfl ?_
              show Steps p.tables e below (T32.setTop (mkF m 91 _ [])) _
              refine XS.aload X32.here hx rfl (hb hby at_91) rfl rfl ?_
              show Steps p.tables e below (T32.setTop (mkF m 93 _ [(.ref b1)])) _
              refine XS.iload X32.here hx rfl (hb hby at_93) rfl ?_
              exact kt
            have hf_aa : (fun _ => (0 : Int32)) (aa).toNatClampNeg = 0 := by
              simp only [own_upd, own_tn]
            obtain ⟨cq33, kq33, q33a, q33b, q33c⟩ := isOf hZ e32 M31.1
            obtain ⟨_, _, ⟨T33, L33, k33, n33⟩, -, X33, ⟨Lc33, hQ33, l33, y33, z33⟩, st33⟩ := X32.virtualBack hx (y := (⟨"com/example/faregraph/faregraph/search/Members", "add", "(I)Z"⟩ : MethodName)) (z := (⟨"com/example/faregraph/faregraph/search/Members", "add", "(I)Z"⟩ : MethodName)) hown (mvT hZ (hw _ (List.mem_of_getElem? (i := 15) rfl))) (mvT hZ (hw _ (List.mem_of_getElem? (i := 16) rfl))) (notFace_of_selects (args := #[]) (mvT hZ (hw _ (List.mem_of_getElem? (i := 18) rfl)))) (mvT hZ (hw _ (List.mem_of_getElem? (i := 18) rfl))) (mvT hZ (hw _ (List.mem_of_getElem? (i := 17) rfl))) (by decide) (backOf (W := 0) (rm3n l Z a0 hw [] b1 mb mc (4 : Int32) (0 : Int32) (fun _ => (0 : Int32)) g aa T31.heap n0 (Nat.le_trans Zh KK31.1) M31 ra ⟨by decide, by decide⟩ hf_aa) hZ (hw _ (List.mem_of_getElem? (i := 19) rfl)) (hw _ (List.mem_of_getElem? (i := 2) rfl)) (by decide) (by decide)) q33a q33c (g := (mkF m 95 #[.val (.int p1), .val (.int p2), .val (.int p3), .val (.int p4), .val (.int aa), .val (.int bb), .val (.int cc), .val (.int kn), .val (.ref b1), .val (.int (1 : Int32)), .unset, .unset, .unset, .unset, .unset, .unset] [(.int aa), (.ref b1)])) rfl (by rw [hml]; rfl) (Steps.refl _) (argsL := [(.int aa)]) (rest := []) (lenOf pd_2 rfl) rfl (by show 2 * 0 + _ ≤ _; exact Nat.le_of_eq rfl) (hb hby at_95) (fun _ _ => ⟨rfl, e32, (by decide : 3 + 0 ≤ _), (by decide : 11 + 0 ≤ _)⟩)
            dsimp only [Pt.U, Pt.locs, Pt.cells, Pt.slots] at X33 l33 y33 z33 st33 hQ33
            subst l33 y33 z33
            obtain ⟨rfl, N33q, KK33, M33⟩ := hQ33
            have N33 := Fr.app N32 N33q
            refine own_pre (B := (T33.setTop (mkF m 104 #[.val (.int p1), .val (.int p2), .val (.int p3), .val (.int p4), .val (.int aa), .val (.int bb), .val (.int cc), .val (.int kn), .val (.ref b1), .val (.int (1 : Int32)), .val (.int (1 : Int32)), .unset, .unset, .unset, .unset, .unset] [(.int bb), (.ref b1)]))) (fun t kt => ?_) ?_
            · refine st33.trans ?_
              show Steps p.tables e below (T33.setTop (mkF m 98 _ [(.int (1 : Int32))])) _
              refine XS.istore X33.here hx rfl (hb hby at_98) rfl (l' := #[.val (.int p1), .val (.int p2), .val (.int p3), .val (.int p4), .val (.int aa), .val (.int bb), .val (.int cc), .val (.int kn), .val (.ref b1), .val (.int (1 : Int32)), .val (.int (1 : Int32)), .unset, .unset, .unset, .unset, .unset]) rfl ?_
              show Steps p.tables e below (T33.setTop (mkF m 100 _ [])) _
              refine XS.aload X33.here hx rfl (hb hby at_100) rfl rfl ?_
              show Steps p.tables e below (T33.setTop (mkF m 102 _ [(.ref b1)])) _
              refine XS.iload X33.here hx rfl (hb hby at_102) rfl ?_
              exact kt
            have hf_bb : (own_upd (fun _ => (0 : Int32)) (aa).toNatClampNeg 1) (bb).toNatClampNeg = 0 := by
              simp only [own_upd, own_tn]
              repeat' split
              all_goals first | rfl | (exfalso; omega)
            obtain ⟨cq34, kq34, q34a, q34b, q34c⟩ := isOf hZ rfl M33.1
            obtain ⟨_, _, ⟨T34, L34, k34, n34⟩, -, X34, ⟨Lc34, hQ34, l34, y34, z34⟩, st34⟩ := X33.virtualBack hx (y := (⟨"com/example/faregraph/faregraph/search/Members", "add", "(I)Z"⟩ : MethodName)) (z := (⟨"com/example/faregraph/faregraph/search/Members", "add", "(I)Z"⟩ : MethodName)) hown (mvT hZ (hw _ (List.mem_of_getElem? (i := 15) rfl))) (mvT hZ (hw _ (List.mem_of_getElem? (i := 16) rfl))) (notFace_of_selects (args := #[]) (mvT hZ (hw _ (List.mem_of_getElem? (i := 18) rfl)))) (mvT hZ (hw _ (List.mem_of_getElem? (i := 18) rfl))) (mvT hZ (hw _ (List.mem_of_getElem? (i := 17) rfl))) (by decide) (backOf (W := 0) (rm3n l Z a0 hw [] b1 mb mc (4 : Int32) ((0 : Int32) + (1 : Int32)) (own_upd (fun _ => (0 : Int32)) (aa).toNatClampNeg 1) (own_upd g ((0 : Int32)).toNatClampNeg aa) bb T33.heap n0 (Nat.le_trans (Nat.le_trans Zh KK31.1) KK33.1) M33 rb ⟨by decide, by decide⟩ hf_bb) hZ (hw _ (List.mem_of_getElem? (i := 19) rfl)) (hw _ (List.mem_of_getElem? (i := 2) rfl)) (by decide) (by decide)) q34a q34c (g := (mkF m 104 #[.val (.int p1), .val (.int p2), .val (.int p3), .val (.int p4), .val (.int aa), .val (.int bb), .val (.int cc), .val (.int kn), .val (.ref b1), .val (.int (1 : Int32)), .val (.int (1 : Int32)), .unset, .unset, .unset, .unset, .unset] [(.int bb), (.ref b1)])) rfl (by rw [hml]; rfl) (Steps.refl _) (argsL := [(.int bb)]) (rest := []) (lenOf pd_2 rfl) rfl (by show 2 * 0 + _ ≤ _; exact Nat.le_of_eq rfl) (hb hby at_104) (fun _ _ => ⟨rfl, rfl, (by decide : 3 + 0 ≤ _), (by decide : 11 + 0 ≤ _)⟩)
            dsimp only [Pt.U, Pt.locs, Pt.cells, Pt.slots] at X34 l34 y34 z34 st34 hQ34
            subst l34 y34 z34
            obtain ⟨rfl, N34q, KK34, M34⟩ := hQ34
            have N34 := Fr.app N33 N34q
            refine own_pre (B := (T34.setTop (mkF m 113 #[.val (.int p1), .val (.int p2), .val (.int p3), .val (.int p4), .val (.int aa), .val (.int bb), .val (.int cc), .val (.int kn), .val (.ref b1), .val (.int (1 : Int32)), .val (.int (1 : Int32)), .val (.int (1 : Int32)), .unset, .unset, .unset, .unset] [(.int cc), (.ref b1)]))) (fun t kt => ?_) ?_
            · refine st34.trans ?_
              show Steps p.tables e below (T34.setTop (mkF m 107 _ [(.int (1 : Int32))])) _
              refine XS.istore X34.here hx rfl (hb hby at_107) rfl (l' := #[.val (.int p1), .val (.int p2), .val (.int p3), .val (.int p4), .val (.int aa), .val (.int bb), .val (.int cc), .val (.int kn), .val (.ref b1), .val (.int (1 : Int32)), .val (.int (1 : Int32)), .val (.int (1 : Int32)), .unset, .unset, .unset, .unset]) rfl ?_
              show Steps p.tables e below (T34.setTop (mkF m 109 _ [])) _
              refine XS.aload X34.here hx rfl (hb hby at_109) rfl rfl ?_
              show Steps p.tables e below (T34.setTop (mkF m 111 _ [(.ref b1)])) _
              refine XS.iload X34.here hx rfl (hb hby at_111) rfl ?_
              exact kt
            have hf_cc : (own_upd (own_upd (fun _ => (0 : Int32)) (aa).toNatClampNeg 1) (bb).toNatClampNeg 1) (cc).toNatClampNeg = 0 := by
              simp only [own_upd, own_tn]
              repeat' split
              all_goals first | rfl | (exfalso; omega)
            obtain ⟨cq35, kq35, q35a, q35b, q35c⟩ := isOf hZ rfl M34.1
            obtain ⟨_, _, ⟨T35, L35, k35, n35⟩, -, X35, ⟨Lc35, hQ35, l35, y35, z35⟩, st35⟩ := X34.virtualBack hx (y := (⟨"com/example/faregraph/faregraph/search/Members", "add", "(I)Z"⟩ : MethodName)) (z := (⟨"com/example/faregraph/faregraph/search/Members", "add", "(I)Z"⟩ : MethodName)) hown (mvT hZ (hw _ (List.mem_of_getElem? (i := 15) rfl))) (mvT hZ (hw _ (List.mem_of_getElem? (i := 16) rfl))) (notFace_of_selects (args := #[]) (mvT hZ (hw _ (List.mem_of_getElem? (i := 18) rfl)))) (mvT hZ (hw _ (List.mem_of_getElem? (i := 18) rfl))) (mvT hZ (hw _ (List.mem_of_getElem? (i := 17) rfl))) (by decide) (backOf (W := 0) (rm3n l Z a0 hw [] b1 mb mc (4 : Int32) (((0 : Int32) + (1 : Int32)) + (1 : Int32)) (own_upd (own_upd (fun _ => (0 : Int32)) (aa).toNatClampNeg 1) (bb).toNatClampNeg 1) (own_upd (own_upd g ((0 : Int32)).toNatClampNeg aa) (((0 : Int32) + (1 : Int32))).toNatClampNeg bb) cc T34.heap n0 (Nat.le_trans (Nat.le_trans (Nat.le_trans Zh KK31.1) KK33.1) KK34.1) M34 rc ⟨by decide, by decide⟩ hf_cc) hZ (hw _ (List.mem_of_getElem? (i := 19) rfl)) (hw _ (List.mem_of_getElem? (i := 2) rfl)) (by decide) (by decide)) q35a q35c (g := (mkF m 113 #[.val (.int p1), .val (.int p2), .val (.int p3), .val (.int p4), .val (.int aa), .val (.int bb), .val (.int cc), .val (.int kn), .val (.ref b1), .val (.int (1 : Int32)), .val (.int (1 : Int32)), .val (.int (1 : Int32)), .unset, .unset, .unset, .unset] [(.int cc), (.ref b1)])) rfl (by rw [hml]; rfl) (Steps.refl _) (argsL := [(.int cc)]) (rest := []) (lenOf pd_2 rfl) rfl (by show 2 * 0 + _ ≤ _; exact Nat.le_of_eq rfl) (hb hby at_113) (fun _ _ => ⟨rfl, rfl, (by decide : 3 + 0 ≤ _), (by decide : 11 + 0 ≤ _)⟩)
            dsimp only [Pt.U, Pt.locs, Pt.cells, Pt.slots] at X35 l35 y35 z35 st35 hQ35
            subst l35 y35 z35
            obtain ⟨rfl, N35q, KK35, M35⟩ := hQ35
            have N35 := Fr.app N34 N35q
            refine own_pre (B := (T35.setTop (mkF m 204 #[.val (.int p1), .val (.int p2), .val (.int p3), .val (.int p4), .val (.int aa), .val (.int bb), .val (.int cc), .val (.int kn), .val (.ref b1), .val (.int (1 : Int32)), .val (.int (1 : Int32)), .val (.int (1 : Int32)), .val (.int (1 : Int32)), .val (.int (1 : Int32)), .val (.int (1 : Int32)), .val (.int (((1 : Int32) + (1 : Int32)) + (1 : Int32)))] [(.ref b1)]))) (fun t kt => ?_) ?_
            · refine st35.trans ?_
              show Steps p.tables e below (T35.setTop (mkF m 116 _ [(.int (1 : Int32))])) _
              refine XS.istore X35.here hx rfl (hb hby at_116) rfl (l' := #[.val (.int p1), .val (.int p2), .val (.int p3), .val (.int p4), .val (.int aa), .val (.int bb), .val (.int cc), .val (.int kn), .val (.ref b1), .val (.int (1 : Int32)), .val (.int (1 : Int32)), .val (.int (1 : Int32)), .val (.int (1 : Int32)), .unset, .unset, .unset]) rfl ?_
              show Steps p.tables e below (T35.setTop (mkF m 118 _ [])) _
              refine XS.iload X35.here hx rfl (hb hby at_118) rfl ?_
              show Steps p.tables e below (T35.setTop (mkF m 120 _ [(.int bb)])) _
              refine XS.iload X35.here hx rfl (hb hby at_120) rfl ?_
              show Steps p.tables e below (T35.setTop (mkF m 122 _ [(.int aa), (.int bb)])) _
              refine XS.icmpNo X35.here hx rfl (hb hby at_122) rfl (feq ((fun q => hba (congrArg Int32.toInt q)) : ¬ (bb = aa))).1 ?_
              show Steps p.tables e below (T35.setTop (mkF m 125 _ [])) _
              refine XS.iconst X35.here hx rfl (hb hby at_125) ?_
              show Steps p.tables e below (T35.setTop (mkF m 126 _ [(.int (1 : Int32))])) _
              refine XS.goto X35.here hx rfl (pc0 := 126) (pc' := 130) rfl (hb hby at_126) (by decide) (by decide) ?_
              show Steps p.tables e below (T35.setTop (mkF m 130 _ [(.int (1 : Int32))])) _
              refine XS.istore X35.here hx rfl (hb hby at_130) rfl (l' := #[.val (.int p1), .val (.int p2), .val (.int p3), .val (.int p4), .val (.int aa), .val (.int bb), .val (.int cc), .val (.int kn), .val (.ref b1), .val (.int (1 : Int32)), .val (.int (1 : Int32)), .val (.int (1 : Int32)), .val (.int (1 : Int32)), .val (.int (1 : Int32)), .unset, .unset]) rfl ?_
              show Steps p.tables e below (T35.setTop (mkF m 132 _ [])) _
              refine XS.iload X35.here hx rfl (hb hby at_132) rfl ?_
              show Steps p.tables e below (T35.setTop (mkF m 134 _ [(.int cc)])) _
              refine XS.iload X35.here hx rfl (hb hby at_134) rfl ?_
              show Steps p.tables e below (T35.setTop (mkF m 136 _ [(.int aa), (.int cc)])) _
              refine XS.icmpNo X35.here hx rfl (hb hby at_136) rfl (feq ((fun q => hca (congrArg Int32.toInt q)) : ¬ (cc = aa))).1 ?_
              show Steps p.tables e below (T35.setTop (mkF m 139 _ [])) _
              refine XS.iload X35.here hx rfl (hb hby at_139) rfl ?_
              show Steps p.tables e below (T35.setTop (mkF m 141 _ [(.int cc)])) _
              refine XS.iload X35.here hx rfl (hb hby at_141) rfl ?_
              show Steps p.tables e below (T35.setTop (mkF m 143 _ [(.int bb), (.int cc)])) _
              refine XS.icmpNo X35.here hx rfl (hb hby at_143) rfl (feq ((fun q => hcb (congrArg Int32.toInt q)) : ¬ (cc = bb))).1 ?_
              show Steps p.tables e below (T35.setTop (mkF m 146 _ [])) _
              refine XS.iconst X35.here hx rfl (hb hby at_146) ?_
              show Steps p.tables e below (T35.setTop (mkF m 147 _ [(.int (1 : Int32))])) _
              refine XS.goto X35.here hx rfl (pc0 := 147) (pc' := 151) rfl (hb hby at_147) (by decide) (by decide) ?_
              show Steps p.tables e below (T35.setTop (mkF m 151 _ [(.int (1 : Int32))])) _
              refine XS.istore X35.here hx rfl (hb hby at_151) rfl (l' := #[.val (.int p1), .val (.int p2), .val (.int p3), .val (.int p4), .val (.int aa), .val (.int bb), .val (.int cc), .val (.int kn), .val (.ref b1), .val (.int (1 : Int32)), .val (.int (1 : Int32)), .val (.int (1 : Int32)), .val (.int (1 : Int32)), .val (.int (1 : Int32)), .val (.int (1 : Int32)), .unset]) rfl ?_
              show Steps p.tables e below (T35.setTop (mkF m 153 _ [])) _
              refine XS.iconst X35.here hx rfl (hb hby at_153) ?_
              show Steps p.tables e below (T35.setTop (mkF m 154 _ [(.int (1 : Int32))])) _
              refine XS.iload X35.here hx rfl (hb hby at_154) rfl ?_
              show Steps p.tables e below (T35.setTop (mkF m 156 _ [(.int (1 : Int32)), (.int (1 : Int32))])) _
              refine XS.ifNo X35.here hx rfl (hb hby at_156) rfl ((if0 _ _).trans (feq ((by decide) : ¬ ((1 : Int32) = (0 : Int32)))).1) ?_
              show Steps p.tables e below (T35.setTop (mkF m 159 _ [(.int (1 : Int32))])) _
              refine XS.iconst X35.here hx rfl (hb hby at_159) ?_
              show Steps p.tables e below (T35.setTop (mkF m 160 _ [(.int (1 : Int32)), (.int (1 : Int32))])) _
              refine XS.goto X35.here hx rfl (pc0 := 160) (pc' := 164) rfl (hb hby at_160) (by decide) (by decide) ?_
              show Steps p.tables e below (T35.setTop (mkF m 164 _ [(.int (1 : Int32)), (.int (1 : Int32))])) _
              refine XS.iadd X35.here hx rfl (hb hby at_164) rfl ?_
              show Steps p.tables e below (T35.setTop (mkF m 165 _ [(.int ((1 : Int32) + (1 : Int32)))])) _
              refine XS.iload X35.here hx rfl (hb hby at_165) rfl ?_
              show Steps p.tables e below (T35.setTop (mkF m 167 _ [(.int (1 : Int32)), (.int ((1 : Int32) + (1 : Int32)))])) _
              refine XS.ifNo X35.here hx rfl (hb hby at_167) rfl ((if0 _ _).trans (feq ((by decide) : ¬ ((1 : Int32) = (0 : Int32)))).1) ?_
              show Steps p.tables e below (T35.setTop (mkF m 170 _ [(.int ((1 : Int32) + (1 : Int32)))])) _
              refine XS.iconst X35.here hx rfl (hb hby at_170) ?_
              show Steps p.tables e below (T35.setTop (mkF m 171 _ [(.int (1 : Int32)), (.int ((1 : Int32) + (1 : Int32)))])) _
              refine XS.goto X35.here hx rfl (pc0 := 171) (pc' := 175) rfl (hb hby at_171) (by decide) (by decide) ?_
              show Steps p.tables e below (T35.setTop (mkF m 175 _ [(.int (1 : Int32)), (.int ((1 : Int32) + (1 : Int32)))])) _
              refine XS.iadd X35.here hx rfl (hb hby at_175) rfl ?_
              show Steps p.tables e below (T35.setTop (mkF m 176 _ [(.int (((1 : Int32) + (1 : Int32)) + (1 : Int32)))])) _
              refine XS.istore X35.here hx rfl (hb hby at_176) rfl (l' := #[.val (.int p1), .val (.int p2), .val (.int p3), .val (.int p4), .val (.int aa), .val (.int bb), .val (.int cc), .val (.int kn), .val (.ref b1), .val (.int (1 : Int32)), .val (.int (1 : Int32)), .val (.int (1 : Int32)), .val (.int (1 : Int32)), .val (.int (1 : Int32)), .val (.int (1 : Int32)), .val (.int (((1 : Int32) + (1 : Int32)) + (1 : Int32)))]) rfl ?_
              show Steps p.tables e below (T35.setTop (mkF m 178 _ [])) _
              refine XS.iload X35.here hx rfl (hb hby at_178) rfl ?_
              show Steps p.tables e below (T35.setTop (mkF m 180 _ [(.int (1 : Int32))])) _
              refine XS.ifNo X35.here hx rfl (hb hby at_180) rfl ((if0 _ _).trans (feq ((by decide) : ¬ ((1 : Int32) = (0 : Int32)))).1) ?_
              show Steps p.tables e below (T35.setTop (mkF m 183 _ [])) _
              refine XS.iload X35.here hx rfl (hb hby at_183) rfl ?_
              show Steps p.tables e below (T35.setTop (mkF m 185 _ [(.int (1 : Int32))])) _
              refine XS.ifNo X35.here hx rfl (hb hby at_185) rfl ((if0 _ _).trans (feq ((by decide) : ¬ ((1 : Int32) = (0 : Int32)))).1) ?_
              show Steps p.tables e below (T35.setTop (mkF m 188 _ [])) _
              refine XS.iload X35.here hx rfl (hb hby at_188) rfl ?_
              show Steps p.tables e below (T35.setTop (mkF m 190 _ [(.int (1 : Int32))])) _
              refine XS.iload X35.here hx rfl (hb hby at_190) rfl ?_
              show Steps p.tables e below (T35.setTop (mkF m 192 _ [(.int (1 : Int32)), (.int (1 : Int32))])) _
              refine XS.icmpNo X35.here hx rfl (hb hby at_192) rfl (teq (rfl : (1 : Int32) = (1 : Int32))).2 ?_
              show Steps p.tables e below (T35.setTop (mkF m 195 _ [])) _
              refine XS.iload X35.here hx rfl (hb hby at_195) rfl ?_
              show Steps p.tables e below (T35.setTop (mkF m 197 _ [(.int (1 : Int32))])) _
              refine XS.iload X35.here hx rfl (hb hby at_197) rfl ?_
              show Steps p.tables e below (T35.setTop (mkF m 199 _ [(.int (1 : Int32)), (.int (1 : Int32))])) _
              refine XS.icmpNo X35.here hx rfl (hb hby at_199) rfl (teq (rfl : (1 : Int32) = (1 : Int32))).2 ?_
              show Steps p.tables e below (T35.setTop (mkF m 202 _ [])) _
              refine XS.aload X35.here hx rfl (hb hby at_202) rfl rfl ?_
              exact kt
            obtain ⟨cq36, kq36, q36a, q36b, q36c⟩ := isOf hZ rfl M35.1
            obtain ⟨_, _, ⟨T36, L36, k36, n36⟩, -, X36, ⟨Lc36, hQ36, l36, y36, z36⟩, st36⟩ := X35.virtualBack hx (y := (⟨"com/example/faregraph/faregraph/search/Members", "count", "()I"⟩ : MethodName)) (z := (⟨"com/example/faregraph/faregraph/search/Members", "count", "()I"⟩ : MethodName)) hown (mvT hZ (hw _ (List.mem_of_getElem? (i := 27) rfl))) (mvT hZ (hw _ (List.mem_of_getElem? (i := 28) rfl))) (notFace_of_selects (args := #[]) (mvT hZ (hw _ (List.mem_of_getElem? (i := 30) rfl)))) (mvT hZ (hw _ (List.mem_of_getElem? (i := 30) rfl))) (mvT hZ (hw _ (List.mem_of_getElem? (i := 29) rfl))) (by decide) (backOf (W := 0) (rm5 l Z a0 hw [] b1 mb mc (4 : Int32) ((((0 : Int32) + (1 : Int32)) + (1 : Int32)) + (1 : Int32)) (own_upd (own_upd (own_upd (fun _ => (0 : Int32)) (aa).toNatClampNeg 1) (bb).toNatClampNeg 1) (cc).toNatClampNeg 1) (own_upd (own_upd (own_upd g ((0 : Int32)).toNatClampNeg aa) (((0 : Int32) + (1 : Int32))).toNatClampNeg bb) ((((0 : Int32) + (1 : Int32)) + (1 : Int32))).toNatClampNeg cc) T35.heap n0 (Nat.le_trans (Nat.le_trans (Nat.le_trans (Nat.le_trans Zh KK31.1) KK33.1) KK34.1) KK35.1) M35) hZ (hw _ (List.mem_of_getElem? (i := 31) rfl)) (hw _ (List.mem_of_getElem? (i := 2) rfl)) (by decide) (by decide)) q36a q36c (g := (mkF m 204 #[.val (.int p1), .val (.int p2), .val (.int p3), .val (.int p4), .val (.int aa), .val (.int bb), .val (.int cc), .val (.int kn), .val (.ref b1), .val (.int (1 : Int32)), .val (.int (1 : Int32)), .val (.int (1 : Int32)), .val (.int (1 : Int32)), .val (.int (1 : Int32)), .val (.int (1 : Int32)), .val (.int (((1 : Int32) + (1 : Int32)) + (1 : Int32)))] [(.ref b1)])) rfl (by rw [hml]; rfl) (Steps.refl _) (argsL := []) (rest := []) (lenOf pd_3 rfl) rfl (by show 2 * 0 + _ ≤ _; exact Nat.le_of_eq rfl) (hb hby at_204) (fun _ _ => ⟨rfl, rfl, (by decide : 3 + 0 ≤ _), (by decide : 11 + 0 ≤ _)⟩)
            dsimp only [Pt.U, Pt.locs, Pt.cells, Pt.slots] at X36 l36 y36 z36 st36 hQ36
            subst l36 y36 z36
            obtain ⟨rfl, N36q, e36⟩ := hQ36
            have N36 := Fr.app N35 N36q
            refine own_pre (B := (T36.setTop (mkF m 215 #[.val (.int p1), .val (.int p2), .val (.int p3), .val (.int p4), .val (.int aa), .val (.int bb), .val (.int cc), .val (.int kn), .val (.ref b1), .val (.int (1 : Int32)), .val (.int (1 : Int32)), .val (.int (1 : Int32)), .val (.int (1 : Int32)), .val (.int (1 : Int32)), .val (.int (1 : Int32)), .val (.int (((1 : Int32) + (1 : Int32)) + (1 : Int32)))] [(.int (0 : Int32)), (.ref b1)]))) (fun t kt => ?_) ?_
            · refine st36.trans ?_
              show Steps p.tables e below (T36.setTop (mkF m 207 _ [(.int ((((0 : Int32) + (1 : Int32)) + (1 : Int32)) + (1 : Int32)))])) _
              refine XS.iload X36.here hx rfl (hb hby at_207) rfl ?_
              show Steps p.tables e below (T36.setTop (mkF m 209 _ [(.int (((1 : Int32) + (1 : Int32)) + (1 : Int32))), (.int ((((0 : Int32) + (1 : Int32)) + (1 : Int32)) + (1 : Int32)))])) _
              refine XS.icmpNo X36.here hx rfl (hb hby at_209) rfl (teq ((by decide) : ((((0 : Int32) + (1 : Int32)) + (1 : Int32)) + (1 : Int32)) = (((1 : Int32) + (1 : Int32)) + (1 : Int32)))).2 ?_
              show Steps p.tables e below (T36.setTop (mkF m 212 _ [])) _
              refine XS.aload X36.here hx rfl (hb hby at_212) rfl rfl ?_
              show Steps p.tables e below (T36.setTop (mkF m 214 _ [(.ref b1)])) _
              refine XS.iconst X36.here hx rfl (hb hby at_214) ?_
              exact kt
            have pg37 : (own_upd (own_upd (own_upd g ((0 : Int32)).toNatClampNeg aa) (((0 : Int32) + (1 : Int32))).toNatClampNeg bb) ((((0 : Int32) + (1 : Int32)) + (1 : Int32))).toNatClampNeg cc) ((0 : Int32)).toNatClampNeg = aa := ((own_upd_ne (by decide)).trans ((own_upd_ne (by decide)).trans (own_upd_hit (by decide))))
            obtain ⟨cq37, kq37, q37a, q37b, q37c⟩ := isOf hZ e36 M35.1
            obtain ⟨_, _, ⟨T37, L37, k37, n37⟩, -, X37, ⟨Lc37, hQ37, l37, y37, z37⟩, st37⟩ := X36.virtualBack hx (y := (⟨"com/example/faregraph/faregraph/search/Members", "get", "(I)I"⟩ : MethodName)) (z := (⟨"com/example/faregraph/faregraph/search/Members", "get", "(I)I"⟩ : MethodName)) hown (mvT hZ (hw _ (List.mem_of_getElem? (i := 32) rfl))) (mvT hZ (hw _ (List.mem_of_getElem? (i := 33) rfl))) (notFace_of_selects (args := #[]) (mvT hZ (hw _ (List.mem_of_getElem? (i := 35) rfl)))) (mvT hZ (hw _ (List.mem_of_getElem? (i := 35) rfl))) (mvT hZ (hw _ (List.mem_of_getElem? (i := 34) rfl))) (by decide) (backOf (W := 0) (rm6 l Z a0 hw [] b1 mb mc (4 : Int32) ((((0 : Int32) + (1 : Int32)) + (1 : Int32)) + (1 : Int32)) (own_upd (own_upd (own_upd (fun _ => (0 : Int32)) (aa).toNatClampNeg 1) (bb).toNatClampNeg 1) (cc).toNatClampNeg 1) (own_upd (own_upd (own_upd g ((0 : Int32)).toNatClampNeg aa) (((0 : Int32) + (1 : Int32))).toNatClampNeg bb) ((((0 : Int32) + (1 : Int32)) + (1 : Int32))).toNatClampNeg cc) (0 : Int32) aa T35.heap n0 (Nat.le_trans (Nat.le_trans (Nat.le_trans (Nat.le_trans Zh KK31.1) KK33.1) KK34.1) KK35.1) M35 ⟨by decide, by decide⟩ pg37) hZ (hw _ (List.mem_of_getElem? (i := 36) rfl)) (hw _ (List.mem_of_getElem? (i := 2) rfl)) (by decide) (by decide)) q37a q37c (g := (mkF m 215 #[.val (.int p1), .val (.int p2), .val (.int p3), .val (.int p4), .val (.int aa), .val (.int bb), .val (.int cc), .val (.int kn), .val (.ref b1), .val (.int (1 : Int32)), .val (.int (1 : Int32)), .val (.int (1 : Int32)), .val (.int (1 : Int32)), .val (.int (1 : Int32)), .val (.int (1 : Int32)), .val (.int (((1 : Int32) + (1 : Int32)) + (1 : Int32)))] [(.int (0 : Int32)), (.ref b1)])) rfl (by rw [hml]; rfl) (Steps.refl _) (argsL := [(.int (0 : Int32))]) (rest := []) (lenOf pd_4 rfl) rfl (by show 2 * 0 + _ ≤ _; exact Nat.le_of_eq rfl) (hb hby at_215) (fun _ _ => ⟨rfl, e36, (by decide : 3 + 0 ≤ _), (by decide : 11 + 0 ≤ _)⟩)
            dsimp only [Pt.U, Pt.locs, Pt.cells, Pt.slots] at X37 l37 y37 z37 st37 hQ37
            subst l37 y37 z37
            obtain ⟨rfl, N37q, e37⟩ := hQ37
            have N37 := Fr.app N36 N37q
            refine own_pre (B := (T37.setTop (mkF m 228 #[.val (.int p1), .val (.int p2), .val (.int p3), .val (.int p4), .val (.int aa), .val (.int bb), .val (.int cc), .val (.int kn), .val (.ref b1), .val (.int (1 : Int32)), .val (.int (1 : Int32)), .val (.int (1 : Int32)), .val (.int (1 : Int32)), .val (.int (1 : Int32)), .val (.int (1 : Int32)), .val (.int (((1 : Int32) + (1 : Int32)) + (1 : Int32)))] [(.int (1 : Int32))]))) (fun t kt => ?_) ?_
            · refine st37.trans ?_
              show Steps p.tables e below (T37.setTop (mkF m 218 _ [(.int aa)])) _
              refine XS.iload X37.here hx rfl (hb hby at_218) rfl ?_
              show Steps p.tables e below (T37.setTop (mkF m 220 _ [(.int aa), (.int aa)])) _
              refine XS.icmpNo X37.here hx rfl (hb hby at_220) rfl (teq (rfl : aa = aa)).2 ?_
              show Steps p.tables e below (T37.setTop (mkF m 223 _ [])) _
              refine XS.iconst X37.here hx rfl (hb hby at_223) ?_
              show Steps p.tables e below (T37.setTop (mkF m 224 _ [(.int (1 : Int32))])) _
              refine XS.goto X37.here hx rfl (pc0 := 224) (pc' := 228) rfl (hb hby at_224) (by decide) (by decide) ?_
              exact kt
            exact own_fin X37 (some (.int (1 : Int32))) (fun h => by rw [Bd.returns] at h; cases h) (BodyLoose.notSynchronized Bd) e37 (fun fs hr => retN X37 hx (t := .boolean) Bd.returns (by simp) (hb hby at_228) hr) ⟨rfl, N37⟩ (by decide) (by decide)
    have S57 : ∀ (T : State) (h : Heap) (locs : List Loc) (f g : Nat → Int32) (k : Int32), Stand p l e room_1 s m #[(.int p1), (.int p2), (.int p3), (.int p4)] below meth c T locs 3 11 → T.heap = h → Fr n0 locs → n0 ≤ h.size → own_Mem Z h n0 b1 mb mc (4 : Int32) f g k → own_Inv f g k 2 → own_Ends p e below s room_1.cells room_1.slots (Q0 Z p1 p2 p3 p4 h0 n0) (T.setTop (mkF m 57 #[.val (.int p1), .val (.int p2), .val (.int p3), .val (.int p4), .val (.int aa), .val (.int bb), .val (.int cc), .val (.int kn), .val (.ref b1), .unset, .unset, .unset, .unset, .unset, .unset, .unset] [])) := by
      intro T h locs f g k X eT N Zh M inv
      refine own_pre (B := (T.setTop (mkF m 60 #[.val (.int p1), .val (.int p2), .val (.int p3), .val (.int p4), .val (.int aa), .val (.int bb), .val (.int cc), .val (.int kn), .val (.ref b1), .unset, .unset, .unset, .unset, .unset, .unset, .unset] [(.int (2 : Int32)), (.int kn)]))) (fun t kt => ?_) ?_
      · show Steps p.tables e below (T.setTop (mkF m 57 _ [])) _
        refine XS.iload X.here hx rfl (hb hby at_57) rfl ?_
        show Steps p.tables e below (T.setTop (mkF m 59 _ [(.int kn)])) _
        refine XS.iconst X.here hx rfl (hb hby at_59) ?_
        exact kt
      by_cases hc60 : (2 : Int32) < kn
      · refine own_pre (B := (T.setTop (mkF m 63 #[.val (.int p1), .val (.int p2), .val (.int p3), .val (.int p4), .val (.int aa), .val (.int bb), .val (.int cc), .val (.int kn), .val (.ref b1), .unset, .unset, .unset, .unset, .unset, .unset, .unset] []))) (fun t kt => ?_) ?_
        · show Steps p.tables e below (T.setTop (mkF m 60 _ [(.int (2 : Int32)), (.int kn)])) _
          refine XS.icmpNo X.here hx rfl (hb hby at_60) rfl (tlt (hc60 : (2 : Int32) < kn)).2.2.2 ?_
          exact kt
        refine own_pre (B := (T.setTop (mkF m 67 #[.val (.int p1), .val (.int p2), .val (.int p3), .val (.int p4), .val (.int aa), .val (.int bb), .val (.int cc), .val (.int kn), .val (.ref b1), .unset, .unset, .unset, .unset, .unset, .unset, .unset] [(.int cc), (.ref b1)]))) (fun t kt => ?_) ?_
        · show Steps p.tables e below (T.setTop (mkF m 63 _ [])) _
          refine XS.aload X.here hx rfl (hb hby at_63) rfl rfl ?_
          show Steps p.tables e below (T.setTop (mkF m 65 _ [(.ref b1)])) _
          refine XS.iload X.here hx rfl (hb hby at_65) rfl ?_
          exact kt
        rcases inv.1 (cc).toNatClampNeg (own_lt4 rc) with hf | hf
        · obtain ⟨cq38, kq38, q38a, q38b, q38c⟩ := isOf hZ eT M.1
          obtain ⟨_, _, ⟨T38, L38, k38, n38⟩, -, X38, ⟨Lc38, hQ38, l38, y38, z38⟩, st38⟩ := X.virtualBack hx (y := (⟨"com/example/faregraph/faregraph/search/Members", "add", "(I)Z"⟩ : MethodName)) (z := (⟨"com/example/faregraph/faregraph/search/Members", "add", "(I)Z"⟩ : MethodName)) hown (mvT hZ (hw _ (List.mem_of_getElem? (i := 15) rfl))) (mvT hZ (hw _ (List.mem_of_getElem? (i := 16) rfl))) (notFace_of_selects (args := #[]) (mvT hZ (hw _ (List.mem_of_getElem? (i := 18) rfl)))) (mvT hZ (hw _ (List.mem_of_getElem? (i := 18) rfl))) (mvT hZ (hw _ (List.mem_of_getElem? (i := 17) rfl))) (by decide) (backOf (W := 0) (rm3n l Z a0 hw [] b1 mb mc (4 : Int32) k f g cc h n0 Zh M rc (own_Inv_b inv (by decide)) hf) hZ (hw _ (List.mem_of_getElem? (i := 19) rfl)) (hw _ (List.mem_of_getElem? (i := 2) rfl)) (by decide) (by decide)) q38a q38c (g := (mkF m 67 #[.val (.int p1), .val (.int p2), .val (.int p3), .val (.int p4), .val (.int aa), .val (.int bb), .val (.int cc), .val (.int kn), .val (.ref b1), .unset, .unset, .unset, .unset, .unset, .unset, .unset] [(.int cc), (.ref b1)])) rfl (by rw [hml]; rfl) (Steps.refl _) (argsL := [(.int cc)]) (rest := []) (lenOf pd_2 rfl) rfl (by show 2 * 0 + _ ≤ _; exact Nat.le_of_eq rfl) (hb hby at_67) (fun _ _ => ⟨rfl, eT, (by decide : 3 + 0 ≤ _), (by decide : 11 + 0 ≤ _)⟩)
          dsimp only [Pt.U, Pt.locs, Pt.cells, Pt.slots] at X38 l38 y38 z38 st38 hQ38
          subst l38 y38 z38
          obtain ⟨rfl, N38q, KK38, M38⟩ := hQ38
          have N38 := Fr.app N N38q
          refine own_pre (B := (T38.setTop (mkF m 71 #[.val (.int p1), .val (.int p2), .val (.int p3), .val (.int p4), .val (.int aa), .val (.int bb), .val (.int cc), .val (.int kn), .val (.ref b1), .unset, .unset, .unset, .unset, .unset, .unset, .unset] []))) (fun t kt => ?_) ?_
          · refine st38.trans ?_
            show Steps p.tables e below (T38.setTop (mkF m 70 _ [(.int (1 : Int32))])) _
            refine XS.pop X38.here hx rfl (hb hby at_70) rfl rfl ?_
            exact kt
          exact S71 _ _ _ _ _ _ X38 rfl N38 (Nat.le_trans Zh KK38.1) M38 (own_Inv_add inv (by decide) rc)
        · obtain ⟨cq39, kq39, q39a, q39b, q39c⟩ := isOf hZ eT M.1
          obtain ⟨_, _, ⟨T39, L39, k39, n39⟩, -, X39, ⟨Lc39, hQ39, l39, y39, z39⟩, st39⟩ := X.virtualBack hx (y := (⟨"com/example/faregraph/faregraph/search/Members", "add", "(I)Z"⟩ : MethodName)) (z := (⟨"com/example/faregraph/faregraph/search/Members", "add", "(I)Z"⟩ : MethodName)) hown (mvT hZ (hw _ (List.mem_of_getElem? (i := 15) rfl))) (mvT hZ (hw _ (List.mem_of_getElem? (i := 16) rfl))) (notFace_of_selects (args := #[]) (mvT hZ (hw _ (List.mem_of_getElem? (i := 18) rfl)))) (mvT hZ (hw _ (List.mem_of_getElem? (i := 18) rfl))) (mvT hZ (hw _ (List.mem_of_getElem? (i := 17) rfl))) (by decide) (backOf (W := 0) (rm3y l Z a0 hw [] b1 mb mc (4 : Int32) k f g cc h n0 Zh M rc hf) hZ (hw _ (List.mem_of_getElem? (i := 19) rfl)) (hw _ (List.mem_of_getElem? (i := 2) rfl)) (by decide) (by decide)) q39a q39c (g := (mkF m 67 #[.val (.int p1), .val (.int p2), .val (.int p3), .val (.int p4), .val (.int aa), .val (.int bb), .val (.int cc), .val (.int kn), .val (.ref b1), .unset, .unset, .unset, .unset, .unset, .unset, .unset] [(.int cc), (.ref b1)])) rfl (by rw [hml]; rfl) (Steps.refl _) (argsL := [(.int cc)]) (rest := []) (lenOf pd_2 rfl) rfl (by show 2 * 0 + _ ≤ _; exact Nat.le_of_eq rfl) (hb hby at_67) (fun _ _ => ⟨rfl, eT, (by decide : 3 + 0 ≤ _), (by decide : 11 + 0 ≤ _)⟩)
          dsimp only [Pt.U, Pt.locs, Pt.cells, Pt.slots] at X39 l39 y39 z39 st39 hQ39
          subst l39 y39 z39
          obtain ⟨rfl, N39q, e39⟩ := hQ39
          have N39 := Fr.app N N39q
          refine own_pre (B := (T39.setTop (mkF m 71 #[.val (.int p1), .val (.int p2), .val (.int p3), .val (.int p4), .val (.int aa), .val (.int bb), .val (.int cc), .val (.int kn), .val (.ref b1), .unset, .unset, .unset, .unset, .unset, .unset, .unset] []))) (fun t kt => ?_) ?_
          · refine st39.trans ?_
            show Steps p.tables e below (T39.setTop (mkF m 70 _ [(.int (0 : Int32))])) _
            refine XS.pop X39.here hx rfl (hb hby at_70) rfl rfl ?_
            exact kt
          exact S71 _ _ _ _ _ _ X39 e39 N39 Zh M (own_Inv_up inv)
      · refine own_pre (B := (T.setTop (mkF m 71 #[.val (.int p1), .val (.int p2), .val (.int p3), .val (.int p4), .val (.int aa), .val (.int bb), .val (.int cc), .val (.int kn), .val (.ref b1), .unset, .unset, .unset, .unset, .unset, .unset, .unset] []))) (fun t kt => ?_) ?_
        · show Steps p.tables e below (T.setTop (mkF m 60 _ [(.int (2 : Int32)), (.int kn)])) _
          refine XS.icmpYes X.here hx rfl (pc0 := 60) (pc' := 71) rfl (hb hby at_60) rfl (flt (hc60 : ¬ ((2 : Int32) < kn))).2.2.2 (by decide) (by decide) ?_
          exact kt
        exact S71 _ _ _ _ _ _ X eT N Zh M (own_Inv_up inv)
    have S43 : ∀ (T : State) (h : Heap) (locs : List Loc) (f g : Nat → Int32) (k : Int32), Stand p l e room_1 s m #[(.int p1), (.int p2), (.int p3), (.int p4)] below meth c T locs 3 11 → T.heap = h → Fr n0 locs → n0 ≤ h.size → own_Mem Z h n0 b1 mb mc (4 : Int32) f g k → own_Inv f g k 1 → own_Ends p e below s room_1.cells room_1.slots (Q0 Z p1 p2 p3 p4 h0 n0) (T.setTop (mkF m 43 #[.val (.int p1), .val (.int p2), .val (.int p3), .val (.int p4), .val (.int aa), .val (.int bb), .val (.int cc), .val (.int kn), .val (.ref b1), .unset, .unset, .unset, .unset, .unset, .unset, .unset] [])) := by
      intro T h locs f g k X eT N Zh M inv
      refine own_pre (B := (T.setTop (mkF m 46 #[.val (.int p1), .val (.int p2), .val (.int p3), .val (.int p4), .val (.int aa), .val (.int bb), .val (.int cc), .val (.int kn), .val (.ref b1), .unset, .unset, .unset, .unset, .unset, .unset, .unset] [(.int (1 : Int32)), (.int kn)]))) (fun t kt => ?_) ?_
      · show Steps p.tables e below (T.setTop (mkF m 43 _ [])) _
        refine XS.iload X.here hx rfl (hb hby at_43) rfl ?_
        show Steps p.tables e below (T.setTop (mkF m 45 _ [(.int kn)])) _
        refine XS.iconst X.here hx rfl (hb hby at_45) ?_
        exact kt
      by_cases hc46 : (1 : Int32) < kn
      · refine own_pre (B := (T.setTop (mkF m 49 #[.val (.int p1), .val (.int p2), .val (.int p3), .val (.int p4), .val (.int aa), .val (.int bb), .val (.int cc), .val (.int kn), .val (.ref b1), .unset, .unset, .unset, .unset, .unset, .unset, .unset] []))) (fun t kt => ?_) ?_
        · show Steps p.tables e below (T.setTop (mkF m 46 _ [(.int (1 : Int32)), (.int kn)])) _
          refine XS.icmpNo X.here hx rfl (hb hby at_46) rfl (tlt (hc46 : (1 : Int32) < kn)).2.2.2 ?_
          exact kt
        refine own_pre (B := (T.setTop (mkF m 53 #[.val (.int p1), .val (.int p2), .val (.int p3), .val (.int p4), .val (.int aa), .val (.int bb), .val (.int cc), .val (.int kn), .val (.ref b1), .unset, .unset, .unset, .unset, .unset, .unset, .unset] [(.int bb), (.ref b1)]))) (fun t kt => ?_) ?_
        · show Steps p.tables e below (T.setTop (mkF m 49 _ [])) _
          refine XS.aload X.here hx rfl (hb hby at_49) rfl rfl ?_
          show Steps p.tables e below (T.setTop (mkF m 51 _ [(.ref b1)])) _
          refine XS.iload X.here hx rfl (hb hby at_51) rfl ?_
          exact kt
        rcases inv.1 (bb).toNatClampNeg (own_lt4 rb) with hf | hf
        · obtain ⟨cq40, kq40, q40a, q40b, q40c⟩ := isOf hZ eT M.1
          obtain ⟨_, _, ⟨T40, L40, k40, n40⟩, -, X40, ⟨Lc40, hQ40, l40, y40, z40⟩, st40⟩ := X.virtualBack hx (y := (⟨"com/example/faregraph/faregraph/search/Members", "add", "(I)Z"⟩ : MethodName)) (z := (⟨"com/example/faregraph/faregraph/search/Members", "add", "(I)Z"⟩ : MethodName)) hown (mvT hZ (hw _ (List.mem_of_getElem? (i := 15) rfl))) (mvT hZ (hw _ (List.mem_of_getElem? (i := 16) rfl))) (notFace_of_selects (args := #[]) (mvT hZ (hw _ (List.mem_of_getElem? (i := 18) rfl)))) (mvT hZ (hw _ (List.mem_of_getElem? (i := 18) rfl))) (mvT hZ (hw _ (List.mem_of_getElem? (i := 17) rfl))) (by decide) (backOf (W := 0) (rm3n l Z a0 hw [] b1 mb mc (4 : Int32) k f g bb h n0 Zh M rb (own_Inv_b inv (by decide)) hf) hZ (hw _ (List.mem_of_getElem? (i := 19) rfl)) (hw _ (List.mem_of_getElem? (i := 2) rfl)) (by decide) (by decide)) q40a q40c (g := (mkF m 53 #[.val (.int p1), .val (.int p2), .val (.int p3), .val (.int p4), .val (.int aa), .val (.int bb), .val (.int cc), .val (.int kn), .val (.ref b1), .unset, .unset, .unset, .unset, .unset, .unset, .unset] [(.int bb), (.ref b1)])) rfl (by rw [hml]; rfl) (Steps.refl _) (argsL := [(.int bb)]) (rest := []) (lenOf pd_2 rfl) rfl (by show 2 * 0 + _ ≤ _; exact Nat.le_of_eq rfl) (hb hby at_53) (fun _ _ => ⟨rfl, eT, (by decide : 3 + 0 ≤ _), (by decide : 11 + 0 ≤ _)⟩)
          dsimp only [Pt.U, Pt.locs, Pt.cells, Pt.slots] at X40 l40 y40 z40 st40 hQ40
          subst l40 y40 z40
          obtain ⟨rfl, N40q, KK40, M40⟩ := hQ40
          have N40 := Fr.app N N40q
          refine own_pre (B := (T40.setTop (mkF m 57 #[.val (.int p1), .val (.int p2), .val (.int p3), .val (.int p4), .val (.int aa), .val (.int bb), .val (.int cc), .val (.int kn), .val (.ref b1), .unset, .unset, .unset, .unset, .unset, .unset, .unset] []))) (fun t kt => ?_) ?_
          · refine st40.trans ?_
            show Steps p.tables e below (T40.setTop (mkF m 56 _ [(.int (1 : Int32))])) _
            refine XS.pop X40.here hx rfl (hb hby at_56) rfl rfl ?_
            exact kt
          exact S57 _ _ _ _ _ _ X40 rfl N40 (Nat.le_trans Zh KK40.1) M40 (own_Inv_add inv (by decide) rb)
        · obtain ⟨cq41, kq41, q41a, q41b, q41c⟩ := isOf hZ eT M.1
          obtain ⟨_, _, ⟨T41, L41, k41, n41⟩, -, X41, ⟨Lc41, hQ41, l41, y41, z41⟩, st41⟩ := X.virtualBack hx (y := (⟨"com/example/faregraph/faregraph/search/Members", "add", "(I)Z"⟩ : MethodName)) (z := (⟨"com/example/faregraph/faregraph/search/Members", "add", "(I)Z"⟩ : MethodName)) hown (mvT hZ (hw _ (List.mem_of_getElem? (i := 15) rfl))) (mvT hZ (hw _ (List.mem_of_getElem? (i := 16) rfl))) (notFace_of_selects (args := #[]) (mvT hZ (hw _ (List.mem_of_getElem? (i := 18) rfl)))) (mvT hZ (hw _ (List.mem_of_getElem? (i := 18) rfl))) (mvT hZ (hw _ (List.mem_of_getElem? (i := 17) rfl))) (by decide) (backOf (W := 0) (rm3y l Z a0 hw [] b1 mb mc (4 : Int32) k f g bb h n0 Zh M rb hf) hZ (hw _ (List.mem_of_getElem? (i := 19) rfl)) (hw _ (List.mem_of_getElem? (i := 2) rfl)) (by decide) (by decide)) q41a q41c (g := (mkF m 53 #[.val (.int p1), .val (.int p2), .val (.int p3), .val (.int p4), .val (.int aa), .val (.int bb), .val (.int cc), .val (.int kn), .val (.ref b1), .unset, .unset, .unset, .unset, .unset, .unset, .unset] [(.int bb), (.ref b1)])) rfl (by rw [hml]; rfl) (Steps.refl _) (argsL := [(.int bb)]) (rest := []) (lenOf pd_2 rfl) rfl (by show 2 * 0 + _ ≤ _; exact Nat.le_of_eq rfl) (hb hby at_53) (fun _ _ => ⟨rfl, eT, (by decide : 3 + 0 ≤ _), (by decide : 11 + 0 ≤ _)⟩)
          dsimp only [Pt.U, Pt.locs, Pt.cells, Pt.slots] at X41 l41 y41 z41 st41 hQ41
          subst l41 y41 z41
          obtain ⟨rfl, N41q, e41⟩ := hQ41
          have N41 := Fr.app N N41q
          refine own_pre (B := (T41.setTop (mkF m 57 #[.val (.int p1), .val (.int p2), .val (.int p3), .val (.int p4), .val (.int aa), .val (.int bb), .val (.int cc), .val (.int kn), .val (.ref b1), .unset, .unset, .unset, .unset, .unset, .unset, .unset] []))) (fun t kt => ?_) ?_
          · refine st41.trans ?_
            show Steps p.tables e below (T41.setTop (mkF m 56 _ [(.int (0 : Int32))])) _
            refine XS.pop X41.here hx rfl (hb hby at_56) rfl rfl ?_
            exact kt
          exact S57 _ _ _ _ _ _ X41 e41 N41 Zh M (own_Inv_up inv)
      · refine own_pre (B := (T.setTop (mkF m 57 #[.val (.int p1), .val (.int p2), .val (.int p3), .val (.int p4), .val (.int aa), .val (.int bb), .val (.int cc), .val (.int kn), .val (.ref b1), .unset, .unset, .unset, .unset, .unset, .unset, .unset] []))) (fun t kt => ?_) ?_
        · show Steps p.tables e below (T.setTop (mkF m 46 _ [(.int (1 : Int32)), (.int kn)])) _
          refine XS.icmpYes X.here hx rfl (pc0 := 46) (pc' := 57) rfl (hb hby at_46) rfl (flt (hc46 : ¬ ((1 : Int32) < kn))).2.2.2 (by decide) (by decide) ?_
          exact kt
        exact S57 _ _ _ _ _ _ X eT N Zh M (own_Inv_up inv)
    have inv := own_Inv_zero
    refine own_pre (B := (T2.setTop (mkF m 32 #[.val (.int p1), .val (.int p2), .val (.int p3), .val (.int p4), .val (.int aa), .val (.int bb), .val (.int cc), .val (.int kn), .val (.ref b1), .unset, .unset, .unset, .unset, .unset, .unset, .unset] [(.int kn)]))) (fun t kt => ?_) ?_
    · show Steps p.tables e below (T2.setTop (mkF m 30 _ [])) _
      refine XS.iload X2.here hx rfl (hb hby at_30) rfl ?_
      exact kt
    by_cases hc32 : (0 : Int32) < kn
    · refine own_pre (B := (T2.setTop (mkF m 35 #[.val (.int p1), .val (.int p2), .val (.int p3), .val (.int p4), .val (.int aa), .val (.int bb), .val (.int cc), .val (.int kn), .val (.ref b1), .unset, .unset, .unset, .unset, .unset, .unset, .unset] []))) (fun t kt => ?_) ?_
      · show Steps p.tables e below (T2.setTop (mkF m 32 _ [(.int kn)])) _
        refine XS.ifNo X2.here hx rfl (hb hby at_32) rfl ((if0 _ _).trans (tlt (hc32 : (0 : Int32) < kn)).2.2.2) ?_
        exact kt
      refine own_pre (B := (T2.setTop (mkF m 39 #[.val (.int p1), .val (.int p2), .val (.int p3), .val (.int p4), .val (.int aa), .val (.int bb), .val (.int cc), .val (.int kn), .val (.ref b1), .unset, .unset, .unset, .unset, .unset, .unset, .unset] [(.int aa), (.ref b1)]))) (fun t kt => ?_) ?_
      · show Steps p.tables e below (T2.setTop (mkF m 35 _ [])) _
        refine XS.aload X2.here hx rfl (hb hby at_35) rfl rfl ?_
        show Steps p.tables e below (T2.setTop (mkF m 37 _ [(.ref b1)])) _
        refine XS.iload X2.here hx rfl (hb hby at_37) rfl ?_
        exact kt
      rcases inv.1 (aa).toNatClampNeg (own_lt4 ra) with hf | hf
      · obtain ⟨cq42, kq42, q42a, q42b, q42c⟩ := isOf hZ rfl M2.1
        obtain ⟨_, _, ⟨T42, L42, k42, n42⟩, -, X42, ⟨Lc42, hQ42, l42, y42, z42⟩, st42⟩ := X2.virtualBack hx (y := (⟨"com/example/faregraph/faregraph/search/Members", "add", "(I)Z"⟩ : MethodName)) (z := (⟨"com/example/faregraph/faregraph/search/Members", "add", "(I)Z"⟩ : MethodName)) hown (mvT hZ (hw _ (List.mem_of_getElem? (i := 15) rfl))) (mvT hZ (hw _ (List.mem_of_getElem? (i := 16) rfl))) (notFace_of_selects (args := #[]) (mvT hZ (hw _ (List.mem_of_getElem? (i := 18) rfl)))) (mvT hZ (hw _ (List.mem_of_getElem? (i := 18) rfl))) (mvT hZ (hw _ (List.mem_of_getElem? (i := 17) rfl))) (by decide) (backOf (W := 0) (rm3n l Z a0 hw [] b1 mb mc (4 : Int32) (0 : Int32) (fun _ => (0 : Int32)) (fun _ => (0 : Int32)) aa T2.heap n0 (Nat.le_trans (Nat.le_trans Z0 E1.1) KK2.1) M2 ra (own_Inv_b inv (by decide)) hf) hZ (hw _ (List.mem_of_getElem? (i := 19) rfl)) (hw _ (List.mem_of_getElem? (i := 2) rfl)) (by decide) (by decide)) q42a q42c (g := (mkF m 39 #[.val (.int p1), .val (.int p2), .val (.int p3), .val (.int p4), .val (.int aa), .val (.int bb), .val (.int cc), .val (.int kn), .val (.ref b1), .unset, .unset, .unset, .unset, .unset, .unset, .unset] [(.int aa), (.ref b1)])) rfl (by rw [hml]; rfl) (Steps.refl _) (argsL := [(.int aa)]) (rest := []) (lenOf pd_2 rfl) rfl (by show 2 * 0 + _ ≤ _; exact Nat.le_of_eq rfl) (hb hby at_39) (fun _ _ => ⟨rfl, rfl, (by decide : 3 + 0 ≤ _), (by decide : 11 + 0 ≤ _)⟩)
        dsimp only [Pt.U, Pt.locs, Pt.cells, Pt.slots] at X42 l42 y42 z42 st42 hQ42
        subst l42 y42 z42
        obtain ⟨rfl, N42q, KK42, M42⟩ := hQ42
        have N42 := Fr.app N2 N42q
        have E_b1_42 := E_b1_2.keep KK42
        have KC42 := Keep.trans KC2 KK42 (allS (P := fun x => x ∈ [] ∨ h0.size ≤ x) (Or.inr sz_b1) (allS (P := fun x => x ∈ [] ∨ h0.size ≤ x) (Or.inr sz_mb) (allS (P := fun x => x ∈ [] ∨ h0.size ≤ x) (Or.inr sz_mc) all0)))
        refine own_pre (B := (T42.setTop (mkF m 43 #[.val (.int p1), .val (.int p2), .val (.int p3), .val (.int p4), .val (.int aa), .val (.int bb), .val (.int cc), .val (.int kn), .val (.ref b1), .unset, .unset, .unset, .unset, .unset, .unset, .unset] []))) (fun t kt => ?_) ?_
        · refine st42.trans ?_
          show Steps p.tables e below (T42.setTop (mkF m 42 _ [(.int (1 : Int32))])) _
          refine XS.pop X42.here hx rfl (hb hby at_42) rfl rfl ?_
          exact kt
        exact S43 _ _ _ _ _ _ X42 rfl N42 (Nat.le_trans (Nat.le_trans (Nat.le_trans Z0 E1.1) KK2.1) KK42.1) M42 (own_Inv_add inv (by decide) ra)
      · obtain ⟨cq43, kq43, q43a, q43b, q43c⟩ := isOf hZ rfl M2.1
        obtain ⟨_, _, ⟨T43, L43, k43, n43⟩, -, X43, ⟨Lc43, hQ43, l43, y43, z43⟩, st43⟩ := X2.virtualBack hx (y := (⟨"com/example/faregraph/faregraph/search/Members", "add", "(I)Z"⟩ : MethodName)) (z := (⟨"com/example/faregraph/faregraph/search/Members", "add", "(I)Z"⟩ : MethodName)) hown (mvT hZ (hw _ (List.mem_of_getElem? (i := 15) rfl))) (mvT hZ (hw _ (List.mem_of_getElem? (i := 16) rfl))) (notFace_of_selects (args := #[]) (mvT hZ (hw _ (List.mem_of_getElem? (i := 18) rfl)))) (mvT hZ (hw _ (List.mem_of_getElem? (i := 18) rfl))) (mvT hZ (hw _ (List.mem_of_getElem? (i := 17) rfl))) (by decide) (backOf (W := 0) (rm3y l Z a0 hw [] b1 mb mc (4 : Int32) (0 : Int32) (fun _ => (0 : Int32)) (fun _ => (0 : Int32)) aa T2.heap n0 (Nat.le_trans (Nat.le_trans Z0 E1.1) KK2.1) M2 ra hf) hZ (hw _ (List.mem_of_getElem? (i := 19) rfl)) (hw _ (List.mem_of_getElem? (i := 2) rfl)) (by decide) (by decide)) q43a q43c (g := (mkF m 39 #[.val (.int p1), .val (.int p2), .val (.int p3), .val (.int p4), .val (.int aa), .val (.int bb), .val (.int cc), .val (.int kn), .val (.ref b1), .unset, .unset, .unset, .unset, .unset, .unset, .unset] [(.int aa), (.ref b1)])) rfl (by rw [hml]; rfl) (Steps.refl _) (argsL := [(.int aa)]) (rest := []) (lenOf pd_2 rfl) rfl (by show 2 * 0 + _ ≤ _; exact Nat.le_of_eq rfl) (hb hby at_39) (fun _ _ => ⟨rfl, rfl, (by decide : 3 + 0 ≤ _), (by decide : 11 + 0 ≤ _)⟩)
        dsimp only [Pt.U, Pt.locs, Pt.cells, Pt.slots] at X43 l43 y43 z43 st43 hQ43
        subst l43 y43 z43
        obtain ⟨rfl, N43q, e43⟩ := hQ43
        have N43 := Fr.app N2 N43q
        refine own_pre (B := (T43.setTop (mkF m 43 #[.val (.int p1), .val (.int p2), .val (.int p3), .val (.int p4), .val (.int aa), .val (.int bb), .val (.int cc), .val (.int kn), .val (.ref b1), .unset, .unset, .unset, .unset, .unset, .unset, .unset] []))) (fun t kt => ?_) ?_
        · refine st43.trans ?_
          show Steps p.tables e below (T43.setTop (mkF m 42 _ [(.int (0 : Int32))])) _
          refine XS.pop X43.here hx rfl (hb hby at_42) rfl rfl ?_
          exact kt
        exact S43 _ _ _ _ _ _ X43 e43 N43 (Nat.le_trans (Nat.le_trans Z0 E1.1) KK2.1) M2 (own_Inv_up inv)
    · refine own_pre (B := (T2.setTop (mkF m 43 #[.val (.int p1), .val (.int p2), .val (.int p3), .val (.int p4), .val (.int aa), .val (.int bb), .val (.int cc), .val (.int kn), .val (.ref b1), .unset, .unset, .unset, .unset, .unset, .unset, .unset] []))) (fun t kt => ?_) ?_
      · show Steps p.tables e below (T2.setTop (mkF m 32 _ [(.int kn)])) _
        refine XS.ifYes X2.here hx rfl (pc0 := 32) (pc' := 43) rfl (hb hby at_32) rfl ((if0 _ _).trans (flt (hc32 : ¬ ((0 : Int32) < kn))).2.2.2) (by decide) (by decide) ?_
        exact kt
      exact S43 _ _ _ _ _ _ X2 rfl N2 (Nat.le_trans (Nat.le_trans Z0 E1.1) KK2.1) M2 (own_Inv_up inv)
  refine own_pre (B := (s₁.setTop (mkF m 20 #[.val (.int p1), .val (.int p2), .val (.int p3), .val (.int p4), .val (.int (p1 &&& (3 : Int32))), .val (.int (p2 &&& (3 : Int32))), .val (.int (p3 &&& (3 : Int32))), .val (.int (p4 &&& (3 : Int32))), .unset, .unset, .unset, .unset, .unset, .unset, .unset, .unset] []))) (fun t kt => ?_) ?_
  · show Steps p.tables e below (s₁.setTop (mkF m 0 _ [])) _
    refine XS.iloadN X0.here hx rfl (hb hby at_0) rfl ?_
    show Steps p.tables e below (s₁.setTop (mkF m 1 _ [(.int p1)])) _
    refine XS.iconst X0.here hx rfl (hb hby at_1) ?_
    show Steps p.tables e below (s₁.setTop (mkF m 2 _ [(.int (3 : Int32)), (.int p1)])) _
    refine XS.iand X0.here hx rfl (hb hby at_2) rfl ?_
    show Steps p.tables e below (s₁.setTop (mkF m 3 _ [(.int (p1 &&& (3 : Int32)))])) _
    refine XS.istore X0.here hx rfl (hb hby at_3) rfl (l' := #[.val (.int p1), .val (.int p2), .val (.int p3), .val (.int p4), .val (.int (p1 &&& (3 : Int32))), .unset, .unset, .unset, .unset, .unset, .unset, .unset, .unset, .unset, .unset, .unset]) rfl ?_
    show Steps p.tables e below (s₁.setTop (mkF m 5 _ [])) _
    refine XS.iloadN X0.here hx rfl (hb hby at_5) rfl ?_
    show Steps p.tables e below (s₁.setTop (mkF m 6 _ [(.int p2)])) _
    refine XS.iconst X0.here hx rfl (hb hby at_6) ?_
    show Steps p.tables e below (s₁.setTop (mkF m 7 _ [(.int (3 : Int32)), (.int p2)])) _
    refine XS.iand X0.here hx rfl (hb hby at_7) rfl ?_
    show Steps p.tables e below (s₁.setTop (mkF m 8 _ [(.int (p2 &&& (3 : Int32)))])) _
    refine XS.istore X0.here hx rfl (hb hby at_8) rfl (l' := #[.val (.int p1), .val (.int p2), .val (.int p3), .val (.int p4), .val (.int (p1 &&& (3 : Int32))), .val (.int (p2 &&& (3 : Int32))), .unset, .unset, .unset, .unset, .unset, .unset, .unset, .unset, .unset, .unset]) rfl ?_
    show Steps p.tables e below (s₁.setTop (mkF m 10 _ [])) _
    refine XS.iloadN X0.here hx rfl (hb hby at_10) rfl ?_
    show Steps p.tables e below (s₁.setTop (mkF m 11 _ [(.int p3)])) _
    refine XS.iconst X0.here hx rfl (hb hby at_11) ?_
    show Steps p.tables e below (s₁.setTop (mkF m 12 _ [(.int (3 : Int32)), (.int p3)])) _
    refine XS.iand X0.here hx rfl (hb hby at_12) rfl ?_
    show Steps p.tables e below (s₁.setTop (mkF m 13 _ [(.int (p3 &&& (3 : Int32)))])) _
    refine XS.istore X0.here hx rfl (hb hby at_13) rfl (l' := #[.val (.int p1), .val (.int p2), .val (.int p3), .val (.int p4), .val (.int (p1 &&& (3 : Int32))), .val (.int (p2 &&& (3 : Int32))), .val (.int (p3 &&& (3 : Int32))), .unset, .unset, .unset, .unset, .unset, .unset, .unset, .unset, .unset]) rfl ?_
    show Steps p.tables e below (s₁.setTop (mkF m 15 _ [])) _
    refine XS.iloadN X0.here hx rfl (hb hby at_15) rfl ?_
    show Steps p.tables e below (s₁.setTop (mkF m 16 _ [(.int p4)])) _
    refine XS.iconst X0.here hx rfl (hb hby at_16) ?_
    show Steps p.tables e below (s₁.setTop (mkF m 17 _ [(.int (3 : Int32)), (.int p4)])) _
    refine XS.iand X0.here hx rfl (hb hby at_17) rfl ?_
    show Steps p.tables e below (s₁.setTop (mkF m 18 _ [(.int (p4 &&& (3 : Int32)))])) _
    refine XS.istore X0.here hx rfl (hb hby at_18) rfl (l' := #[.val (.int p1), .val (.int p2), .val (.int p3), .val (.int p4), .val (.int (p1 &&& (3 : Int32))), .val (.int (p2 &&& (3 : Int32))), .val (.int (p3 &&& (3 : Int32))), .val (.int (p4 &&& (3 : Int32))), .unset, .unset, .unset, .unset, .unset, .unset, .unset, .unset]) rfl ?_
    exact kt
  exact K20 _ _ _ _ (own_m3 p1) (own_m3 p2) (own_m3 p3)
set_option maxRecDepth 65536 in
set_option maxHeartbeats 40000000 in
theorem comes_1 {Post : Tables → Env → Array Value → State → Outcome → State → Prop} (hpost : ∀ tb e args s v u, (limb_1_1.after args s (.returned v) u = true ∧ limb_1_2.after args s (.returned v) u = true ∧ True) → FrameEnd s (.returned v) u (Jvm.fieldLocs frame_1_writes args s ++ Jvm.arrayLocs frame_1_arrays args s ++ Jvm.staticLocs frame_1_statics s) 16 128 → Post tb e args s (.returned v) u) :
    ArmFor flags0 classFile x code maxLocals ret World_1 tables_1 room_1 Calls_1 rest_1 Pre_1 Post := by
  intro l hfl _ _ p e ha hc hk s m args below hf hA hF happ hP
  obtain ⟨hcalls, hrest, hpre⟩ := hP
  obtain ⟨-, -, -, hnamed, -, -, -, hat⟩ := (Spec.applies_iff hf).mp happ
  obtain ⟨hg, hn⟩ := and_e (Cond.before_iff.mp (show (Jvm.Cond.and given_1 narrow_1).before args s = true from hpre))
  obtain ⟨gc, gr0⟩ := and_e hg
  obtain ⟨ga0, gr1⟩ := and_e gr0
  obtain ⟨ga1, gr2⟩ := and_e gr1
  obtain ⟨ga2, gr3⟩ := and_e gr2
  obtain ⟨w0, w1, w2, w3, rfl⟩ : ∃ w0 w1 w2 w3 : Value, args = #[w0, w1, w2, w3] := by
    have hs : args.size = 4 := by simpa [Cond.value, given_1] using gc
    obtain ⟨L⟩ := args
    match L, hs with
    | [w0, w1, w2, w3], _ => exact ⟨w0, w1, w2, w3, rfl⟩
  have hw := fun d (hd : d ∈ tables_1) => atoms_spec (ws := Jvm.Cond.code x code maxLocals ret :: tables_1) hat d (List.mem_cons_of_mem _ hd)
  have hfit : Fit s := fun {y c} hc i hi => by
    obtain ⟨ha, rfl⟩ := Array.getElem?_eq_some_iff.mp hc
    have q := List.all_eq_true.mp ((Array.all_eq_true_iff_forall_mem.mp hF) _ (Array.getElem_mem ha)) i (List.mem_range.mpr hi)
    simpa [Array.getElem?_eq_getElem hi] using q
  obtain ⟨i0, ei0⟩ := is_v ga0
  obtain rfl : w0 = (.int i0) := Option.some.inj ei0
  obtain ⟨i1, ei1⟩ := is_v ga1
  obtain rfl : w1 = (.int i1) := Option.some.inj ei1
  obtain ⟨i2, ei2⟩ := is_v ga2
  obtain rfl : w2 = (.int i2) := Option.some.inj ei2
  obtain ⟨i3, ei3⟩ := is_v gr3
  obtain rfl : w3 = (.int i3) := Option.some.inj ei3
  obtain ⟨n, o, h1, h2, h3, _, L, rfl, ⟨rfl, N⟩, hq⟩ := rm0 l s _ hw tables_1 i0 i1 i2 i3 s.heap s.heap.size (Nat.le_refl _)  p e ha hc hk s m _ below hf ((Spec.applies_iff_loose hf).mp happ).1 ⟨rfl, State.Warmed39.refl s, rfl⟩ trivial
  refine ⟨n, _, h1, h2, h3, hpost _ _ _ _ _ _ ⟨Cond.after_iff.mpr rfl, Cond.after_iff.mpr (eq_i res_at (Term.int_eval (1)) rfl), trivial⟩ ⟨hq.1, hq.2.1, (hq.2.2.sift fun y hy => Or.inr (N y hy)).mono (by decide) (by decide)⟩⟩
theorem main_1_1 : Claimed_1_1 := comes_1 fun _ _ _ _ _ _ h hF => ⟨h.1, hF⟩
theorem main_1_2 : Claimed_1_2 := comes_1 fun _ _ _ _ _ _ h hF => ⟨h.2.1, hF⟩
end Jvm.Pilot.@@N@@
namespace Jvm.Pilot.@@N@@
open Jvm Jvm.ClassFile Sem Op Lib Jvm.Free Jvm.Stand Jvm.Pilot.@@N@@.Jvm.D
/-! MADE BY PROGRAM (witnessworld.py) out of the Statement's table words and the real class files: 11 classes; the members and pool entries that the words name. The judged class is class 1, her method 1. -/
namespace start1
open Jvm.ClassFile
def u (s : String) : CpInfo := .utf8 (stringToUtf16 s)
/-- a pool by its gaps: so many unusable entries, then the entry; so many at the end -/
def gap : Nat → List CpInfo → List CpInfo
  | 0, r => r
  | n + 1, r => .unusable :: gap n r
def poolList (es : List (Nat × CpInfo)) (last : Nat) : List CpInfo := es.foldr (fun e r => gap e.1 (e.2 :: r)) (gap last [])
def pool (es : List (Nat × CpInfo)) (last : Nat) : Array CpInfo := ⟨poolList es last⟩
def fileOf (pool : Array CpInfo) (this : Nat) (attrs : Array Attribute := #[]) (ms : Array MethodInfo := #[]) (fl : Nat := 33) (sup : Nat := 0) (ifs : Array Nat := #[]) (fds : Array FieldInfo := #[]) : ClassFile where
  minorVersion := 0
  majorVersion := 65
  constantPool := pool
  accessFlags := fl
  thisClass := this
  superClass := sup
  interfaces := ifs
  fields := fds
  methods := ms
  attributes := attrs
def plain (name : String) (sup : Option ClassId) : Class where
  name := name
  kind := .ordinary
  loader := none
  accessFlags := 33
  super := sup
  interfaces := #[]
  cf := none
  fields := #[]
  methods := #[]
  instanceTypes := #[]
  staticTypes := #[]
  resolved := #[]
  callSites := []
  init := .initialized
  statics := none
  mirror := none

def pool0 : Array CpInfo := pool [(5, u "<init>"), (0, u "()V"), (1, .class_ 10), (1, u "java/lang/Object")] 113

def k0c0 : Code := { maxStack := 0, maxLocals := 1, code := object_method_1_code, exceptionTable := #[], attributes := #[] }
def k0m0 : Method := { name := "<init>", desc := "()V", sig := { parameters := [], returnType := none }, accessFlags := 1, code := some k0c0 }
/-- java/lang/Object -/
def k0 : Class := { plain "java/lang/Object" none with
  accessFlags := 33
  interfaces := #[]
  cf := some (fileOf pool0 8 #[] #[{ accessFlags := 1, nameIndex := 5, descriptorIndex := 6, attributes := #[] }] 33 0 #[] #[])
  fields := #[]
  methods := #[k0m0]
  instanceTypes := #[]
  staticTypes := #[]
  resolved := Array.replicate 124 none
  statics := none }

def pool1 : Array CpInfo := pool [(2, .class_ 4), (1, u "java/lang/Object"), (0, u "<init>"), (0, u "()V"), (0, .class_ 8), (0, u "com/example/faregraph/faregraph/search/Members"), (0, .methodref 7 10), (0, .nameAndType 5 11), (0, u "(I)V"), (0, .methodref 7 13), (0, .nameAndType 14 15), (0, u "add"), (0, u "(I)Z"), (0, .methodref 7 17), (0, .nameAndType 18 6), (0, u "clear"), (0, .methodref 7 20), (0, .nameAndType 21 22), (0, u "count"), (0, u "()I"), (0, .methodref 7 24), (0, .nameAndType 25 26), (0, u "get"), (0, u "(I)I"), (0, .class_ 28), (0, u "com/example/faregraph/faregraph/search/MembersClearPinLaw"), (2, u "law"), (0, u "(IIII)Z")] 3

def k1m0 : Method := { name := "<init>", desc := "()V", sig := { parameters := [], returnType := none }, accessFlags := 1, code := none }
def k1c1 : Code := { maxStack := 3, maxLocals := 16, code := code, exceptionTable := #[], attributes := #[] }
def k1m1 : Method := { name := "law", desc := "(IIII)Z", sig := { parameters := [.int, .int, .int, .int], returnType := some .boolean }, accessFlags := 9, code := some k1c1 }
/-- com/example/faregraph/faregraph/search/MembersClearPinLaw -/
def k1 : Class := { plain "com/example/faregraph/faregraph/search/MembersClearPinLaw" (some 0) with
  accessFlags := 49
  interfaces := #[]
  cf := some (fileOf pool1 27 #[] #[{ accessFlags := 1, nameIndex := 5, descriptorIndex := 6, attributes := #[] }, { accessFlags := 9, nameIndex := 31, descriptorIndex := 32, attributes := #[] }] 49 2 #[] #[])
  fields := #[]
  methods := #[k1m0, k1m1]
  instanceTypes := #[]
  staticTypes := #[]
  resolved := Array.replicate 36 none
  statics := none }

def pool2 : Array CpInfo := pool [(1, .methodref 2 3), (0, .class_ 4), (0, .nameAndType 5 6), (0, u "java/lang/Object"), (0, u "<init>"), (0, u "()V"), (0, .fieldref 8 9), (0, .class_ 10), (0, .nameAndType 11 12), (0, u "com/example/faregraph/faregraph/search/Members"), (0, u "member"), (0, u "[Z"), (0, .fieldref 8 14), (0, .nameAndType 15 16), (0, u "members"), (0, u "[I"), (0, .fieldref 8 18), (0, .nameAndType 19 20), (0, u "count"), (0, u "I"), (0, u "(I)V"), (2, u "add"), (0, u "(I)Z"), (1, u "()I"), (0, u "get"), (0, u "(I)I"), (0, u "clear")] 2

def k2c0 : Code := { maxStack := 2, maxLocals := 2, code := prog_85_method_1_code, exceptionTable := #[], attributes := #[] }
def k2m0 : Method := { name := "<init>", desc := "(I)V", sig := { parameters := [.int], returnType := none }, accessFlags := 0, code := some k2c0 }
def k2c1 : Code := { maxStack := 5, maxLocals := 2, code := prog_85_method_2_code, exceptionTable := #[], attributes := #[] }
def k2m1 : Method := { name := "add", desc := "(I)Z", sig := { parameters := [.int], returnType := some .boolean }, accessFlags := 0, code := some k2c1 }
def k2c2 : Code := { maxStack := 1, maxLocals := 1, code := prog_85_method_3_code, exceptionTable := #[], attributes := #[] }
def k2m2 : Method := { name := "count", desc := "()I", sig := { parameters := [], returnType := some .int }, accessFlags := 0, code := some k2c2 }
def k2c3 : Code := { maxStack := 2, maxLocals := 2, code := prog_85_method_4_code, exceptionTable := #[], attributes := #[] }
def k2m3 : Method := { name := "get", desc := "(I)I", sig := { parameters := [.int], returnType := some .int }, accessFlags := 0, code := some k2c3 }
def k2c4 : Code := { maxStack := 3, maxLocals := 2, code := prog_85_method_5_code, exceptionTable := #[], attributes := #[] }
def k2m4 : Method := { name := "clear", desc := "()V", sig := { parameters := [], returnType := none }, accessFlags := 0, code := some k2c4 }
/-- com/example/faregraph/faregraph/search/Members -/
def k2 : Class := { plain "com/example/faregraph/faregraph/search/Members" (some 0) with
  accessFlags := 48
  interfaces := #[]
  cf := some (fileOf pool2 8 #[] #[{ accessFlags := 0, nameIndex := 5, descriptorIndex := 21, attributes := #[] }, { accessFlags := 0, nameIndex := 24, descriptorIndex := 25, attributes := #[] }, { accessFlags := 0, nameIndex := 19, descriptorIndex := 27, attributes := #[] }, { accessFlags := 0, nameIndex := 28, descriptorIndex := 29, attributes := #[] }, { accessFlags := 0, nameIndex := 30, descriptorIndex := 6, attributes := #[] }] 48 2 #[] #[{ accessFlags := 18, nameIndex := 11, descriptorIndex := 12, attributes := #[] }, { accessFlags := 18, nameIndex := 15, descriptorIndex := 16, attributes := #[] }, { accessFlags := 2, nameIndex := 19, descriptorIndex := 20, attributes := #[] }])
  fields := #[{ name := "member", type := (.array .boolean), accessFlags := 18, slot := 0, constantValue := 0 }, { name := "members", type := (.array .int), accessFlags := 18, slot := 1, constantValue := 0 }, { name := "count", type := .int, accessFlags := 2, slot := 2, constantValue := 0 }]
  methods := #[k2m0, k2m1, k2m2, k2m3, k2m4]
  instanceTypes := #[(.array .boolean), (.array .int), .int]
  staticTypes := #[]
  resolved := Array.replicate 33 none
  statics := none }

def pool3 : Array CpInfo := pool [(1, u "java/lang/Cloneable"), (0, .class_ 1), (0, u "java/lang/Object"), (0, .class_ 3)] 3

/-- java/lang/Cloneable -/
def k3 : Class := { plain "java/lang/Cloneable" (some 0) with
  accessFlags := 1537
  interfaces := #[]
  cf := some (fileOf pool3 2 #[] #[] 1537 4 #[] #[])
  fields := #[]
  methods := #[]
  instanceTypes := #[]
  staticTypes := #[]
  resolved := Array.replicate 8 none
  statics := none }

def pool4 : Array CpInfo := pool [(1, u "java/io/Serializable"), (0, .class_ 1), (0, u "java/lang/Object"), (0, .class_ 3)] 3

/-- java/io/Serializable -/
def k4 : Class := { plain "java/io/Serializable" (some 0) with
  accessFlags := 1537
  interfaces := #[]
  cf := some (fileOf pool4 2 #[] #[] 1537 4 #[] #[])
  fields := #[]
  methods := #[]
  instanceTypes := #[]
  staticTypes := #[]
  resolved := Array.replicate 8 none
  statics := none }

/-- the primitive boolean -/
def k5 : Class := { plain "boolean" none with kind := .primitive 'Z', accessFlags := 0x411 }
/-- [Z -/
def k6 : Class := { plain "[Z" (some 0) with kind := .array 5 .boolean, interfaces := #[3, 4], accessFlags := 1041 }

/-- the primitive byte -/
def k7 : Class := { plain "byte" none with kind := .primitive 'B', accessFlags := 0x411 }
/-- [B -/
def k8 : Class := { plain "[B" (some 0) with kind := .array 7 .byte, interfaces := #[3, 4], accessFlags := 1041 }

/-- the primitive int -/
def k9 : Class := { plain "int" none with kind := .primitive 'I', accessFlags := 0x411 }
/-- [I -/
def k10 : Class := { plain "[I" (some 0) with kind := .array 9 .int, interfaces := #[3, 4], accessFlags := 1041 }

def heap : Heap := #[]
def classes : Array Class := #[k0, k1, k2, k3, k4, k5, k6, k7, k8, k9, k10]
def interned : List (Array UInt16 × Addr) := []
def slotsUsed : Nat := 0
def theMethod : MethodId := ⟨1, 1⟩
def args0 : Array Value := #[.int 1, .int 2, .int 3, .int 3]
def aboutOver (below : List Frame) : State where
  vm := { classes := classes, interned := interned.toArray }
  heap := heap
  slotsUsed := slotsUsed
  threads := #[{ frames := .invoking theMethod args0 :: below }]
def below0 : List Frame := [.native { method := ⟨0, 0⟩, args := #[] }]
def about1 : State := aboutOver below0
def p0 : Program := .bare "" "" ""
def e0 : Env := launch0.env 0 0 0
theorem w_frames : about1.frames = Frame.invoking theMethod args0 :: below0 := rfl
set_option maxRecDepth 65536 in
theorem w_args : argsFit about1.vm theMethod args0 = true := by decide +kernel
set_option maxRecDepth 65536 in
theorem w_heap : heapFits about1 = true := by decide +kernel
set_option maxRecDepth 65536 in
theorem w_runnable : about1.curStatus? = some .runnable := by decide +kernel
set_option maxRecDepth 65536 in
theorem w_alone : about1.alone = true := by decide +kernel
set_option maxRecDepth 65536 in
theorem w_named : about1.methodNamed? x = some theMethod := by decide +kernel
set_option maxRecDepth 65536 in
theorem w_hears : about1.hears theMethod below0 = true := by decide +kernel
set_option maxRecDepth 65536 in
theorem w_ripe : about1.ripe theMethod args0 below0 = true := by decide +kernel
theorem w_running : about1.status = .running := rfl
set_option maxRecDepth 65536 in
theorem w_room : about1.hasRoom e0.platform room_1 = true :=
  launch0.hasRoom_least _ room_1 (by decide +kernel) (by decide +kernel) (by decide +kernel) (by decide +kernel) (by decide +kernel) (by decide +kernel)
theorem allAtoms_all (ts : List Jvm.Cond) (a : Array Jvm.Value) (st : Jvm.State) : (allAtoms ts).before a st = ts.all (fun c => c.before a st) := by
  induction ts with
  | nil => rfl
  | cons c t ih =>
    show (Jvm.Cond.and c (allAtoms t)).before a st = _
    rw [Jvm.Cond.before_and, ih, List.all_cons]
def words1 : List Jvm.Cond := Jvm.Cond.code x code maxLocals ret :: tables_1
/-- a 'code' word, met by the world's own term for the bytes: nothing is compared byte by byte -/
theorem code_word {y : MethodName} {bytes : ByteArray} {mx : Nat} {rt : Option FieldType} {a : Array Value} {s : State} {m : MethodId} {meth : Method} {c : Code} (h1 : s.methodNamed? y = some m) (h2 : s.vm.method? m = some meth) (h3 : meth.code = some c) (h4 : c.code = bytes)
    (h5 : (c.maxLocals == mx && c.exceptionTable.isEmpty && decide (c.maxStack ≤ mostOperands) && decide (meth.sig.returnType = rt) && !meth.locks && decide (parseMethodDescriptor y.desc = some meth.sig)) = true) : (Jvm.Cond.code y bytes mx rt).before a s = true := by
  simp only [Bool.and_eq_true, beq_iff_eq, Bool.not_eq_true', decide_eq_true_eq] at h5
  obtain ⟨⟨⟨⟨⟨g1, g2⟩, g3⟩, g4⟩, g5⟩, g6⟩ := h5
  simp [Cond.before, Cond.holds, Cond.value, h1, h2, h3, h4, g1, g2, g3, g4, g5, g6]
def isCode : Jvm.Cond → Bool
  | .code _ _ _ _ => true
  | _ => false
theorem all_split {L : List Jvm.Cond} {P : Jvm.Cond → Bool} (h1 : L.all (fun c => isCode c || P c) = true) (h2 : ∀ c ∈ L.filter isCode, P c = true) : L.all P = true := by
  refine List.all_eq_true.mpr fun c hc => ?_
  have h := List.all_eq_true.mp h1 c hc
  rcases Bool.eq_false_or_eq_true (isCode c) with hi | hi
  · exact h2 c (List.mem_filter.mpr ⟨hc, hi⟩)
  · simpa [hi] using h
set_option maxRecDepth 65536 in
theorem w_c0 : (Jvm.Cond.code x code maxLocals ret).before args0 about1 = true := code_word (m := ⟨1, 1⟩) (meth := k1m1) (c := k1c1) (by decide +kernel) rfl rfl rfl (by decide +kernel)
set_option maxRecDepth 65536 in
theorem w_c1 : (Jvm.Cond.code ({ cls := "com/example/faregraph/faregraph/search/Members", name := "<init>", desc := "(I)V" } : Jvm.MethodName) prog_85_method_1_code (2 : Nat) (Option.none : Option Jvm.ClassFile.FieldType)).before args0 about1 = true := code_word (m := ⟨2, 0⟩) (meth := k2m0) (c := k2c0) (by decide +kernel) rfl rfl rfl (by decide +kernel)
set_option maxRecDepth 65536 in
theorem w_c2 : (Jvm.Cond.code ({ cls := "java/lang/Object", name := "<init>", desc := "()V" } : Jvm.MethodName) object_method_1_code (1 : Nat) (Option.none : Option Jvm.ClassFile.FieldType)).before args0 about1 = true := code_word (m := ⟨0, 0⟩) (meth := k0m0) (c := k0c0) (by decide +kernel) rfl rfl rfl (by decide +kernel)
set_option maxRecDepth 65536 in
theorem w_c3 : (Jvm.Cond.code ({ cls := "com/example/faregraph/faregraph/search/Members", name := "add", desc := "(I)Z" } : Jvm.MethodName) prog_85_method_2_code (2 : Nat) (Option.some Jvm.ClassFile.FieldType.boolean)).before args0 about1 = true := code_word (m := ⟨2, 1⟩) (meth := k2m1) (c := k2c1) (by decide +kernel) rfl rfl rfl (by decide +kernel)
set_option maxRecDepth 65536 in
theorem w_c4 : (Jvm.Cond.code ({ cls := "com/example/faregraph/faregraph/search/Members", name := "clear", desc := "()V" } : Jvm.MethodName) prog_85_method_5_code (2 : Nat) (Option.none : Option Jvm.ClassFile.FieldType)).before args0 about1 = true := code_word (m := ⟨2, 4⟩) (meth := k2m4) (c := k2c4) (by decide +kernel) rfl rfl rfl (by decide +kernel)
set_option maxRecDepth 65536 in
theorem w_c5 : (Jvm.Cond.code ({ cls := "com/example/faregraph/faregraph/search/Members", name := "count", desc := "()I" } : Jvm.MethodName) prog_85_method_3_code (1 : Nat) (Option.some Jvm.ClassFile.FieldType.int)).before args0 about1 = true := code_word (m := ⟨2, 2⟩) (meth := k2m2) (c := k2c2) (by decide +kernel) rfl rfl rfl (by decide +kernel)
set_option maxRecDepth 65536 in
theorem w_c6 : (Jvm.Cond.code ({ cls := "com/example/faregraph/faregraph/search/Members", name := "get", desc := "(I)I" } : Jvm.MethodName) prog_85_method_4_code (2 : Nat) (Option.some Jvm.ClassFile.FieldType.int)).before args0 about1 = true := code_word (m := ⟨2, 3⟩) (meth := k2m3) (c := k2c3) (by decide +kernel) rfl rfl rfl (by decide +kernel)
def codes1 : List Jvm.Cond := [Jvm.Cond.code x code maxLocals ret, Jvm.Cond.code ({ cls := "com/example/faregraph/faregraph/search/Members", name := "<init>", desc := "(I)V" } : Jvm.MethodName) prog_85_method_1_code (2 : Nat) (Option.none : Option Jvm.ClassFile.FieldType), Jvm.Cond.code ({ cls := "java/lang/Object", name := "<init>", desc := "()V" } : Jvm.MethodName) object_method_1_code (1 : Nat) (Option.none : Option Jvm.ClassFile.FieldType), Jvm.Cond.code ({ cls := "com/example/faregraph/faregraph/search/Members", name := "add", desc := "(I)Z" } : Jvm.MethodName) prog_85_method_2_code (2 : Nat) (Option.some Jvm.ClassFile.FieldType.boolean), Jvm.Cond.code ({ cls := "com/example/faregraph/faregraph/search/Members", name := "clear", desc := "()V" } : Jvm.MethodName) prog_85_method_5_code (2 : Nat) (Option.none : Option Jvm.ClassFile.FieldType), Jvm.Cond.code ({ cls := "com/example/faregraph/faregraph/search/Members", name := "count", desc := "()I" } : Jvm.MethodName) prog_85_method_3_code (1 : Nat) (Option.some Jvm.ClassFile.FieldType.int), Jvm.Cond.code ({ cls := "com/example/faregraph/faregraph/search/Members", name := "get", desc := "(I)I" } : Jvm.MethodName) prog_85_method_4_code (2 : Nat) (Option.some Jvm.ClassFile.FieldType.int)]
set_option maxRecDepth 65536 in
theorem codes_eq : words1.filter isCode = codes1 := rfl
theorem w_codes : ∀ c ∈ words1.filter isCode, c.before args0 about1 = true := by
  rw [codes_eq]
  intro c hc
  simp only [codes1, List.mem_cons, List.not_mem_nil, or_false] at hc
  rcases hc with rfl | rfl | rfl | rfl | rfl | rfl | rfl
  · exact w_c0
  · exact w_c1
  · exact w_c2
  · exact w_c3
  · exact w_c4
  · exact w_c5
  · exact w_c6
set_option maxRecDepth 65536 in
theorem w_t1 : (words1.take 24).all (fun c => isCode c || c.before args0 about1) = true := by decide +kernel
set_option maxRecDepth 65536 in
theorem w_t2 : (words1.drop 24).all (fun c => isCode c || c.before args0 about1) = true := by decide +kernel
theorem w_tables : (allAtoms (Jvm.Cond.code x code maxLocals ret :: tables_1)).before args0 about1 = true := by
  rw [allAtoms_all]
  show words1.all (fun c => c.before args0 about1) = true
  refine all_split ?_ w_codes
  rw [← List.take_append_drop 24 words1, List.all_append, w_t1, w_t2]
  rfl
set_option maxRecDepth 65536 in
theorem w_case : (Jvm.Cond.and given_1 narrow_1).before args0 about1 = true := by decide +kernel
theorem w_applies : (headSpec (Jvm.Cond.code x code maxLocals ret :: tables_1) room_1).applies x e0.platform about1 = true :=
  (Spec.applies_iff w_frames).mpr ⟨w_running, w_runnable, w_alone, w_named, w_hears, w_ripe, w_room, w_tables⟩
theorem atStart : AtStart classFile x code maxLocals ret World_1 tables_1 room_1 Calls_1 rest_1 Pre_1 launch0 p0 e0 about1 theMethod args0 below0 :=
  ⟨lists_1, trivial, launch0.admits_env _ _ _, launch0.least_env, fairChoices_fair.cas, fairChoices_fair.clock, w_frames, w_args, w_heap, w_applies, trivial, trivial, w_case⟩
end start1
theorem witness_1 : WitnessClaimed_1 := ⟨start1.p0, start1.e0, start1.about1, start1.theMethod, start1.args0, start1.below0, start1.atStart⟩
end Jvm.Pilot.@@N@@
