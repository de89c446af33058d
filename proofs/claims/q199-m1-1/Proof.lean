import JvmDerived
import JvmDerived.Pilot.@@N@@Statement
import JvmDerived.Pilot.@@N@@Code
set_option linter.unusedVariables false
set_option linter.unusedSimpArgs false
namespace Jvm.RoadKit
open Sem ClassFile Op Lib Jvm.Stand Jvm.Free Jvm.LawKit
section New
variable {p : Program} {l : Launch} {e : Env} {R : Room} {s : State} {m : MethodId} {args : Array Value} {below : List Frame} {meth : Method} {c : Code} {T : State} {locs : List Loc} {cells slots : Nat}
theorem retI (X : Stand p l e R s m args below meth c T locs cells slots) (hx : p.tables.exec = Jvm.exec) {pc : Nat} {Ls : Array Slot} {z : Int32} {rest : List Value} (hret : meth.sig.returnType = some .int) (hd : decode c.code pc = .ok (.ireturn, 1)) {fs : List Frame}
    (hl : ∀ (f : JFrame) (acts : List Action), f.method = m → f.locked = none → f.entered = [] → (doReturn e (T.setTop f) acts (some (.int z))).1 = T.setFrames fs) : Steps p.tables e below (T.setTop (mkF m pc Ls (.int z :: rest))) (T.setFrames fs) := by
  have hm' : T.vm.method? m = some meth := X.method'
  have hn : narrow .int (.int z) = .int z := rfl
  show Steps p.tables e below (T.setTop { method := m, pc := pc, locals := Ls, stack := _ :: rest, locked := none }) _
  jvm_step X.here [X.here.top, hx, hd, hm', hret, hn]
  first | (intro acts; rw [hl _ acts rfl rfl rfl]) | rw [hl _ _ rfl rfl rfl]
  exact Steps.refl _
end New
end Jvm.RoadKit
namespace Jvm.Pilot.@@N@@
open Jvm Jvm.ClassFile Sem Op Lib Jvm.Free Jvm.Stand Jvm.LawKit Jvm.RoadKit Bundle Jvm.Pilot.@@N@@.Jvm.D
theorem own_fld {Z : State} {args : Array Value} {t : Term} {C n d : String} {k : Int32} {x : Addr} (ht : t.eval args Z none [] Z = some (.ref x)) (h : (Jvm.Cond.eq (Term.field t C n d) (Term.int k)).value args Z none Z [] = some true) : Fld Z Z.heap x C n d (.int k) := by
  refine Fld.start ?_
  have e := fld_at (C := C) (n := n) (dd := d) ht
  obtain ⟨u, w, e1, e2, -, -⟩ := cmp_v (Or.inl h)
  rw [e] at e1
  have e3 : (Term.int k).eval args Z none [] Z = some (.int k) := Term.int_eval k
  cases e3.symm.trans e2
  have e4 : (Term.field t C n d).eval args Z none [] Z = some u := e.trans e1
  have h' := h
  cases u <;> simp [Jvm.Cond.value, e4, e3] at h'
  subst h'
  exact e1
theorem own_NSroot {Z : State} {a0 : Array Value} {O K : String} {n : Nat} (w : (Jvm.Cond.noSuperclass O).before a0 Z = true) (wk : (Jvm.Cond.instantiable K n).before a0 Z = true) (hn : O ≠ K) : NS Z O K := by
  obtain ⟨c, k, h1, h2, h3, -, -⟩ := Cond.noSuperclass_spec w
  obtain ⟨t, k', g1, -⟩ := Cond.instantiable_spec wk
  have ne := ids_ne h1 g1 hn
  refine ⟨c, t, h1, g1, fun fuel => ?_⟩
  cases fuel with
  | zero => rfl
  | succ f => simp [Vm.isSubclassAux, ne, h2, h3]
theorem own_NSno {Z : State} {a0 : Array Value} {C S K : String} {n : Nat} (w : (Jvm.Cond.superclass C S).before a0 Z = true) (wk : (Jvm.Cond.instantiable K n).before a0 Z = true) (ns : NS Z C K) (hn : C ≠ K) : ∃ c t, Z.vm.findClass C = some c ∧ Z.vm.findClass K = some t ∧ Z.vm.assignable c t = false := by
  obtain ⟨c, t, h0, g0, n3⟩ := ns
  obtain ⟨p, k, kp, h1, h2, h3, h4, h5, -, h7⟩ := Cond.superclass_spec h0 w
  obtain ⟨t', k', g1, g2, g5, g6, -⟩ := Cond.instantiable_spec wk
  cases g0.symm.trans g1
  have g7 : k'.isInterface = false := by cases q : k'.isInterface <;> simp [q] at g6 ⊢
  have ne := ids_ne h0 g0 hn
  refine ⟨c, t, h0, g0, ?_⟩
  show Z.vm.assignableAux (255 + 1) c t = false
  simp [Vm.assignableAux, ne, h2, g2, h5, g5, g7, Vm.isSubclass, n3]
theorem own_eqI {Z : State} {args : Array Value} {t : Term} {k : Int32} (h : (Jvm.Cond.eq t (Term.int k)).value args Z none Z [] = some true) : t.eval args Z none [] Z = some (.int k) := by
  obtain ⟨u, w, e1, e2, -, -⟩ := cmp_v (Or.inl h)
  have e3 : (Term.int k).eval args Z none [] Z = some (.int k) := Term.int_eval k
  cases e3.symm.trans e2
  have h' := h
  cases u <;> simp [Jvm.Cond.value, e1, e3] at h'
  subst h'
  exact e1
theorem own_maskHi (x m : Int32) (k : Nat) (hk : k ≤ 31) (hm : m.toBitVec.toNat = 2 ^ k - 1) : (x &&& m).toInt < ((2 ^ k : Nat) : Int) := by
  rw [c_mask x m k hk hm]; exact Int.emod_lt_of_pos _ (Int.natCast_pos.mpr (Nat.two_pow_pos k))
theorem own_maskLo (x m : Int32) (k : Nat) (hk : k ≤ 31) (hm : m.toBitVec.toNat = 2 ^ k - 1) : 0 ≤ (x &&& m).toInt := by
  rw [c_mask x m k hk hm]; exact Int.emod_nonneg _ (Int.natCast_ne_zero.mpr (Nat.ne_of_gt (Nat.two_pow_pos k)))
theorem own_remLo (x y : Int32) (hx : 0 ≤ x.toInt) (hy : 0 < y.toInt) : 0 ≤ (x % y).toInt := ((c_iremV x y).1 hx hy).1
theorem own_remHi (x y : Int32) (hx : 0 ≤ x.toInt) (hy : 0 < y.toInt) : (x % y).toInt < y.toInt := ((c_iremV x y).1 hx hy).2.1
theorem own_nf {s : State} {args : Array Value} {C : String} {z y : MethodName} (hsel : (Jvm.Cond.selects C z z).before args s = true) (e : z.cls = y.cls) : NotFace s y := fun r0 h0 => by
  obtain ⟨c2, r2, m2, -, -, q3, -, kP, hkP, hkPi⟩ := Cond.selects_spec hsel
  have a := findClass_of_methodNamed q3
  rw [e] at a
  have b : m2.cls = r0.cls := Option.some.inj (a.symm.trans (findClass_of_methodNamed h0))
  exact ⟨kP, b ▸ hkP, hkPi⟩
theorem own_privateBack {p : Program} {l : Launch} {e : Env} {R : Room} {s : State} {m : MethodId} {args : Array Value} {below : List Frame} {meth : Method} {c : Code} {T : State} {locs : List Loc} {cells slots : Nat} (X : Stand p l e R s m args below meth c T locs cells slots) (hexec : p.tables.exec = Jvm.exec) {own : String} {index : Nat} {y : MethodName} {bytes : ByteArray} {maxL : Nat} {ret : Option FieldType}
    (hown : s.vm.findClass own = some m.cls) (hlink : (Jvm.Cond.methodLink own index y).before args s = true) (hinst : (Jvm.Cond.instanceMethod y).before args s = true) (hnf : NotFace s y)
    (hpriv : s.PrivateAt y) (hcode : (Jvm.Cond.code y bytes maxL ret).before args s = true) (hy : y.cls ≠ "java/lang/invoke/MethodHandle" ∧ y.cls ≠ "java/lang/invoke/VarHandle")
    {W : Nat} {Pre : Pt → Array Value → Prop} {Post : Pt → Array Value → Option Value → Pt → Prop} (hK : Back l R p e below s args y 3 W Pre Post)
    {g : JFrame} (hg : g.method = m) (hsize : g.locals.size = c.maxLocals) {s₀ : State} (hcome : Steps p.tables e below s₀ (T.setTop g)) {a : Addr} {cell : Cell} (hcell : T.heap[a]? = some cell) (hobj : ∀ q, cell.vm ≠ .statics q)
    {argsL rest : List Value} (hlen : ∀ sig, parseMethodDescriptor y.desc = some sig → argsL.length = sig.parameters.length)
    (hstack : g.stack = argsL.reverse ++ .ref a :: rest) (hW : 2 * g.monitorRoom + (rest.map fun v => v.category).sum ≤ W) (hdg : decode c.code g.pc = .ok (.invokevirtual index, 3))
    (hpre : ∀ vm₁, s.WarmedH vm₁ → Pre ⟨T.setVm vm₁, locs, cells, slots⟩ (.ref a :: argsL).toArray) :
    ∃ (v : Option Value) (vm₁ : Vm) (B : Pt), s.WarmedH vm₁ ∧ Stand p l e R s m args below meth c B.U B.locs B.cells B.slots ∧ Post ⟨T.setVm vm₁, locs, cells, slots⟩ (.ref a :: argsL).toArray v B ∧
      Steps p.tables e below s₀ (B.U.setTop { g with pc := g.pc + 3, stack := v.toList ++ rest }) := by
  obtain ⟨mk, methM, hnamed, hmethM, hstM, habM⟩ := Cond.instanceMethod_spec hinst
  obtain ⟨_, _, hmeth2, -, -, -, -, -, -, hsigM⟩ := Cond.code_spec hnamed hcode
  cases hmethM.symm.trans hmeth2
  obtain ⟨kP, hkP, hkPi⟩ := hnf mk hnamed
  have hselP : selectMethod e.platform s.vm cell.cls mk = .method mk := selectMethod_private hmethM (hpriv mk methM hnamed hmethM)
  obtain ⟨vm₁, X₁, hstep₁⟩ := X.invokevirtual hexec hown hlink hnamed hmethM hstM hkP hkPi hy (a := a) (cell := cell) hcell hobj hselP hmethM habM hkP hkPi (g := g) hg (argsL := argsL) (rest := rest) (hlen _ hsigM) hstack hdg
  obtain ⟨v, B, X2, hpost, hsteps⟩ := hK m meth c ⟨T.setVm vm₁, locs, cells, slots⟩ { g with stack := rest } (.invokevirtual index) mk (.ref a :: argsL).toArray X₁ hg hsize hdg hW (X₁.named hnamed) (hpre vm₁ X₁.warmed)
  exact ⟨v, vm₁, B, X₁.warmed, X2, hpost, (hcome.trans (hstep₁ _ fun acts => by rw [doInvoke_state]; exact Steps.refl _)).trans hsteps⟩
theorem own_staKeep {Z : State} {h h' : Heap} {C n d : String} {v : Value} {ws : List Addr} (F : Sta Z h C n d v) (K : Keep h h' ws) (hn : ∀ x ∈ ws, ∀ cell : Cell, h[x]? = some cell → cell.vm.isStatics = false) : Sta Z h' C n d v := by
  obtain ⟨cf, i, k, f, st, cell, h1, h2, h3, h4, h5, h6, h7⟩ := F
  exact ⟨cf, i, k, f, st, cell, h1, h2, h3, h4, K.2.1 _ _ h5 (fun q => by rw [hn st q cell h5] at h6; cases h6), h6, h7⟩
def OwnBoxes (Z : State) (h : Heap) (vs : List Value) : Prop := ∀ j, j < 256 → ∃ b, vs[j]? = some (.ref b) ∧ Exa Z h b "java/lang/Integer"
theorem own_boxAt {cl : Cell} {vs : List Value} {d : Value} {j : Nat} {b : Addr} (H : Has cl vs d) (hj : ¬ cl.slots.size ≤ j) (q : vs[j]? = some (.ref b)) : cl.slots[j]? = some (.ref b) := by
  rw [H j (Nat.lt_of_not_le hj), List.getD_eq_getElem?_getD, q]; rfl
theorem own_hasL {cl : Cell} : ∀ (L : List Value) (i : Nat), (∀ j, j < L.length → cl.slots[i + j]? = L[j]?) → HasL cl i L
  | [], _, _ => trivial
  | v :: r, i, h => ⟨by have := h 0 (by simp); simpa using this, own_hasL r (i + 1) fun j hj => by have := h (j + 1) (by simpa using hj); rw [Nat.add_right_comm]; simpa [Nat.add_assoc] using this⟩
theorem own_cache {Z : State} {args : Array Value} (hf : Fit Z) (h : ∀ d ∈ jdkStatics_1, d.before args Z = true) : ∃ (w : Addr) (k : ClassId) (vs : List Value), Sta Z Z.heap "java/lang/Integer$IntegerCache" "high" "I" (.int (127 : Int32)) ∧ Sta Z Z.heap "java/lang/Integer$IntegerCache" "cache" "[Ljava/lang/Integer;" (.ref w) ∧ Arv Z Z.heap w k (.object "java/lang/Integer") (256 : Int32) vs .null ∧ OwnBoxes Z Z.heap vs := by
  have g : ∀ d, d ∈ jdkStatics_1 → d.value args Z none Z [] = some true := fun d hd => Cond.before_iff.mp (h d hd)
  have evH := own_eqI (g _ (show Jvm.Cond.eq (Jvm.Term.static "java/lang/Integer$IntegerCache" "high" "I") (Jvm.Term.int (127 : Int32)) ∈ jdkStatics_1 by simp [jdkStatics_1]))
  have SH : Sta Z Z.heap "java/lang/Integer$IntegerCache" "high" "I" (.int (127 : Int32)) := Sta.start evH (Or.inl (h _ (by simp [jdkStatics_1])))
  have hA := g (Jvm.Cond.arrayOf (Jvm.Term.static "java/lang/Integer$IntegerCache" "cache" "[Ljava/lang/Integer;") (Jvm.ClassFile.FieldType.object "java/lang/Integer")) (by simp [jdkStatics_1])
  obtain ⟨w, ew⟩ := arr_v hA
  obtain ⟨cl, Ar⟩ := Arr.start ew hA
  obtain ⟨c1, k1, i1, f1, st1, ce1, hc1, hf1, hs1, hk1, hS1, hv1, -, -, -⟩ := Cond.laysStatic_spec (show (Jvm.Cond.laysStatic "java/lang/Integer$IntegerCache" "high" "I").holds args Z none Z [] = true from h _ (by simp [jdkStatics_1]))
  obtain ⟨c2, k2, i2, f2, st2, ce2, hc2, hf2, hs2, hk2, hS2, hv2, -, -, -⟩ := Cond.laysStatic_spec (show (Jvm.Cond.laysStatic "java/lang/Integer$IntegerCache" "cache" "[Ljava/lang/Integer;").holds args Z none Z [] = true from h _ (by simp [jdkStatics_1]))
  cases hc1.symm.trans hc2
  cases (State.fieldFound?_spec hf1).1.symm.trans (State.fieldFound?_spec hf2).1
  have hi : k1.init = .initialized := Cond.initializedFor_spec hf1 (show (Jvm.Cond.initializedFor "java/lang/Integer$IntegerCache" "high" "I").holds args Z none Z [] = true from h _ (by simp [jdkStatics_1]))
  have e2 := ew
  rw [Jvm.Free.IntBox.static_eval hf2 hs2 hk2 hS2 hv2] at e2
  have SC : Sta Z Z.heap "java/lang/Integer$IntegerCache" "cache" "[Ljava/lang/Integer;" (.ref w) := ⟨_, _, _, _, _, _, hf2, hs2, hi, hk2, hS2, hv2, e2⟩
  obtain ⟨q1, q2⟩ := Jvm.Free.IntBox.length_fwd (h (Jvm.Cond.eq (Jvm.Term.length (Jvm.Term.static "java/lang/Integer$IntegerCache" "cache" "[Ljava/lang/Integer;")) (Jvm.Term.int (256 : Int32))) (by simp [jdkStatics_1])) ew Ar.1 Ar.2.1 Ar.2.2
  have q3 : cl.slots.size = 256 := by
    have e5 : (cl.slots.size.toInt32).toInt = cl.slots.size := Int32.toInt_ofNat_of_lt (by simpa using q1)
    rw [q2] at e5
    have e6 : (256 : Int32).toInt = 256 := by decide
    omega
  have hat := Jvm.Free.IntBox.arrayAt_of Ar.1 Ar.2.1 Ar.2.2
  have hall := Cond.all_elim ew hat (g _ (show Jvm.Cond.all (Jvm.Term.static "java/lang/Integer$IntegerCache" "cache" "[Ljava/lang/Integer;") (Jvm.Cond.and (Jvm.Cond.exactly (Jvm.Term.elem (Jvm.Term.static "java/lang/Integer$IntegerCache" "cache" "[Ljava/lang/Integer;") (Jvm.Term.index (0 : Nat))) "java/lang/Integer") (Jvm.Cond.eq (Jvm.Term.field (Jvm.Term.elem (Jvm.Term.static "java/lang/Integer$IntegerCache" "cache" "[Ljava/lang/Integer;") (Jvm.Term.index (0 : Nat))) "java/lang/Integer" "value" "I") (Jvm.Term.sub (Jvm.Term.index (0 : Nat)) (Jvm.Term.int (128 : Int32))))) ∈ jdkStatics_1 by simp [jdkStatics_1]))
  refine ⟨w, _, cl.slots.toList, SH, SC, Arv.start hf Ar q1 q2 (by decide) (by simp only [Array.length_toList, q3]; rfl) (own_hasL _ _ fun j hj => by rw [Nat.zero_add]; simp), fun j hj => ?_⟩
  have hj' := hall j (by rw [q3]; exact hj)
  obtain ⟨hx1, -⟩ := and_e hj'
  obtain ⟨box, cB, cellB, kB, heB, hcB, hcellB, r1, r2, rfl, r4⟩ := Cond.exactly_spec (show (Jvm.Cond.exactly (Jvm.Term.elem (Jvm.Term.static "java/lang/Integer$IntegerCache" "cache" "[Ljava/lang/Integer;") (Jvm.Term.index (0 : Nat))) "java/lang/Integer").holds args Z none Z [j] = true from beq_iff_eq.mpr hx1)
  obtain ⟨hnn, hback⟩ := Jvm.Free.IntBox.place_nonneg j hj
  have ewj : (Jvm.Term.static "java/lang/Integer$IntegerCache" "cache" "[Ljava/lang/Integer;").eval args Z none [j] Z = some (.ref w) := by rw [Jvm.Free.IntBox.static_eval hf2 hs2 hk2 hS2 hv2]; exact e2
  have eE : (Jvm.Term.elem (Jvm.Term.static "java/lang/Integer$IntegerCache" "cache" "[Ljava/lang/Integer;") (Jvm.Term.index (0 : Nat))).eval args Z none [j] Z = cl.slots[j]? := (elem_f ewj (show (Jvm.Term.index (0 : Nat)).eval args Z none [j] Z = some (.int j.toInt32) from rfl) hat hnn).trans (by rw [hback])
  rw [eE] at heB
  exact ⟨box, by simpa using heB, ⟨cellB, kB, hcellB, hcB, r1, r2, r4⟩⟩
theorem ef_0 (m : MethodId) (x0 : Int64) (x1 : Int64) (x2 : Int32) : entryFrame m #[(.long x0), (.long x1), (.int x2)] maxLocals = mkF m 0 #[.val (.long x0), .second, .val (.long x1), .second, .val (.int x2), .unset, .unset, .unset, .unset, .unset, .unset] [] := by first | (simp [entryFrame, mkF, argsToLocals, Value.category, maxLocals]; done) | rfl
theorem pn_0 : plainName "com/example/grantd/grantd/front/WaitingIsBetweenRequestsPinLaw" = true := by first | (simp [plainName, overriddenIn]; done) | decide +kernel
theorem d_jdk_33_method_22_0 : decode jdk_33_method_22_code 0 = .ok (.iload_n 0, 1) := by decide +kernel
theorem d_jdk_33_method_22_1 : decode jdk_33_method_22_code 1 = .ok (.bipush (-128), 2) := by decide +kernel
theorem d_jdk_33_method_22_3 : decode jdk_33_method_22_code 3 = .ok (.if_icmp .lt 20, 3) := by decide +kernel
theorem d_jdk_33_method_22_23 : decode jdk_33_method_22_code 23 = .ok (.new 1, 3) := by decide +kernel
theorem d_jdk_33_method_22_26 : decode jdk_33_method_22_code 26 = .ok (.dup, 1) := by decide +kernel
theorem d_jdk_33_method_22_27 : decode jdk_33_method_22_code 27 = .ok (.iload_n 0, 1) := by decide +kernel
theorem d_jdk_33_method_22_28 : decode jdk_33_method_22_code 28 = .ok (.invokespecial 199, 3) := by decide +kernel
theorem d_jdk_33_method_23_0 : decode jdk_33_method_23_code 0 = .ok (.aload_n 0, 1) := by decide +kernel
theorem d_jdk_33_method_23_1 : decode jdk_33_method_23_code 1 = .ok (.invokespecial 202, 3) := by decide +kernel
theorem d_jdk_18_method_1_0 : decode jdk_18_method_1_code 0 = .ok (.aload_n 0, 1) := by decide +kernel
theorem d_jdk_18_method_1_1 : decode jdk_18_method_1_code 1 = .ok (.invokespecial 1, 3) := by decide +kernel
theorem d_jdk_18_method_1_4 : decode jdk_18_method_1_code 4 = .ok (.return_, 1) := by decide +kernel
theorem ef_1 (m : MethodId) (x0 : Addr) : entryFrame m #[(.ref x0)] 1 = mkF m 0 #[.val (.ref x0)] [] := by first | (simp [entryFrame, mkF, argsToLocals, Value.category, maxLocals]; done) | rfl
theorem pn_1 : plainName "java/lang/Number" = true := by first | (simp [plainName, overriddenIn]; done) | decide +kernel
def Q1 (Z : State) (a1 : Addr) (h0 : Heap) (n0 : Nat) (v : Option Value) (h : Heap) (L : List Loc) : Prop := v = none ∧ Fr n0 L ∧ h = h0
set_option maxRecDepth 65536 in
set_option maxHeartbeats 40000000 in
theorem rm1 (l : Launch) (Z : State) (a0 : Array Value) (hw : ∀ d ∈ tables_1, d.before a0 Z = true) (ws : List Jvm.Cond) (a1 : Addr) (h0 : Heap) (n0 : Nat) (Z0 : n0 ≤ h0.size) :
    MetFree l (⟨"java/lang/Number", "<init>", "()V"⟩ : MethodName) (head1 (Jvm.Cond.code (⟨"java/lang/Number", "<init>", "()V"⟩ : MethodName) jdk_18_method_1_code 1 none :: ws) ({ frames := 1, cells := 0, slots := 0, locals := 12 } : Room)) (fun a U => a = #[(.ref a1)] ∧ Z.Warmed39 U.vm ∧ U.heap = h0) (fun _ _ _ _ _ => True) (fun _ U o U' => ∃ v L, o = .returned v ∧ Q1 Z a1 h0 n0 v U'.heap L ∧ FrameEnd U o U' L ({ frames := 1, cells := 0, slots := 0, locals := 12 } : Room).cells ({ frames := 1, cells := 0, slots := 0, locals := 12 } : Room).slots) := by
  refine MetFree.of_bodySF (plainFor_of_name pn_1) hisR ?_
  intro p e s m args below meth c s₁ Bd hml0 hP hK
  obtain ⟨rfl, hZ, hh⟩ := hP
  have hx := Bd.exec
  have hby := Bd.bytes
  have hml : c.maxLocals = 1 := hml0
  have hown : s.vm.findClass "java/lang/Number" = some m.cls := findClass_of_methodNamed Bd.named
  have hnm := (name_of_methodNamed Bd.named Bd.method).1
  have X0 : Stand p l e ({ frames := 1, cells := 0, slots := 0, locals := 12 } : Room) s m #[(.ref a1)] below meth c s₁ [] 0 0 := Stand.of_body Bd
  have e0 : s₁.heap = h0 := by rw [← hh, Bd.state]; rfl
  have N0 := Fr.nil n0
  have pre0 : ∀ t, Steps p.tables e below (s₁.setTop (mkF m 0 #[.val (.ref a1)] [])) t → Steps p.tables e below (s₁.setTop (entryFrame m #[(.ref a1)] 1)) t := fun t k => castTop (ef_1 m a1) k
  obtain ⟨T2, X2, e2, st2⟩ := initO X0 hx hZ hown (hw _ (List.mem_of_getElem? (i := 48) rfl)) (hw _ (List.mem_of_getElem? (i := 19) rfl)) (hw _ (List.mem_of_getElem? (i := 20) rfl)) e0 (g := (mkF m 1 #[.val (.ref a1)] [(.ref a1)])) rfl (by rw [hml]; rfl) rfl (hb hby d_jdk_18_method_1_1) (by decide) (W := 0) (by show 2 * 0 + _ ≤ _; exact Nat.le_of_eq rfl) (by decide)
  have pre3 : ∀ t, Steps p.tables e below (T2.setTop (mkF m 4 #[.val (.ref a1)] [])) t → Steps p.tables e below (s₁.setTop (entryFrame m #[(.ref a1)] 1)) t := fun t kk => pre0 t (by
    show Steps p.tables e below (s₁.setTop (mkF m 0 #[.val (.ref a1)] [])) _
    refine XS.aloadN X0.here hx rfl (hb hby d_jdk_18_method_1_0) rfl rfl ?_
    show Steps p.tables e below (s₁.setTop (mkF m 1 #[.val (.ref a1)] [(.ref a1)])) _
    refine st2 _ ?_
    exact kk)
  obtain ⟨fs, hr, hrun, hended, hW, hsame⟩ := X2.leave (v := none) (fun _ => rfl)
  refine ⟨_, _, pre3 _ ?_, hrun, hended, _, _, rfl, ?_, ⟨_, rfl⟩, hW, hsame.mono (by decide) (by decide)⟩
  · exact X2.returnOut hx Bd.returns (hb hby d_jdk_18_method_1_4) hr
  · show Q1 Z a1 h0 n0 _ T2.heap _
    rw [e2]
    exact ⟨rfl, N0, rfl⟩
theorem pd_0 : parseMethodDescriptor "()V" = some ⟨[], none⟩ := by decide +kernel
theorem d_jdk_33_method_23_4 : decode jdk_33_method_23_code 4 = .ok (.aload_n 0, 1) := by decide +kernel
theorem d_jdk_33_method_23_5 : decode jdk_33_method_23_code 5 = .ok (.iload_n 1, 1) := by decide +kernel
theorem d_jdk_33_method_23_6 : decode jdk_33_method_23_code 6 = .ok (.putfield 205, 3) := by decide +kernel
theorem d_jdk_33_method_23_9 : decode jdk_33_method_23_code 9 = .ok (.return_, 1) := by decide +kernel
theorem ef_2 (m : MethodId) (x0 : Addr) (x1 : Int32) : entryFrame m #[(.ref x0), (.int x1)] 2 = mkF m 0 #[.val (.ref x0), .val (.int x1)] [] := by first | (simp [entryFrame, mkF, argsToLocals, Value.category, maxLocals]; done) | rfl
theorem pn_2 : plainName "java/lang/Integer" = true := by first | (simp [plainName, overriddenIn]; done) | decide +kernel
def Q2 (Z : State) (a1 : Addr) (p2 : Int32) (h0 : Heap) (n0 : Nat) (v : Option Value) (h : Heap) (L : List Loc) : Prop := v = none ∧ Fr n0 L ∧ ∃ h4 : Heap, Wr h0 h4 a1 (Jvm.RoadKit.slotOf Z "java/lang/Integer" "value" "I") (.int p2) ∧ h = h4
set_option maxRecDepth 65536 in
set_option maxHeartbeats 40000000 in
theorem rm2 (l : Launch) (Z : State) (a0 : Array Value) (hw : ∀ d ∈ tables_1, d.before a0 Z = true) (ws : List Jvm.Cond) (a1 : Addr) (p2 : Int32) (h0 : Heap) (n0 : Nat) (Z0 : n0 ≤ h0.size) (E_a1 : Exa Z h0 a1 "java/lang/Integer") (F_value_a1 : Fld Z h0 a1 "java/lang/Integer" "value" "I" (.int (0 : Int32))) (g_a1 : n0 ≤ a1) :
    MetFree l (⟨"java/lang/Integer", "<init>", "(I)V"⟩ : MethodName) (head1 (Jvm.Cond.code (⟨"java/lang/Integer", "<init>", "(I)V"⟩ : MethodName) jdk_33_method_23_code 2 none :: ws) ({ frames := 2, cells := 0, slots := 0, locals := 24 } : Room)) (fun a U => a = #[(.ref a1), (.int p2)] ∧ Z.Warmed39 U.vm ∧ U.heap = h0) (fun _ _ _ _ _ => True) (fun _ U o U' => ∃ v L, o = .returned v ∧ Q2 Z a1 p2 h0 n0 v U'.heap L ∧ FrameEnd U o U' L ({ frames := 2, cells := 0, slots := 0, locals := 24 } : Room).cells ({ frames := 2, cells := 0, slots := 0, locals := 24 } : Room).slots) := by
  refine MetFree.of_bodySF (plainFor_of_name pn_2) hisR ?_
  intro p e s m args below meth c s₁ Bd hml0 hP hK
  obtain ⟨rfl, hZ, hh⟩ := hP
  have hx := Bd.exec
  have hby := Bd.bytes
  have hml : c.maxLocals = 2 := hml0
  have hown : s.vm.findClass "java/lang/Integer" = some m.cls := findClass_of_methodNamed Bd.named
  have hnm := (name_of_methodNamed Bd.named Bd.method).1
  have X0 : Stand p l e ({ frames := 2, cells := 0, slots := 0, locals := 24 } : Room) s m #[(.ref a1), (.int p2)] below meth c s₁ [] 0 0 := Stand.of_body Bd
  have e0 : s₁.heap = h0 := by rw [← hh, Bd.state]; rfl
  have N0 := Fr.nil n0
  have pre0 : ∀ t, Steps p.tables e below (s₁.setTop (mkF m 0 #[.val (.ref a1), .val (.int p2)] [])) t → Steps p.tables e below (s₁.setTop (entryFrame m #[(.ref a1), (.int p2)] 2)) t := fun t k => castTop (ef_2 m a1 (p2)) k
  obtain ⟨_, _, ⟨T3, L3, k3, n3⟩, -, X3, ⟨Lc3, hQ3, l3, y3, z3⟩, st3⟩ := X0.specialBack hx (y := (⟨"java/lang/Number", "<init>", "()V"⟩ : MethodName)) rfl hown (mvT hZ (hw _ (List.mem_of_getElem? (i := 42) rfl))) (mvT hZ (hw _ (List.mem_of_getElem? (i := 43) rfl))) (mvT hZ (hw _ (List.mem_of_getElem? (i := 47) rfl))) (by decide) (backOf (W := 0) (rm1 l Z a0 hw [] a1 h0 n0 Z0 ) hZ (hw _ (List.mem_of_getElem? (i := 47) rfl)) (hw _ (List.mem_of_getElem? (i := 46) rfl)) (by decide) (by decide)) (g := (mkF m 1 #[.val (.ref a1), .val (.int p2)] [(.ref a1)])) rfl (by rw [hml]; rfl) (Steps.refl _) (a := a1) (argsL := []) (rest := []) (lenOf pd_0 rfl) rfl (by show 2 * 0 + _ ≤ _; exact Nat.le_of_eq rfl) (hb hby d_jdk_33_method_23_1) (fun _ _ => ⟨rfl, e0, (by decide : 0 + 0 ≤ _), (by decide : 0 + 0 ≤ _)⟩)
  dsimp only [Pt.U, Pt.locs, Pt.cells, Pt.slots] at X3 l3 y3 z3 st3 hQ3
  subst l3 y3 z3
  obtain ⟨rfl, N3q, e3⟩ := hQ3
  have N3 := Fr.app N0 N3q
  obtain ⟨T4, h4, X4, e4, W4, st4⟩ := putF X3 hx hZ hown (host := "") (Or.inl (hw _ (List.mem_of_getElem? (i := 49) rfl))) Via.refl e3 F_value_a1 E_a1 (Or.inr ⟨(hw _ (List.mem_of_getElem? (i := 50) rfl)), rfl, hnm⟩) (hw _ (List.mem_of_getElem? (i := 37) rfl)) (ty := .int) (by decide) rfl rfl (g := (mkF m 6 #[.val (.ref a1), .val (.int p2)] [(.int p2), (.ref a1)])) rfl rfl (hb hby d_jdk_33_method_23_6)
  have N4 := Fr.snoc X4 N3 g_a1
  have Z4 : n0 ≤ h4.size := Nat.le_trans Z0 (Nat.le_of_eq W4.size.symm)
  have Fw4 := Fld.same W4 F_value_a1
  have pre5 : ∀ t, Steps p.tables e below (T4.setTop (mkF m 9 #[.val (.ref a1), .val (.int p2)] [])) t → Steps p.tables e below (s₁.setTop (entryFrame m #[(.ref a1), (.int p2)] 2)) t := fun t kk => pre0 t (by
    show Steps p.tables e below (s₁.setTop (mkF m 0 #[.val (.ref a1), .val (.int p2)] [])) _
    refine XS.aloadN X0.here hx rfl (hb hby d_jdk_33_method_23_0) rfl rfl ?_
    show Steps p.tables e below (s₁.setTop (mkF m 1 #[.val (.ref a1), .val (.int p2)] [(.ref a1)])) _
    refine st3.trans ?_
    show Steps p.tables e below (T3.setTop (mkF m 4 #[.val (.ref a1), .val (.int p2)] [])) _
    refine XS.aloadN X3.here hx rfl (hb hby d_jdk_33_method_23_4) rfl rfl ?_
    show Steps p.tables e below (T3.setTop (mkF m 5 #[.val (.ref a1), .val (.int p2)] [(.ref a1)])) _
    refine XS.iloadN X3.here hx rfl (hb hby d_jdk_33_method_23_5) rfl ?_
    show Steps p.tables e below (T3.setTop (mkF m 6 #[.val (.ref a1), .val (.int p2)] [(.int p2), (.ref a1)])) _
    refine st4 _ ?_
    exact kk)
  obtain ⟨fs, hr, hrun, hended, hW, hsame⟩ := X4.leave (v := none) (fun _ => rfl)
  refine ⟨_, _, pre5 _ ?_, hrun, hended, _, _, rfl, ?_, ⟨_, rfl⟩, hW, hsame.mono (by decide) (by decide)⟩
  · exact X4.returnOut hx Bd.returns (hb hby d_jdk_33_method_23_9) hr
  · show Q2 Z a1 p2 h0 n0 _ T4.heap _
    rw [e4]
    exact ⟨rfl, N4, h4, W4, rfl⟩
theorem pd_1 : parseMethodDescriptor "(I)V" = some ⟨[.int], none⟩ := by decide +kernel
theorem d_jdk_33_method_22_31 : decode jdk_33_method_22_code 31 = .ok (.areturn, 1) := by decide +kernel
theorem ef_3 (m : MethodId) (x0 : Int32) : entryFrame m #[(.int x0)] 1 = mkF m 0 #[.val (.int x0)] [] := by first | (simp [entryFrame, mkF, argsToLocals, Value.category, maxLocals]; done) | rfl
def Q3 (Z : State) (p1 : Int32) (h0 : Heap) (n0 : Nat) (v : Option Value) (h : Heap) (L : List Loc) : Prop := ∃ br : Addr, v = some (.ref br) ∧ Fr n0 L ∧ ∃ (h3 : Heap) (b3 : Addr), b3 = h0.size ∧ Ext h0 h3 ∧ Exa Z h3 b3 "java/lang/Integer" ∧ Fld Z h3 b3 "java/lang/Integer" "value" "I" (.int (0 : Int32)) ∧ ∃ h5 : Heap, Wr h3 h5 b3 (Jvm.RoadKit.slotOf Z "java/lang/Integer" "value" "I") (.int p1) ∧ h = h5 ∧ b3 = br
set_option maxRecDepth 65536 in
set_option maxHeartbeats 40000000 in
theorem rm3 (l : Launch) (Z : State) (a0 : Array Value) (hw : ∀ d ∈ tables_1, d.before a0 Z = true) (ws : List Jvm.Cond) (p1 : Int32) (h0 : Heap) (n0 : Nat) (Z0 : n0 ≤ h0.size) (hc2 : p1 < (-128 : Int32)) :
    MetFree l (⟨"java/lang/Integer", "valueOf", "(I)Ljava/lang/Integer;"⟩ : MethodName) (head1 (Jvm.Cond.code (⟨"java/lang/Integer", "valueOf", "(I)Ljava/lang/Integer;"⟩ : MethodName) jdk_33_method_22_code 1 (some (.object "java/lang/Integer")) :: ws) ({ frames := 3, cells := 1, slots := 1, locals := 38 } : Room)) (fun a U => a = #[(.int p1)] ∧ Z.Warmed39 U.vm ∧ U.heap = h0) (fun _ _ _ _ _ => True) (fun _ U o U' => ∃ v L, o = .returned v ∧ Q3 Z p1 h0 n0 v U'.heap L ∧ FrameEnd U o U' L ({ frames := 3, cells := 1, slots := 1, locals := 38 } : Room).cells ({ frames := 3, cells := 1, slots := 1, locals := 38 } : Room).slots) := by
  refine MetFree.of_bodySF (plainFor_of_name pn_2) hisR ?_
  intro p e s m args below meth c s₁ Bd hml0 hP hK
  obtain ⟨rfl, hZ, hh⟩ := hP
  have hx := Bd.exec
  have hby := Bd.bytes
  have hml : c.maxLocals = 1 := hml0
  have hown : s.vm.findClass "java/lang/Integer" = some m.cls := findClass_of_methodNamed Bd.named
  have hnm := (name_of_methodNamed Bd.named Bd.method).1
  have X0 : Stand p l e ({ frames := 3, cells := 1, slots := 1, locals := 38 } : Room) s m #[(.int p1)] below meth c s₁ [] 0 0 := Stand.of_body Bd
  have e0 : s₁.heap = h0 := by rw [← hh, Bd.state]; rfl
  have N0 := Fr.nil n0
  have pre0 : ∀ t, Steps p.tables e below (s₁.setTop (mkF m 0 #[.val (.int p1)] [])) t → Steps p.tables e below (s₁.setTop (entryFrame m #[(.int p1)] 1)) t := fun t k => castTop (ef_3 m (p1)) k
  obtain ⟨T3, h3, X3, e3, E3, A3, D3, -, st3⟩ := newO X0 hx hZ hown (hw _ (List.mem_of_getElem? (i := 36) rfl)) (hw _ (List.mem_of_getElem? (i := 37) rfl)) (hw _ (List.mem_of_getElem? (i := 2) rfl)) e0 (g := (mkF m 23 #[.val (.int p1)] [])) rfl (hb hby d_jdk_33_method_22_23) (by decide) (by decide)
  obtain ⟨b3, g3⟩ : ∃ z, z = h0.size := ⟨_, rfl⟩
  rw [← g3] at A3 D3 st3
  have F3_value : Fld Z h3 b3 "java/lang/Integer" "value" "I" (.int (0 : Int32)) := D3 (Or.inr (hw _ (List.mem_of_getElem? (i := 50) rfl))) (ty := .int) (by decide)
  have G3 : n0 ≤ b3 := (Nat.le_trans Z0 (Nat.le_of_eq g3.symm))
  have Z3 : n0 ≤ h3.size := Nat.le_trans Z0 E3.1
  obtain ⟨_, _, ⟨T4, L4, k4, n4⟩, -, X4, ⟨Lc4, hQ4, l4, y4, z4⟩, st4⟩ := X3.specialBack hx (y := (⟨"java/lang/Integer", "<init>", "(I)V"⟩ : MethodName)) rfl hown (mvT hZ (hw _ (List.mem_of_getElem? (i := 38) rfl))) (mvT hZ (hw _ (List.mem_of_getElem? (i := 39) rfl))) (mvT hZ (hw _ (List.mem_of_getElem? (i := 41) rfl))) (by decide) (backOf (W := 1) (rm2 l Z a0 hw [] b3 p1 h3 n0 Z3 A3 F3_value G3) hZ (hw _ (List.mem_of_getElem? (i := 41) rfl)) (hw _ (List.mem_of_getElem? (i := 2) rfl)) (by decide) (by decide)) (g := (mkF m 28 #[.val (.int p1)] [(.int p1), (.ref b3), (.ref b3)])) rfl (by rw [hml]; rfl) (Steps.refl _) (a := b3) (argsL := [(.int p1)]) (rest := [(.ref b3)]) (lenOf pd_1 rfl) rfl (by show 2 * 0 + _ ≤ _; exact Nat.le_of_eq rfl) (hb hby d_jdk_33_method_22_28) (fun _ _ => ⟨rfl, e3, (by decide : 1 + 0 ≤ _), (by decide : 1 + 0 ≤ _)⟩)
  dsimp only [Pt.U, Pt.locs, Pt.cells, Pt.slots] at X4 l4 y4 z4 st4 hQ4
  subst l4 y4 z4
  obtain ⟨rfl, N4q, h5, W5, e4⟩ := hQ4
  have N4 := Fr.app N0 N4q
  have Z5 : n0 ≤ h5.size := Nat.le_trans Z3 (Nat.le_of_eq W5.size.symm)
  have Fw5 := Fld.same W5 F3_value
  have pre6 : ∀ t, Steps p.tables e below (T4.setTop (mkF m 31 #[.val (.int p1)] [(.ref b3)])) t → Steps p.tables e below (s₁.setTop (entryFrame m #[(.int p1)] 1)) t := fun t kk => pre0 t (by
    show Steps p.tables e below (s₁.setTop (mkF m 0 #[.val (.int p1)] [])) _
    refine XS.iloadN X0.here hx rfl (hb hby d_jdk_33_method_22_0) rfl ?_
    show Steps p.tables e below (s₁.setTop (mkF m 1 #[.val (.int p1)] [(.int p1)])) _
    refine XS.bipush X0.here hx rfl (hb hby d_jdk_33_method_22_1) ?_
    show Steps p.tables e below (s₁.setTop (mkF m 3 #[.val (.int p1)] [(.int (-128 : Int32)), (.int p1)])) _
    refine XS.icmpYes X0.here hx rfl (pc0 := 3) (pc' := 23) rfl (hb hby d_jdk_33_method_22_3) rfl (tlt (hc2 : p1 < (-128 : Int32))).1 (by decide) (by decide) ?_
    show Steps p.tables e below (s₁.setTop (mkF m 23 #[.val (.int p1)] [])) _
    refine st3 _ ?_
    show Steps p.tables e below (T3.setTop (mkF m 26 #[.val (.int p1)] [(.ref b3)])) _
    refine XS.dup X3.here hx rfl (hb hby d_jdk_33_method_22_26) rfl rfl ?_
    show Steps p.tables e below (T3.setTop (mkF m 27 #[.val (.int p1)] [(.ref b3), (.ref b3)])) _
    refine XS.iloadN X3.here hx rfl (hb hby d_jdk_33_method_22_27) rfl ?_
    show Steps p.tables e below (T3.setTop (mkF m 28 #[.val (.int p1)] [(.int p1), (.ref b3), (.ref b3)])) _
    refine st4.trans ?_
    exact kk)
  obtain ⟨fs, hr, hrun, hended, hW, hsame⟩ := X4.leave (v := some (.ref b3)) (fun h => by rw [Bd.returns] at h; cases h)
  refine ⟨_, _, pre6 _ ?_, hrun, hended, _, _, rfl, ?_, ⟨_, rfl⟩, hW, hsame.mono (by decide) (by decide)⟩
  · exact retOut X4 hx Bd.returns rfl (Or.inr (Or.inr (Or.inr (Or.inr ⟨rfl, rfl, rfl⟩)))) (hb hby d_jdk_33_method_22_31) hr
  · show Q3 Z p1 h0 n0 _ T4.heap _
    rw [e4]
    exact ⟨_, rfl, N4, h3, b3, g3, E3, A3, F3_value, h5, W5, rfl, rfl⟩
theorem pd_2 : parseMethodDescriptor "(I)Ljava/lang/Integer;" = some ⟨[.int], some (.object "java/lang/Integer")⟩ := by decide +kernel
theorem d_prog_29_method_1_0 : decode prog_29_method_1_code 0 = .ok (.aload_n 0, 1) := by decide +kernel
theorem d_prog_29_method_1_1 : decode prog_29_method_1_code 1 = .ok (.invokespecial 1, 3) := by decide +kernel
theorem d_jdk_30_method_1_0 : decode jdk_30_method_1_code 0 = .ok (.aload_n 0, 1) := by decide +kernel
theorem d_jdk_30_method_1_1 : decode jdk_30_method_1_code 1 = .ok (.invokespecial 1, 3) := by decide +kernel
theorem d_jdk_30_method_1_4 : decode jdk_30_method_1_code 4 = .ok (.return_, 1) := by decide +kernel
theorem pn_3 : plainName "java/lang/Record" = true := by first | (simp [plainName, overriddenIn]; done) | decide +kernel
def Q4 (Z : State) (a1 : Addr) (h0 : Heap) (n0 : Nat) (v : Option Value) (h : Heap) (L : List Loc) : Prop := v = none ∧ Fr n0 L ∧ h = h0
set_option maxRecDepth 65536 in
set_option maxHeartbeats 40000000 in
theorem rm4 (l : Launch) (Z : State) (a0 : Array Value) (hw : ∀ d ∈ tables_1, d.before a0 Z = true) (ws : List Jvm.Cond) (a1 : Addr) (h0 : Heap) (n0 : Nat) (Z0 : n0 ≤ h0.size) :
    MetFree l (⟨"java/lang/Record", "<init>", "()V"⟩ : MethodName) (head1 (Jvm.Cond.code (⟨"java/lang/Record", "<init>", "()V"⟩ : MethodName) jdk_30_method_1_code 1 none :: ws) ({ frames := 1, cells := 0, slots := 0, locals := 12 } : Room)) (fun a U => a = #[(.ref a1)] ∧ Z.Warmed39 U.vm ∧ U.heap = h0) (fun _ _ _ _ _ => True) (fun _ U o U' => ∃ v L, o = .returned v ∧ Q4 Z a1 h0 n0 v U'.heap L ∧ FrameEnd U o U' L ({ frames := 1, cells := 0, slots := 0, locals := 12 } : Room).cells ({ frames := 1, cells := 0, slots := 0, locals := 12 } : Room).slots) := by
  refine MetFree.of_bodySF (plainFor_of_name pn_3) hisR ?_
  intro p e s m args below meth c s₁ Bd hml0 hP hK
  obtain ⟨rfl, hZ, hh⟩ := hP
  have hx := Bd.exec
  have hby := Bd.bytes
  have hml : c.maxLocals = 1 := hml0
  have hown : s.vm.findClass "java/lang/Record" = some m.cls := findClass_of_methodNamed Bd.named
  have hnm := (name_of_methodNamed Bd.named Bd.method).1
  have X0 : Stand p l e ({ frames := 1, cells := 0, slots := 0, locals := 12 } : Room) s m #[(.ref a1)] below meth c s₁ [] 0 0 := Stand.of_body Bd
  have e0 : s₁.heap = h0 := by rw [← hh, Bd.state]; rfl
  have N0 := Fr.nil n0
  have pre0 : ∀ t, Steps p.tables e below (s₁.setTop (mkF m 0 #[.val (.ref a1)] [])) t → Steps p.tables e below (s₁.setTop (entryFrame m #[(.ref a1)] 1)) t := fun t k => castTop (ef_1 m a1) k
  obtain ⟨T2, X2, e2, st2⟩ := initO X0 hx hZ hown (hw _ (List.mem_of_getElem? (i := 18) rfl)) (hw _ (List.mem_of_getElem? (i := 19) rfl)) (hw _ (List.mem_of_getElem? (i := 20) rfl)) e0 (g := (mkF m 1 #[.val (.ref a1)] [(.ref a1)])) rfl (by rw [hml]; rfl) rfl (hb hby d_jdk_30_method_1_1) (by decide) (W := 0) (by show 2 * 0 + _ ≤ _; exact Nat.le_of_eq rfl) (by decide)
  have pre3 : ∀ t, Steps p.tables e below (T2.setTop (mkF m 4 #[.val (.ref a1)] [])) t → Steps p.tables e below (s₁.setTop (entryFrame m #[(.ref a1)] 1)) t := fun t kk => pre0 t (by
    show Steps p.tables e below (s₁.setTop (mkF m 0 #[.val (.ref a1)] [])) _
    refine XS.aloadN X0.here hx rfl (hb hby d_jdk_30_method_1_0) rfl rfl ?_
    show Steps p.tables e below (s₁.setTop (mkF m 1 #[.val (.ref a1)] [(.ref a1)])) _
    refine st2 _ ?_
    exact kk)
  obtain ⟨fs, hr, hrun, hended, hW, hsame⟩ := X2.leave (v := none) (fun _ => rfl)
  refine ⟨_, _, pre3 _ ?_, hrun, hended, _, _, rfl, ?_, ⟨_, rfl⟩, hW, hsame.mono (by decide) (by decide)⟩
  · exact X2.returnOut hx Bd.returns (hb hby d_jdk_30_method_1_4) hr
  · show Q4 Z a1 h0 n0 _ T2.heap _
    rw [e2]
    exact ⟨rfl, N0, rfl⟩
theorem d_prog_29_method_1_4 : decode prog_29_method_1_code 4 = .ok (.aload_n 0, 1) := by decide +kernel
theorem d_prog_29_method_1_5 : decode prog_29_method_1_code 5 = .ok (.aload_n 1, 1) := by decide +kernel
theorem d_prog_29_method_1_6 : decode prog_29_method_1_code 6 = .ok (.putfield 7, 3) := by decide +kernel
theorem d_prog_29_method_1_9 : decode prog_29_method_1_code 9 = .ok (.aload_n 0, 1) := by decide +kernel
theorem d_prog_29_method_1_10 : decode prog_29_method_1_code 10 = .ok (.lload_n 2, 1) := by decide +kernel
theorem d_prog_29_method_1_11 : decode prog_29_method_1_code 11 = .ok (.putfield 13, 3) := by decide +kernel
theorem d_prog_29_method_1_14 : decode prog_29_method_1_code 14 = .ok (.aload_n 0, 1) := by decide +kernel
theorem d_prog_29_method_1_15 : decode prog_29_method_1_code 15 = .ok (.lload 4, 2) := by decide +kernel
theorem d_prog_29_method_1_17 : decode prog_29_method_1_code 17 = .ok (.putfield 17, 3) := by decide +kernel
theorem d_prog_29_method_1_20 : decode prog_29_method_1_code 20 = .ok (.aload_n 0, 1) := by decide +kernel
theorem d_prog_29_method_1_21 : decode prog_29_method_1_code 21 = .ok (.iload 6, 2) := by decide +kernel
theorem d_prog_29_method_1_23 : decode prog_29_method_1_code 23 = .ok (.putfield 20, 3) := by decide +kernel
theorem d_prog_29_method_1_26 : decode prog_29_method_1_code 26 = .ok (.return_, 1) := by decide +kernel
theorem ef_4 (m : MethodId) (x0 : Addr) (x1 : Addr) (x2 : Int64) (x3 : Int64) : entryFrame m #[(.ref x0), (.ref x1), (.long x2), (.long x3), (.int (0 : Int32))] 7 = mkF m 0 #[.val (.ref x0), .val (.ref x1), .val (.long x2), .second, .val (.long x3), .second, .val (.int (0 : Int32))] [] := by first | (simp [entryFrame, mkF, argsToLocals, Value.category, maxLocals]; done) | rfl
theorem pn_4 : plainName "com/example/grantd/grantd/front/Places$Waiting" = true := by first | (simp [plainName, overriddenIn]; done) | decide +kernel
def Q5 (Z : State) (a1 : Addr) (a2 : Addr) (q3 : Int64) (q4 : Int64) (h0 : Heap) (n0 : Nat) (v : Option Value) (h : Heap) (L : List Loc) : Prop := v = none ∧ Fr n0 L ∧ ∃ h6 : Heap, Wr h0 h6 a1 (Jvm.RoadKit.slotOf Z "com/example/grantd/grantd/front/Places$Waiting" "connection" "Ljava/lang/Object;") (.ref a2) ∧ ∃ h9 : Heap, Wr h6 h9 a1 (Jvm.RoadKit.slotOf Z "com/example/grantd/grantd/front/Places$Waiting" "closableFrom" "J") (.long q3) ∧ ∃ h12 : Heap, Wr h9 h12 a1 (Jvm.RoadKit.slotOf Z "com/example/grantd/grantd/front/Places$Waiting" "firstServed" "J") (.long q4) ∧ ∃ h15 : Heap, Wr h12 h15 a1 (Jvm.RoadKit.slotOf Z "com/example/grantd/grantd/front/Places$Waiting" "holdsHead" "Z") (.int (0 : Int32)) ∧ h = h15
set_option maxRecDepth 65536 in
set_option maxHeartbeats 40000000 in
theorem rm5 (l : Launch) (Z : State) (a0 : Array Value) (hw : ∀ d ∈ tables_1, d.before a0 Z = true) (ws : List Jvm.Cond) (a1 : Addr) (a2 : Addr) (q3 : Int64) (q4 : Int64) (h0 : Heap) (n0 : Nat) (Z0 : n0 ≤ h0.size) (E_a1 : Exa Z h0 a1 "com/example/grantd/grantd/front/Places$Waiting") (F_connection_a1 : Fld Z h0 a1 "com/example/grantd/grantd/front/Places$Waiting" "connection" "Ljava/lang/Object;" .null) (g_a1 : n0 ≤ a1) (F_closableFrom_a1 : Fld Z h0 a1 "com/example/grantd/grantd/front/Places$Waiting" "closableFrom" "J" (.long (0 : Int64))) (F_firstServed_a1 : Fld Z h0 a1 "com/example/grantd/grantd/front/Places$Waiting" "firstServed" "J" (.long (0 : Int64))) (F_holdsHead_a1 : Fld Z h0 a1 "com/example/grantd/grantd/front/Places$Waiting" "holdsHead" "Z" (.int (0 : Int32))) :
    MetFree l (⟨"com/example/grantd/grantd/front/Places$Waiting", "<init>", "(Ljava/lang/Object;JJZ)V"⟩ : MethodName) (head1 (Jvm.Cond.code (⟨"com/example/grantd/grantd/front/Places$Waiting", "<init>", "(Ljava/lang/Object;JJZ)V"⟩ : MethodName) prog_29_method_1_code 7 none :: ws) ({ frames := 2, cells := 0, slots := 0, locals := 24 } : Room)) (fun a U => a = #[(.ref a1), (.ref a2), (.long q3), (.long q4), (.int (0 : Int32))] ∧ Z.Warmed39 U.vm ∧ U.heap = h0) (fun _ _ _ _ _ => True) (fun _ U o U' => ∃ v L, o = .returned v ∧ Q5 Z a1 a2 q3 q4 h0 n0 v U'.heap L ∧ FrameEnd U o U' L ({ frames := 2, cells := 0, slots := 0, locals := 24 } : Room).cells ({ frames := 2, cells := 0, slots := 0, locals := 24 } : Room).slots) := by
  refine MetFree.of_bodySF (plainFor_of_name pn_4) hisR ?_
  intro p e s m args below meth c s₁ Bd hml0 hP hK
  obtain ⟨rfl, hZ, hh⟩ := hP
  have hx := Bd.exec
  have hby := Bd.bytes
  have hml : c.maxLocals = 7 := hml0
  have hown : s.vm.findClass "com/example/grantd/grantd/front/Places$Waiting" = some m.cls := findClass_of_methodNamed Bd.named
  have hnm := (name_of_methodNamed Bd.named Bd.method).1
  have X0 : Stand p l e ({ frames := 2, cells := 0, slots := 0, locals := 24 } : Room) s m #[(.ref a1), (.ref a2), (.long q3), (.long q4), (.int (0 : Int32))] below meth c s₁ [] 0 0 := Stand.of_body Bd
  have e0 : s₁.heap = h0 := by rw [← hh, Bd.state]; rfl
  have N0 := Fr.nil n0
  have pre0 : ∀ t, Steps p.tables e below (s₁.setTop (mkF m 0 #[.val (.ref a1), .val (.ref a2), .val (.long q3), .second, .val (.long q4), .second, .val (.int (0 : Int32))] [])) t → Steps p.tables e below (s₁.setTop (entryFrame m #[(.ref a1), (.ref a2), (.long q3), (.long q4), (.int (0 : Int32))] 7)) t := fun t k => castTop (ef_4 m a1 a2 (q3) (q4)) k
  obtain ⟨_, _, ⟨T5, L5, k5, n5⟩, -, X5, ⟨Lc5, hQ5, l5, y5, z5⟩, st5⟩ := X0.specialBack hx (y := (⟨"java/lang/Record", "<init>", "()V"⟩ : MethodName)) rfl hown (mvT hZ (hw _ (List.mem_of_getElem? (i := 13) rfl))) (mvT hZ (hw _ (List.mem_of_getElem? (i := 14) rfl))) (mvT hZ (hw _ (List.mem_of_getElem? (i := 17) rfl))) (by decide) (backOf (W := 0) (rm4 l Z a0 hw [] a1 h0 n0 Z0 ) hZ (hw _ (List.mem_of_getElem? (i := 17) rfl)) (hw _ (List.mem_of_getElem? (i := 16) rfl)) (by decide) (by decide)) (g := (mkF m 1 #[.val (.ref a1), .val (.ref a2), .val (.long q3), .second, .val (.long q4), .second, .val (.int (0 : Int32))] [(.ref a1)])) rfl (by rw [hml]; rfl) (Steps.refl _) (a := a1) (argsL := []) (rest := []) (lenOf pd_0 rfl) rfl (by show 2 * 0 + _ ≤ _; exact Nat.le_of_eq rfl) (hb hby d_prog_29_method_1_1) (fun _ _ => ⟨rfl, e0, (by decide : 0 + 0 ≤ _), (by decide : 0 + 0 ≤ _)⟩)
  dsimp only [Pt.U, Pt.locs, Pt.cells, Pt.slots] at X5 l5 y5 z5 st5 hQ5
  subst l5 y5 z5
  obtain ⟨rfl, N5q, e5⟩ := hQ5
  have N5 := Fr.app N0 N5q
  obtain ⟨T6, h6, X6, e6, W6, st6⟩ := putF X5 hx hZ hown (host := "") (Or.inl (hw _ (List.mem_of_getElem? (i := 21) rfl))) Via.refl e5 F_connection_a1 E_a1 (Or.inr ⟨(hw _ (List.mem_of_getElem? (i := 22) rfl)), rfl, hnm⟩) (hw _ (List.mem_of_getElem? (i := 8) rfl)) (ty := (.object "java/lang/Object")) (by decide) rfl rfl (g := (mkF m 6 #[.val (.ref a1), .val (.ref a2), .val (.long q3), .second, .val (.long q4), .second, .val (.int (0 : Int32))] [(.ref a2), (.ref a1)])) rfl rfl (hb hby d_prog_29_method_1_6)
  have N6 := Fr.snoc X6 N5 g_a1
  have Z6 : n0 ≤ h6.size := Nat.le_trans Z0 (Nat.le_of_eq W6.size.symm)
  have Fw6 := Fld.same W6 F_connection_a1
  have f7 : Exa Z h6 a1 "com/example/grantd/grantd/front/Places$Waiting" := (E_a1.wr W6)
  have f8 : Fld Z h6 a1 "com/example/grantd/grantd/front/Places$Waiting" "closableFrom" "J" (.long (0 : Int64)) := (F_closableFrom_a1.other W6 (Or.inr (slot_ne (Or.inr (hw _ (List.mem_of_getElem? (i := 24) rfl))) (Or.inr (hw _ (List.mem_of_getElem? (i := 22) rfl))) (by decide) (t := .long) (t' := (.object "java/lang/Object")) (by decide) (by decide))))
  obtain ⟨T9, h9, X9, e9, W9, st9⟩ := putF X6 hx hZ hown (host := "") (Or.inl (hw _ (List.mem_of_getElem? (i := 23) rfl))) Via.refl e6 f8 f7 (Or.inr ⟨(hw _ (List.mem_of_getElem? (i := 24) rfl)), rfl, hnm⟩) (hw _ (List.mem_of_getElem? (i := 8) rfl)) (ty := .long) (by decide) rfl rfl (g := (mkF m 11 #[.val (.ref a1), .val (.ref a2), .val (.long q3), .second, .val (.long q4), .second, .val (.int (0 : Int32))] [(.long q3), (.ref a1)])) rfl rfl (hb hby d_prog_29_method_1_11)
  have N9 := Fr.snoc X9 N6 g_a1
  have Z9 : n0 ≤ h9.size := Nat.le_trans Z6 (Nat.le_of_eq W9.size.symm)
  have Fw9 := Fld.same W9 f8
  have f10 : Exa Z h9 a1 "com/example/grantd/grantd/front/Places$Waiting" := (f7.wr W9)
  have f11 : Fld Z h9 a1 "com/example/grantd/grantd/front/Places$Waiting" "firstServed" "J" (.long (0 : Int64)) := ((F_firstServed_a1.other W6 (Or.inr (slot_ne (Or.inr (hw _ (List.mem_of_getElem? (i := 26) rfl))) (Or.inr (hw _ (List.mem_of_getElem? (i := 22) rfl))) (by decide) (t := .long) (t' := (.object "java/lang/Object")) (by decide) (by decide)))).other W9 (Or.inr (slot_ne (Or.inr (hw _ (List.mem_of_getElem? (i := 26) rfl))) (Or.inr (hw _ (List.mem_of_getElem? (i := 24) rfl))) (by decide) (t := .long) (t' := .long) (by decide) (by decide))))
  obtain ⟨T12, h12, X12, e12, W12, st12⟩ := putF X9 hx hZ hown (host := "") (Or.inl (hw _ (List.mem_of_getElem? (i := 25) rfl))) Via.refl e9 f11 f10 (Or.inr ⟨(hw _ (List.mem_of_getElem? (i := 26) rfl)), rfl, hnm⟩) (hw _ (List.mem_of_getElem? (i := 8) rfl)) (ty := .long) (by decide) rfl rfl (g := (mkF m 17 #[.val (.ref a1), .val (.ref a2), .val (.long q3), .second, .val (.long q4), .second, .val (.int (0 : Int32))] [(.long q4), (.ref a1)])) rfl rfl (hb hby d_prog_29_method_1_17)
  have N12 := Fr.snoc X12 N9 g_a1
  have Z12 : n0 ≤ h12.size := Nat.le_trans Z9 (Nat.le_of_eq W12.size.symm)
  have Fw12 := Fld.same W12 f11
  have f13 : Exa Z h12 a1 "com/example/grantd/grantd/front/Places$Waiting" := (f10.wr W12)
  have f14 : Fld Z h12 a1 "com/example/grantd/grantd/front/Places$Waiting" "holdsHead" "Z" (.int (0 : Int32)) := (((F_holdsHead_a1.other W6 (Or.inr (slot_ne (Or.inr (hw _ (List.mem_of_getElem? (i := 28) rfl))) (Or.inr (hw _ (List.mem_of_getElem? (i := 22) rfl))) (by decide) (t := .boolean) (t' := (.object "java/lang/Object")) (by decide) (by decide)))).other W9 (Or.inr (slot_ne (Or.inr (hw _ (List.mem_of_getElem? (i := 28) rfl))) (Or.inr (hw _ (List.mem_of_getElem? (i := 24) rfl))) (by decide) (t := .boolean) (t' := .long) (by decide) (by decide)))).other W12 (Or.inr (slot_ne (Or.inr (hw _ (List.mem_of_getElem? (i := 28) rfl))) (Or.inr (hw _ (List.mem_of_getElem? (i := 26) rfl))) (by decide) (t := .boolean) (t' := .long) (by decide) (by decide))))
  obtain ⟨T15, h15, X15, e15, W15, st15⟩ := putFN X12 hx hZ hown (hw _ (List.mem_of_getElem? (i := 27) rfl)) Via.refl e12 f14 f13 (Or.inr ⟨(hw _ (List.mem_of_getElem? (i := 28) rfl)), rfl, hnm⟩) (hw _ (List.mem_of_getElem? (i := 8) rfl)) (ty := .boolean) (v' := (.int (0 : Int32))) (by decide) rfl (by decide) (g := (mkF m 23 #[.val (.ref a1), .val (.ref a2), .val (.long q3), .second, .val (.long q4), .second, .val (.int (0 : Int32))] [(.int (0 : Int32)), (.ref a1)])) rfl rfl (hb hby d_prog_29_method_1_23)
  have N15 := Fr.snoc X15 N12 g_a1
  have Z15 : n0 ≤ h15.size := Nat.le_trans Z12 (Nat.le_of_eq W15.size.symm)
  have Fw15 := Fld.same W15 f14
  have pre16 : ∀ t, Steps p.tables e below (T15.setTop (mkF m 26 #[.val (.ref a1), .val (.ref a2), .val (.long q3), .second, .val (.long q4), .second, .val (.int (0 : Int32))] [])) t → Steps p.tables e below (s₁.setTop (entryFrame m #[(.ref a1), (.ref a2), (.long q3), (.long q4), (.int (0 : Int32))] 7)) t := fun t kk => pre0 t (by
    show Steps p.tables e below (s₁.setTop (mkF m 0 #[.val (.ref a1), .val (.ref a2), .val (.long q3), .second, .val (.long q4), .second, .val (.int (0 : Int32))] [])) _
    refine XS.aloadN X0.here hx rfl (hb hby d_prog_29_method_1_0) rfl rfl ?_
    show Steps p.tables e below (s₁.setTop (mkF m 1 #[.val (.ref a1), .val (.ref a2), .val (.long q3), .second, .val (.long q4), .second, .val (.int (0 : Int32))] [(.ref a1)])) _
    refine st5.trans ?_
    show Steps p.tables e below (T5.setTop (mkF m 4 #[.val (.ref a1), .val (.ref a2), .val (.long q3), .second, .val (.long q4), .second, .val (.int (0 : Int32))] [])) _
    refine XS.aloadN X5.here hx rfl (hb hby d_prog_29_method_1_4) rfl rfl ?_
    show Steps p.tables e below (T5.setTop (mkF m 5 #[.val (.ref a1), .val (.ref a2), .val (.long q3), .second, .val (.long q4), .second, .val (.int (0 : Int32))] [(.ref a1)])) _
    refine XS.aloadN X5.here hx rfl (hb hby d_prog_29_method_1_5) rfl rfl ?_
    show Steps p.tables e below (T5.setTop (mkF m 6 #[.val (.ref a1), .val (.ref a2), .val (.long q3), .second, .val (.long q4), .second, .val (.int (0 : Int32))] [(.ref a2), (.ref a1)])) _
    refine st6 _ ?_
    show Steps p.tables e below (T6.setTop (mkF m 9 #[.val (.ref a1), .val (.ref a2), .val (.long q3), .second, .val (.long q4), .second, .val (.int (0 : Int32))] [])) _
    refine XS.aloadN X6.here hx rfl (hb hby d_prog_29_method_1_9) rfl rfl ?_
    show Steps p.tables e below (T6.setTop (mkF m 10 #[.val (.ref a1), .val (.ref a2), .val (.long q3), .second, .val (.long q4), .second, .val (.int (0 : Int32))] [(.ref a1)])) _
    refine XS.lloadN X6.here hx rfl (hb hby d_prog_29_method_1_10) rfl ?_
    show Steps p.tables e below (T6.setTop (mkF m 11 #[.val (.ref a1), .val (.ref a2), .val (.long q3), .second, .val (.long q4), .second, .val (.int (0 : Int32))] [(.long q3), (.ref a1)])) _
    refine st9 _ ?_
    show Steps p.tables e below (T9.setTop (mkF m 14 #[.val (.ref a1), .val (.ref a2), .val (.long q3), .second, .val (.long q4), .second, .val (.int (0 : Int32))] [])) _
    refine XS.aloadN X9.here hx rfl (hb hby d_prog_29_method_1_14) rfl rfl ?_
    show Steps p.tables e below (T9.setTop (mkF m 15 #[.val (.ref a1), .val (.ref a2), .val (.long q3), .second, .val (.long q4), .second, .val (.int (0 : Int32))] [(.ref a1)])) _
    refine XS.lload X9.here hx rfl (hb hby d_prog_29_method_1_15) rfl ?_
    show Steps p.tables e below (T9.setTop (mkF m 17 #[.val (.ref a1), .val (.ref a2), .val (.long q3), .second, .val (.long q4), .second, .val (.int (0 : Int32))] [(.long q4), (.ref a1)])) _
    refine st12 _ ?_
    show Steps p.tables e below (T12.setTop (mkF m 20 #[.val (.ref a1), .val (.ref a2), .val (.long q3), .second, .val (.long q4), .second, .val (.int (0 : Int32))] [])) _
    refine XS.aloadN X12.here hx rfl (hb hby d_prog_29_method_1_20) rfl rfl ?_
    show Steps p.tables e below (T12.setTop (mkF m 21 #[.val (.ref a1), .val (.ref a2), .val (.long q3), .second, .val (.long q4), .second, .val (.int (0 : Int32))] [(.ref a1)])) _
    refine XS.iload X12.here hx rfl (hb hby d_prog_29_method_1_21) rfl ?_
    show Steps p.tables e below (T12.setTop (mkF m 23 #[.val (.ref a1), .val (.ref a2), .val (.long q3), .second, .val (.long q4), .second, .val (.int (0 : Int32))] [(.int (0 : Int32)), (.ref a1)])) _
    refine st15 _ ?_
    exact kk)
  obtain ⟨fs, hr, hrun, hended, hW, hsame⟩ := X15.leave (v := none) (fun _ => rfl)
  refine ⟨_, _, pre16 _ ?_, hrun, hended, _, _, rfl, ?_, ⟨_, rfl⟩, hW, hsame.mono (by decide) (by decide)⟩
  · exact X15.returnOut hx Bd.returns (hb hby d_prog_29_method_1_26) hr
  · show Q5 Z a1 a2 q3 q4 h0 n0 _ T15.heap _
    rw [e15]
    exact ⟨rfl, N15, h6, W6, h9, W9, h12, W12, h15, W15, rfl⟩
theorem pd_3 : parseMethodDescriptor "(Ljava/lang/Object;JJZ)V" = some ⟨[(.object "java/lang/Object"), .long, .long, .boolean], none⟩ := by decide +kernel
theorem d_prog_29_method_2_0 : decode prog_29_method_2_code 0 = .ok (.aload_n 0, 1) := by decide +kernel
theorem d_prog_29_method_2_1 : decode prog_29_method_2_code 1 = .ok (.getfield 17, 3) := by decide +kernel
theorem d_prog_29_method_2_4 : decode prog_29_method_2_code 4 = .ok (.ldc2_w 26, 3) := by decide +kernel
theorem d_prog_29_method_2_7 : decode prog_29_method_2_code 7 = .ok (.lcmp, 1) := by decide +kernel
theorem d_prog_29_method_2_8 : decode prog_29_method_2_code 8 = .ok (.ifCond .eq 14, 3) := by decide +kernel
theorem d_prog_29_method_2_22 : decode prog_29_method_2_code 22 = .ok (.iconst 0, 1) := by decide +kernel
theorem d_prog_29_method_2_23 : decode prog_29_method_2_code 23 = .ok (.ireturn, 1) := by decide +kernel
def Q6 (Z : State) (a1 : Addr) (q2 : Int64) (h0 : Heap) (n0 : Nat) (v : Option Value) (h : Heap) (L : List Loc) : Prop := v = some (.int (0 : Int32)) ∧ Fr n0 L ∧ h = h0
set_option maxRecDepth 65536 in
set_option maxHeartbeats 40000000 in
theorem rm6 (l : Launch) (Z : State) (a0 : Array Value) (hw : ∀ d ∈ tables_1, d.before a0 Z = true) (ws : List Jvm.Cond) (a1 : Addr) (q2 : Int64) (h0 : Heap) (n0 : Nat) (Z0 : n0 ≤ h0.size) (F_firstServed_a1 : Fld Z h0 a1 "com/example/grantd/grantd/front/Places$Waiting" "firstServed" "J" (.long q2)) (hc4 : (lcmpW q2 (9223372036854775807 : Int64)) = (0 : Int32)) :
    MetFree l (⟨"com/example/grantd/grantd/front/Places$Waiting", "isBetweenRequests", "()Z"⟩ : MethodName) (head1 (Jvm.Cond.code (⟨"com/example/grantd/grantd/front/Places$Waiting", "isBetweenRequests", "()Z"⟩ : MethodName) prog_29_method_2_code 1 (some .boolean) :: ws) ({ frames := 0, cells := 0, slots := 0, locals := 0 } : Room)) (fun a U => a = #[(.ref a1)] ∧ Z.Warmed39 U.vm ∧ U.heap = h0) (fun _ _ _ _ _ => True) (fun _ U o U' => ∃ v L, o = .returned v ∧ Q6 Z a1 q2 h0 n0 v U'.heap L ∧ FrameEnd U o U' L ({ frames := 0, cells := 0, slots := 0, locals := 0 } : Room).cells ({ frames := 0, cells := 0, slots := 0, locals := 0 } : Room).slots) := by
  refine MetFree.of_bodySF (plainFor_of_name pn_4) hisR ?_
  intro p e s m args below meth c s₁ Bd hml0 hP hK
  obtain ⟨rfl, hZ, hh⟩ := hP
  have hx := Bd.exec
  have hby := Bd.bytes
  have hml : c.maxLocals = 1 := hml0
  have hown : s.vm.findClass "com/example/grantd/grantd/front/Places$Waiting" = some m.cls := findClass_of_methodNamed Bd.named
  have hnm := (name_of_methodNamed Bd.named Bd.method).1
  have X0 : Stand p l e ({ frames := 0, cells := 0, slots := 0, locals := 0 } : Room) s m #[(.ref a1)] below meth c s₁ [] 0 0 := Stand.of_body Bd
  have e0 : s₁.heap = h0 := by rw [← hh, Bd.state]; rfl
  have N0 := Fr.nil n0
  have pre0 : ∀ t, Steps p.tables e below (s₁.setTop (mkF m 0 #[.val (.ref a1)] [])) t → Steps p.tables e below (s₁.setTop (entryFrame m #[(.ref a1)] 1)) t := fun t k => castTop (ef_1 m a1) k
  obtain ⟨T3, X3, e3, st3⟩ := getF X0 hx hZ hown (host := "") (Or.inl (hw _ (List.mem_of_getElem? (i := 25) rfl))) Via.refl e0 F_firstServed_a1 (g := (mkF m 1 #[.val (.ref a1)] [(.ref a1)])) rfl rfl (hb hby d_prog_29_method_2_1)
  have pre5 : ∀ t, Steps p.tables e below (T3.setTop (mkF m 23 #[.val (.ref a1)] [(.int (0 : Int32))])) t → Steps p.tables e below (s₁.setTop (entryFrame m #[(.ref a1)] 1)) t := fun t kk => pre0 t (by
    show Steps p.tables e below (s₁.setTop (mkF m 0 #[.val (.ref a1)] [])) _
    refine XS.aloadN X0.here hx rfl (hb hby d_prog_29_method_2_0) rfl rfl ?_
    show Steps p.tables e below (s₁.setTop (mkF m 1 #[.val (.ref a1)] [(.ref a1)])) _
    refine st3 _ ?_
    show Steps p.tables e below (T3.setTop (mkF m 4 #[.val (.ref a1)] [(.long q2)])) _
    refine X3.ldc2Long hx hown (mvT hZ (hw _ (List.mem_of_getElem? (i := 35) rfl))) (g := (mkF m 4 #[.val (.ref a1)] [(.long q2)])) rfl (hb hby d_prog_29_method_2_4) _ ?_
    show Steps p.tables e below (T3.setTop (mkF m 7 #[.val (.ref a1)] [(.long (9223372036854775807 : Int64)), (.long q2)])) _
    refine XS.lcmp X3.here hx rfl (hb hby d_prog_29_method_2_7) rfl ?_
    show Steps p.tables e below (T3.setTop (mkF m 8 #[.val (.ref a1)] [(.int (lcmpW q2 (9223372036854775807 : Int64)))])) _
    refine XS.ifYes X3.here hx rfl (pc0 := 8) (pc' := 22) rfl (hb hby d_prog_29_method_2_8) rfl ((if0 _ _).trans (teq (hc4 : (lcmpW q2 (9223372036854775807 : Int64)) = (0 : Int32))).1) (by decide) (by decide) ?_
    show Steps p.tables e below (T3.setTop (mkF m 22 #[.val (.ref a1)] [])) _
    refine XS.iconst X3.here hx rfl (hb hby d_prog_29_method_2_22) ?_
    exact kk)
  obtain ⟨fs, hr, hrun, hended, hW, hsame⟩ := X3.leave (v := some (.int (0 : Int32))) (fun h => by rw [Bd.returns] at h; cases h)
  refine ⟨_, _, pre5 _ ?_, hrun, hended, _, _, rfl, ?_, ⟨_, rfl⟩, hW, hsame.mono (by decide) (by decide)⟩
  · exact retN X3 hx (t := .boolean) Bd.returns (by simp) (hb hby d_prog_29_method_2_23) hr
  · show Q6 Z a1 q2 h0 n0 _ T3.heap _
    rw [e3]
    exact ⟨rfl, N0, rfl⟩
theorem pd_4 : parseMethodDescriptor "()Z" = some ⟨[], some .boolean⟩ := by decide +kernel
theorem d_prog_29_method_2_11 : decode prog_29_method_2_code 11 = .ok (.aload_n 0, 1) := by decide +kernel
theorem d_prog_29_method_2_12 : decode prog_29_method_2_code 12 = .ok (.getfield 20, 3) := by decide +kernel
theorem d_prog_29_method_2_15 : decode prog_29_method_2_code 15 = .ok (.ifCond .ne 7, 3) := by decide +kernel
theorem d_prog_29_method_2_18 : decode prog_29_method_2_code 18 = .ok (.iconst 1, 1) := by decide +kernel
theorem d_prog_29_method_2_19 : decode prog_29_method_2_code 19 = .ok (.goto 4, 3) := by decide +kernel
def Q7 (Z : State) (a1 : Addr) (q2 : Int64) (h0 : Heap) (n0 : Nat) (v : Option Value) (h : Heap) (L : List Loc) : Prop := v = some (.int (1 : Int32)) ∧ Fr n0 L ∧ h = h0
set_option maxRecDepth 65536 in
set_option maxHeartbeats 40000000 in
theorem rm7 (l : Launch) (Z : State) (a0 : Array Value) (hw : ∀ d ∈ tables_1, d.before a0 Z = true) (ws : List Jvm.Cond) (a1 : Addr) (q2 : Int64) (h0 : Heap) (n0 : Nat) (Z0 : n0 ≤ h0.size) (F_firstServed_a1 : Fld Z h0 a1 "com/example/grantd/grantd/front/Places$Waiting" "firstServed" "J" (.long q2)) (hc4 : ¬ ((lcmpW q2 (9223372036854775807 : Int64)) = (0 : Int32))) (F_holdsHead_a1 : Fld Z h0 a1 "com/example/grantd/grantd/front/Places$Waiting" "holdsHead" "Z" (.int (0 : Int32))) :
    MetFree l (⟨"com/example/grantd/grantd/front/Places$Waiting", "isBetweenRequests", "()Z"⟩ : MethodName) (head1 (Jvm.Cond.code (⟨"com/example/grantd/grantd/front/Places$Waiting", "isBetweenRequests", "()Z"⟩ : MethodName) prog_29_method_2_code 1 (some .boolean) :: ws) ({ frames := 0, cells := 0, slots := 0, locals := 0 } : Room)) (fun a U => a = #[(.ref a1)] ∧ Z.Warmed39 U.vm ∧ U.heap = h0) (fun _ _ _ _ _ => True) (fun _ U o U' => ∃ v L, o = .returned v ∧ Q7 Z a1 q2 h0 n0 v U'.heap L ∧ FrameEnd U o U' L ({ frames := 0, cells := 0, slots := 0, locals := 0 } : Room).cells ({ frames := 0, cells := 0, slots := 0, locals := 0 } : Room).slots) := by
  refine MetFree.of_bodySF (plainFor_of_name pn_4) hisR ?_
  intro p e s m args below meth c s₁ Bd hml0 hP hK
  obtain ⟨rfl, hZ, hh⟩ := hP
  have hx := Bd.exec
  have hby := Bd.bytes
  have hml : c.maxLocals = 1 := hml0
  have hown : s.vm.findClass "com/example/grantd/grantd/front/Places$Waiting" = some m.cls := findClass_of_methodNamed Bd.named
  have hnm := (name_of_methodNamed Bd.named Bd.method).1
  have X0 : Stand p l e ({ frames := 0, cells := 0, slots := 0, locals := 0 } : Room) s m #[(.ref a1)] below meth c s₁ [] 0 0 := Stand.of_body Bd
  have e0 : s₁.heap = h0 := by rw [← hh, Bd.state]; rfl
  have N0 := Fr.nil n0
  have pre0 : ∀ t, Steps p.tables e below (s₁.setTop (mkF m 0 #[.val (.ref a1)] [])) t → Steps p.tables e below (s₁.setTop (entryFrame m #[(.ref a1)] 1)) t := fun t k => castTop (ef_1 m a1) k
  obtain ⟨T3, X3, e3, st3⟩ := getF X0 hx hZ hown (host := "") (Or.inl (hw _ (List.mem_of_getElem? (i := 25) rfl))) Via.refl e0 F_firstServed_a1 (g := (mkF m 1 #[.val (.ref a1)] [(.ref a1)])) rfl rfl (hb hby d_prog_29_method_2_1)
  obtain ⟨T5, X5, e5, st5⟩ := getF X3 hx hZ hown (host := "") (Or.inl (hw _ (List.mem_of_getElem? (i := 27) rfl))) Via.refl e3 F_holdsHead_a1 (g := (mkF m 12 #[.val (.ref a1)] [(.ref a1)])) rfl rfl (hb hby d_prog_29_method_2_12)
  have pre6 : ∀ t, Steps p.tables e below (T5.setTop (mkF m 23 #[.val (.ref a1)] [(.int (1 : Int32))])) t → Steps p.tables e below (s₁.setTop (entryFrame m #[(.ref a1)] 1)) t := fun t kk => pre0 t (by
    show Steps p.tables e below (s₁.setTop (mkF m 0 #[.val (.ref a1)] [])) _
    refine XS.aloadN X0.here hx rfl (hb hby d_prog_29_method_2_0) rfl rfl ?_
    show Steps p.tables e below (s₁.setTop (mkF m 1 #[.val (.ref a1)] [(.ref a1)])) _
    refine st3 _ ?_
    show Steps p.tables e below (T3.setTop (mkF m 4 #[.val (.ref a1)] [(.long q2)])) _
    refine X3.ldc2Long hx hown (mvT hZ (hw _ (List.mem_of_getElem? (i := 35) rfl))) (g := (mkF m 4 #[.val (.ref a1)] [(.long q2)])) rfl (hb hby d_prog_29_method_2_4) _ ?_
    show Steps p.tables e below (T3.setTop (mkF m 7 #[.val (.ref a1)] [(.long (9223372036854775807 : Int64)), (.long q2)])) _
    refine XS.lcmp X3.here hx rfl (hb hby d_prog_29_method_2_7) rfl ?_
    show Steps p.tables e below (T3.setTop (mkF m 8 #[.val (.ref a1)] [(.int (lcmpW q2 (9223372036854775807 : Int64)))])) _
    refine XS.ifNo X3.here hx rfl (hb hby d_prog_29_method_2_8) rfl ((if0 _ _).trans (feq (hc4 : ¬ ((lcmpW q2 (9223372036854775807 : Int64)) = (0 : Int32)))).1) ?_
    show Steps p.tables e below (T3.setTop (mkF m 11 #[.val (.ref a1)] [])) _
    refine XS.aloadN X3.here hx rfl (hb hby d_prog_29_method_2_11) rfl rfl ?_
    show Steps p.tables e below (T3.setTop (mkF m 12 #[.val (.ref a1)] [(.ref a1)])) _
    refine st5 _ ?_
    show Steps p.tables e below (T5.setTop (mkF m 15 #[.val (.ref a1)] [(.int (0 : Int32))])) _
    refine XS.ifNo X5.here hx rfl (hb hby d_prog_29_method_2_15) rfl ((if0 _ _).trans (teq ((by decide) : (0 : Int32) = (0 : Int32))).2) ?_
    show Steps p.tables e below (T5.setTop (mkF m 18 #[.val (.ref a1)] [])) _
    refine XS.iconst X5.here hx rfl (hb hby d_prog_29_method_2_18) ?_
    show Steps p.tables e below (T5.setTop (mkF m 19 #[.val (.ref a1)] [(.int (1 : Int32))])) _
    refine XS.goto X5.here hx rfl (pc0 := 19) (pc' := 23) rfl (hb hby d_prog_29_method_2_19) (by decide) (by decide) ?_
    exact kk)
  obtain ⟨fs, hr, hrun, hended, hW, hsame⟩ := X5.leave (v := some (.int (1 : Int32))) (fun h => by rw [Bd.returns] at h; cases h)
  refine ⟨_, _, pre6 _ ?_, hrun, hended, _, _, rfl, ?_, ⟨_, rfl⟩, hW, hsame.mono (by decide) (by decide)⟩
  · exact retN X5 hx (t := .boolean) Bd.returns (by simp) (hb hby d_prog_29_method_2_23) hr
  · show Q7 Z a1 q2 h0 n0 _ T5.heap _
    rw [e5]
    exact ⟨rfl, N0, rfl⟩
theorem d_jdk_33_method_22_6 : decode jdk_33_method_22_code 6 = .ok (.iload_n 0, 1) := by decide +kernel
theorem d_jdk_33_method_22_7 : decode jdk_33_method_22_code 7 = .ok (.getstatic 191, 3) := by decide +kernel
theorem d_jdk_33_method_22_10 : decode jdk_33_method_22_code 10 = .ok (.if_icmp .gt 13, 3) := by decide +kernel
def Q8 (Z : State) (p1 : Int32) (h0 : Heap) (n0 : Nat) (v : Option Value) (h : Heap) (L : List Loc) : Prop := ∃ br : Addr, v = some (.ref br) ∧ Fr n0 L ∧ ∃ (h5 : Heap) (b5 : Addr), b5 = h0.size ∧ Ext h0 h5 ∧ Exa Z h5 b5 "java/lang/Integer" ∧ Fld Z h5 b5 "java/lang/Integer" "value" "I" (.int (0 : Int32)) ∧ ∃ h7 : Heap, Wr h5 h7 b5 (Jvm.RoadKit.slotOf Z "java/lang/Integer" "value" "I") (.int p1) ∧ h = h7 ∧ b5 = br
set_option maxRecDepth 65536 in
set_option maxHeartbeats 40000000 in
theorem rm8 (l : Launch) (Z : State) (a0 : Array Value) (hw : ∀ d ∈ tables_1, d.before a0 Z = true) (ws : List Jvm.Cond) (p1 : Int32) (h0 : Heap) (n0 : Nat) (Z0 : n0 ≤ h0.size) (hc2 : ¬ (p1 < (-128 : Int32))) (S_high : Sta Z h0 "java/lang/Integer$IntegerCache" "high" "I" (.int (127 : Int32))) (hc4 : (127 : Int32) < p1) :
    MetFree l (⟨"java/lang/Integer", "valueOf", "(I)Ljava/lang/Integer;"⟩ : MethodName) (head1 (Jvm.Cond.code (⟨"java/lang/Integer", "valueOf", "(I)Ljava/lang/Integer;"⟩ : MethodName) jdk_33_method_22_code 1 (some (.object "java/lang/Integer")) :: ws) ({ frames := 3, cells := 1, slots := 1, locals := 38 } : Room)) (fun a U => a = #[(.int p1)] ∧ Z.Warmed39 U.vm ∧ U.heap = h0) (fun _ _ _ _ _ => True) (fun _ U o U' => ∃ v L, o = .returned v ∧ Q8 Z p1 h0 n0 v U'.heap L ∧ FrameEnd U o U' L ({ frames := 3, cells := 1, slots := 1, locals := 38 } : Room).cells ({ frames := 3, cells := 1, slots := 1, locals := 38 } : Room).slots) := by
  refine MetFree.of_bodySF (plainFor_of_name pn_2) hisR ?_
  intro p e s m args below meth c s₁ Bd hml0 hP hK
  obtain ⟨rfl, hZ, hh⟩ := hP
  have hx := Bd.exec
  have hby := Bd.bytes
  have hml : c.maxLocals = 1 := hml0
  have hown : s.vm.findClass "java/lang/Integer" = some m.cls := findClass_of_methodNamed Bd.named
  have hnm := (name_of_methodNamed Bd.named Bd.method).1
  have X0 : Stand p l e ({ frames := 3, cells := 1, slots := 1, locals := 38 } : Room) s m #[(.int p1)] below meth c s₁ [] 0 0 := Stand.of_body Bd
  have e0 : s₁.heap = h0 := by rw [← hh, Bd.state]; rfl
  have N0 := Fr.nil n0
  have pre0 : ∀ t, Steps p.tables e below (s₁.setTop (mkF m 0 #[.val (.int p1)] [])) t → Steps p.tables e below (s₁.setTop (entryFrame m #[(.int p1)] 1)) t := fun t k => castTop (ef_3 m (p1)) k
  obtain ⟨T3, X3, e3, st3⟩ := getS2 X0 hx hZ hown (host := "") (Or.inl (hw _ (List.mem_of_getElem? (i := 4) rfl))) Via.refl e0 S_high (g := (mkF m 7 #[.val (.int p1)] [(.int p1)])) rfl (hb hby d_jdk_33_method_22_7)
  obtain ⟨T5, h5, X5, e5, E5, A5, D5, -, st5⟩ := newO X3 hx hZ hown (hw _ (List.mem_of_getElem? (i := 36) rfl)) (hw _ (List.mem_of_getElem? (i := 37) rfl)) (hw _ (List.mem_of_getElem? (i := 2) rfl)) e3 (g := (mkF m 23 #[.val (.int p1)] [])) rfl (hb hby d_jdk_33_method_22_23) (by decide) (by decide)
  obtain ⟨b5, g5⟩ : ∃ z, z = h0.size := ⟨_, rfl⟩
  rw [← g5] at A5 D5 st5
  have F5_value : Fld Z h5 b5 "java/lang/Integer" "value" "I" (.int (0 : Int32)) := D5 (Or.inr (hw _ (List.mem_of_getElem? (i := 50) rfl))) (ty := .int) (by decide)
  have G5 : n0 ≤ b5 := (Nat.le_trans Z0 (Nat.le_of_eq g5.symm))
  have Z5 : n0 ≤ h5.size := Nat.le_trans Z0 E5.1
  obtain ⟨_, _, ⟨T6, L6, k6, n6⟩, -, X6, ⟨Lc6, hQ6, l6, y6, z6⟩, st6⟩ := X5.specialBack hx (y := (⟨"java/lang/Integer", "<init>", "(I)V"⟩ : MethodName)) rfl hown (mvT hZ (hw _ (List.mem_of_getElem? (i := 38) rfl))) (mvT hZ (hw _ (List.mem_of_getElem? (i := 39) rfl))) (mvT hZ (hw _ (List.mem_of_getElem? (i := 41) rfl))) (by decide) (backOf (W := 1) (rm2 l Z a0 hw [] b5 p1 h5 n0 Z5 A5 F5_value G5) hZ (hw _ (List.mem_of_getElem? (i := 41) rfl)) (hw _ (List.mem_of_getElem? (i := 2) rfl)) (by decide) (by decide)) (g := (mkF m 28 #[.val (.int p1)] [(.int p1), (.ref b5), (.ref b5)])) rfl (by rw [hml]; rfl) (Steps.refl _) (a := b5) (argsL := [(.int p1)]) (rest := [(.ref b5)]) (lenOf pd_1 rfl) rfl (by show 2 * 0 + _ ≤ _; exact Nat.le_of_eq rfl) (hb hby d_jdk_33_method_22_28) (fun _ _ => ⟨rfl, e5, (by decide : 1 + 0 ≤ _), (by decide : 1 + 0 ≤ _)⟩)
  dsimp only [Pt.U, Pt.locs, Pt.cells, Pt.slots] at X6 l6 y6 z6 st6 hQ6
  subst l6 y6 z6
  obtain ⟨rfl, N6q, h7, W7, e6⟩ := hQ6
  have N6 := Fr.app N0 N6q
  have Z7 : n0 ≤ h7.size := Nat.le_trans Z5 (Nat.le_of_eq W7.size.symm)
  have Fw7 := Fld.same W7 F5_value
  have pre8 : ∀ t, Steps p.tables e below (T6.setTop (mkF m 31 #[.val (.int p1)] [(.ref b5)])) t → Steps p.tables e below (s₁.setTop (entryFrame m #[(.int p1)] 1)) t := fun t kk => pre0 t (by
    show Steps p.tables e below (s₁.setTop (mkF m 0 #[.val (.int p1)] [])) _
    refine XS.iloadN X0.here hx rfl (hb hby d_jdk_33_method_22_0) rfl ?_
    show Steps p.tables e below (s₁.setTop (mkF m 1 #[.val (.int p1)] [(.int p1)])) _
    refine XS.bipush X0.here hx rfl (hb hby d_jdk_33_method_22_1) ?_
    show Steps p.tables e below (s₁.setTop (mkF m 3 #[.val (.int p1)] [(.int (-128 : Int32)), (.int p1)])) _
    refine XS.icmpNo X0.here hx rfl (hb hby d_jdk_33_method_22_3) rfl (flt (hc2 : ¬ (p1 < (-128 : Int32)))).1 ?_
    show Steps p.tables e below (s₁.setTop (mkF m 6 #[.val (.int p1)] [])) _
    refine XS.iloadN X0.here hx rfl (hb hby d_jdk_33_method_22_6) rfl ?_
    show Steps p.tables e below (s₁.setTop (mkF m 7 #[.val (.int p1)] [(.int p1)])) _
    refine st3 _ ?_
    show Steps p.tables e below (T3.setTop (mkF m 10 #[.val (.int p1)] [(.int (127 : Int32)), (.int p1)])) _
    refine XS.icmpYes X3.here hx rfl (pc0 := 10) (pc' := 23) rfl (hb hby d_jdk_33_method_22_10) rfl (tlt (hc4 : (127 : Int32) < p1)).2.2.1 (by decide) (by decide) ?_
    show Steps p.tables e below (T3.setTop (mkF m 23 #[.val (.int p1)] [])) _
    refine st5 _ ?_
    show Steps p.tables e below (T5.setTop (mkF m 26 #[.val (.int p1)] [(.ref b5)])) _
    refine XS.dup X5.here hx rfl (hb hby d_jdk_33_method_22_26) rfl rfl ?_
    show Steps p.tables e below (T5.setTop (mkF m 27 #[.val (.int p1)] [(.ref b5), (.ref b5)])) _
    refine XS.iloadN X5.here hx rfl (hb hby d_jdk_33_method_22_27) rfl ?_
    show Steps p.tables e below (T5.setTop (mkF m 28 #[.val (.int p1)] [(.int p1), (.ref b5), (.ref b5)])) _
    refine st6.trans ?_
    exact kk)
  obtain ⟨fs, hr, hrun, hended, hW, hsame⟩ := X6.leave (v := some (.ref b5)) (fun h => by rw [Bd.returns] at h; cases h)
  refine ⟨_, _, pre8 _ ?_, hrun, hended, _, _, rfl, ?_, ⟨_, rfl⟩, hW, hsame.mono (by decide) (by decide)⟩
  · exact retOut X6 hx Bd.returns rfl (Or.inr (Or.inr (Or.inr (Or.inr ⟨rfl, rfl, rfl⟩)))) (hb hby d_jdk_33_method_22_31) hr
  · show Q8 Z p1 h0 n0 _ T6.heap _
    rw [e6]
    exact ⟨_, rfl, N6, h5, b5, g5, E5, A5, F5_value, h7, W7, rfl, rfl⟩
theorem d_jdk_33_method_22_13 : decode jdk_33_method_22_code 13 = .ok (.getstatic 195, 3) := by decide +kernel
theorem d_jdk_33_method_22_16 : decode jdk_33_method_22_code 16 = .ok (.iload_n 0, 1) := by decide +kernel
theorem d_jdk_33_method_22_17 : decode jdk_33_method_22_code 17 = .ok (.sipush 128, 3) := by decide +kernel
theorem d_jdk_33_method_22_20 : decode jdk_33_method_22_code 20 = .ok (.iadd, 1) := by decide +kernel
theorem d_jdk_33_method_22_21 : decode jdk_33_method_22_code 21 = .ok (.aaload, 1) := by decide +kernel
theorem d_jdk_33_method_22_22 : decode jdk_33_method_22_code 22 = .ok (.areturn, 1) := by decide +kernel
def Q9 (Z : State) (p1 : Int32) (a5 : Addr) (k_a5 : ClassId) (vs_a5 : List Value) (h0 : Heap) (n0 : Nat) (v : Option Value) (h : Heap) (L : List Loc) : Prop := ∃ br : Addr, v = some (.ref br) ∧ Fr n0 L ∧ Exa Z h0 br "java/lang/Integer" ∧ h = h0
set_option maxRecDepth 65536 in
set_option maxHeartbeats 40000000 in
theorem rm9 (l : Launch) (Z : State) (a0 : Array Value) (hw : ∀ d ∈ tables_1, d.before a0 Z = true) (ws : List Jvm.Cond) (p1 : Int32) (a5 : Addr) (k_a5 : ClassId) (vs_a5 : List Value) (h0 : Heap) (n0 : Nat) (Z0 : n0 ≤ h0.size) (hc2 : ¬ (p1 < (-128 : Int32))) (S_high : Sta Z h0 "java/lang/Integer$IntegerCache" "high" "I" (.int (127 : Int32))) (hc4 : ¬ ((127 : Int32) < p1)) (S_cache : Sta Z h0 "java/lang/Integer$IntegerCache" "cache" "[Ljava/lang/Integer;" (.ref a5)) (V_a5 : Arv Z h0 a5 k_a5 (.object "java/lang/Integer") (256 : Int32) vs_a5 .null) (X_a5 : OwnBoxes Z h0 vs_a5) :
    MetFree l (⟨"java/lang/Integer", "valueOf", "(I)Ljava/lang/Integer;"⟩ : MethodName) (head1 (Jvm.Cond.code (⟨"java/lang/Integer", "valueOf", "(I)Ljava/lang/Integer;"⟩ : MethodName) jdk_33_method_22_code 1 (some (.object "java/lang/Integer")) :: ws) ({ frames := 0, cells := 0, slots := 0, locals := 0 } : Room)) (fun a U => a = #[(.int p1)] ∧ Z.Warmed39 U.vm ∧ U.heap = h0) (fun _ _ _ _ _ => True) (fun _ U o U' => ∃ v L, o = .returned v ∧ Q9 Z p1 a5 k_a5 vs_a5 h0 n0 v U'.heap L ∧ FrameEnd U o U' L ({ frames := 0, cells := 0, slots := 0, locals := 0 } : Room).cells ({ frames := 0, cells := 0, slots := 0, locals := 0 } : Room).slots) := by
  refine MetFree.of_bodySF (plainFor_of_name pn_2) hisR ?_
  intro p e s m args below meth c s₁ Bd hml0 hP hK
  obtain ⟨rfl, hZ, hh⟩ := hP
  have hx := Bd.exec
  have hby := Bd.bytes
  have hml : c.maxLocals = 1 := hml0
  have hown : s.vm.findClass "java/lang/Integer" = some m.cls := findClass_of_methodNamed Bd.named
  have hnm := (name_of_methodNamed Bd.named Bd.method).1
  have X0 : Stand p l e ({ frames := 0, cells := 0, slots := 0, locals := 0 } : Room) s m #[(.int p1)] below meth c s₁ [] 0 0 := Stand.of_body Bd
  have e0 : s₁.heap = h0 := by rw [← hh, Bd.state]; rfl
  have N0 := Fr.nil n0
  have pre0 : ∀ t, Steps p.tables e below (s₁.setTop (mkF m 0 #[.val (.int p1)] [])) t → Steps p.tables e below (s₁.setTop (entryFrame m #[(.int p1)] 1)) t := fun t k => castTop (ef_3 m (p1)) k
  obtain ⟨T3, X3, e3, st3⟩ := getS2 X0 hx hZ hown (host := "") (Or.inl (hw _ (List.mem_of_getElem? (i := 4) rfl))) Via.refl e0 S_high (g := (mkF m 7 #[.val (.int p1)] [(.int p1)])) rfl (hb hby d_jdk_33_method_22_7)
  obtain ⟨T6, X6, e6, st6⟩ := getS2 X3 hx hZ hown (host := "") (Or.inl (hw _ (List.mem_of_getElem? (i := 6) rfl))) Via.refl e3 S_cache (g := (mkF m 13 #[.val (.int p1)] [])) rfl (hb hby d_jdk_33_method_22_13)
  obtain ⟨clo7, Aro7, qo7, So7, No7', Ho7, Gfo7⟩ := V_a5
  have pl8 := Jvm.Free.IntBox.place_ok p1 hc2 hc4
  obtain ⟨b8, qb8, A8⟩ := X_a5 _ pl8.2
  have hin8 : ¬ ((p1 + (128 : Int32)) < 0 ∨ clo7.slots.size ≤ ((p1 + (128 : Int32))).toNatClampNeg) := by rw [So7]; exact pl8.1
  have hat8 : clo7.slots[((p1 + (128 : Int32))).toNatClampNeg]? = some (.ref b8) := own_boxAt Ho7 (fun z => hin8 (Or.inr z)) qb8
  have pre9 : ∀ t, Steps p.tables e below (T6.setTop (mkF m 22 #[.val (.int p1)] [(.ref b8)])) t → Steps p.tables e below (s₁.setTop (entryFrame m #[(.int p1)] 1)) t := fun t kk => pre0 t (by
    show Steps p.tables e below (s₁.setTop (mkF m 0 #[.val (.int p1)] [])) _
    refine XS.iloadN X0.here hx rfl (hb hby d_jdk_33_method_22_0) rfl ?_
    show Steps p.tables e below (s₁.setTop (mkF m 1 #[.val (.int p1)] [(.int p1)])) _
    refine XS.bipush X0.here hx rfl (hb hby d_jdk_33_method_22_1) ?_
    show Steps p.tables e below (s₁.setTop (mkF m 3 #[.val (.int p1)] [(.int (-128 : Int32)), (.int p1)])) _
    refine XS.icmpNo X0.here hx rfl (hb hby d_jdk_33_method_22_3) rfl (flt (hc2 : ¬ (p1 < (-128 : Int32)))).1 ?_
    show Steps p.tables e below (s₁.setTop (mkF m 6 #[.val (.int p1)] [])) _
    refine XS.iloadN X0.here hx rfl (hb hby d_jdk_33_method_22_6) rfl ?_
    show Steps p.tables e below (s₁.setTop (mkF m 7 #[.val (.int p1)] [(.int p1)])) _
    refine st3 _ ?_
    show Steps p.tables e below (T3.setTop (mkF m 10 #[.val (.int p1)] [(.int (127 : Int32)), (.int p1)])) _
    refine XS.icmpNo X3.here hx rfl (hb hby d_jdk_33_method_22_10) rfl (flt (hc4 : ¬ ((127 : Int32) < p1))).2.2.1 ?_
    show Steps p.tables e below (T3.setTop (mkF m 13 #[.val (.int p1)] [])) _
    refine st6 _ ?_
    show Steps p.tables e below (T6.setTop (mkF m 16 #[.val (.int p1)] [(.ref a5)])) _
    refine XS.iloadN X6.here hx rfl (hb hby d_jdk_33_method_22_16) rfl ?_
    show Steps p.tables e below (T6.setTop (mkF m 17 #[.val (.int p1)] [(.int p1), (.ref a5)])) _
    refine XS.sipush X6.here hx rfl (hb hby d_jdk_33_method_22_17) ?_
    show Steps p.tables e below (T6.setTop (mkF m 20 #[.val (.int p1)] [(.int (128 : Int32)), (.int p1), (.ref a5)])) _
    refine XS.iadd X6.here hx rfl (hb hby d_jdk_33_method_22_20) rfl ?_
    show Steps p.tables e below (T6.setTop (mkF m 21 #[.val (.int p1)] [(.int (p1 + (128 : Int32))), (.ref a5)])) _
    refine X6.aaload hx (j := (p1 + (128 : Int32))) (v := .ref b8) (by rw [e6]; exact Aro7.1) (State.isArrayOf_alike hZ.alike Aro7.2.1) rfl Aro7.2.2 hin8 hat8 (g := (mkF m 21 #[.val (.int p1)] [(.int (p1 + (128 : Int32))), (.ref a5)])) rfl rfl (hb hby d_jdk_33_method_22_21) _ ?_
    exact kk)
  obtain ⟨fs, hr, hrun, hended, hW, hsame⟩ := X6.leave (v := some (.ref b8)) (fun h => by rw [Bd.returns] at h; cases h)
  refine ⟨_, _, pre9 _ ?_, hrun, hended, _, _, rfl, ?_, ⟨_, rfl⟩, hW, hsame.mono (by decide) (by decide)⟩
  · exact retOut X6 hx Bd.returns rfl (Or.inr (Or.inr (Or.inr (Or.inr ⟨rfl, rfl, rfl⟩)))) (hb hby d_jdk_33_method_22_22) hr
  · show Q9 Z p1 a5 k_a5 vs_a5 h0 n0 _ T6.heap _
    rw [e6]
    exact ⟨_, rfl, N0, A8, rfl⟩
theorem ef_5 (m : MethodId) (x0 : Addr) (x2 : Int64) (x3 : Int64) : entryFrame m #[(.ref x0), .null, (.long x2), (.long x3), (.int (0 : Int32))] 7 = mkF m 0 #[.val (.ref x0), .val .null, .val (.long x2), .second, .val (.long x3), .second, .val (.int (0 : Int32))] [] := by first | (simp [entryFrame, mkF, argsToLocals, Value.category, maxLocals]; done) | rfl
def Q10 (Z : State) (a1 : Addr) (q2 : Int64) (q3 : Int64) (h0 : Heap) (n0 : Nat) (v : Option Value) (h : Heap) (L : List Loc) : Prop := v = none ∧ Fr n0 L ∧ ∃ h5 : Heap, Wr h0 h5 a1 (Jvm.RoadKit.slotOf Z "com/example/grantd/grantd/front/Places$Waiting" "connection" "Ljava/lang/Object;") .null ∧ ∃ h8 : Heap, Wr h5 h8 a1 (Jvm.RoadKit.slotOf Z "com/example/grantd/grantd/front/Places$Waiting" "closableFrom" "J") (.long q2) ∧ ∃ h11 : Heap, Wr h8 h11 a1 (Jvm.RoadKit.slotOf Z "com/example/grantd/grantd/front/Places$Waiting" "firstServed" "J") (.long q3) ∧ ∃ h14 : Heap, Wr h11 h14 a1 (Jvm.RoadKit.slotOf Z "com/example/grantd/grantd/front/Places$Waiting" "holdsHead" "Z") (.int (0 : Int32)) ∧ h = h14
set_option maxRecDepth 65536 in
set_option maxHeartbeats 40000000 in
theorem rm10 (l : Launch) (Z : State) (a0 : Array Value) (hw : ∀ d ∈ tables_1, d.before a0 Z = true) (ws : List Jvm.Cond) (a1 : Addr) (q2 : Int64) (q3 : Int64) (h0 : Heap) (n0 : Nat) (Z0 : n0 ≤ h0.size) (E_a1 : Exa Z h0 a1 "com/example/grantd/grantd/front/Places$Waiting") (F_connection_a1 : Fld Z h0 a1 "com/example/grantd/grantd/front/Places$Waiting" "connection" "Ljava/lang/Object;" .null) (g_a1 : n0 ≤ a1) (F_closableFrom_a1 : Fld Z h0 a1 "com/example/grantd/grantd/front/Places$Waiting" "closableFrom" "J" (.long (0 : Int64))) (F_firstServed_a1 : Fld Z h0 a1 "com/example/grantd/grantd/front/Places$Waiting" "firstServed" "J" (.long (0 : Int64))) (F_holdsHead_a1 : Fld Z h0 a1 "com/example/grantd/grantd/front/Places$Waiting" "holdsHead" "Z" (.int (0 : Int32))) :
    MetFree l (⟨"com/example/grantd/grantd/front/Places$Waiting", "<init>", "(Ljava/lang/Object;JJZ)V"⟩ : MethodName) (head1 (Jvm.Cond.code (⟨"com/example/grantd/grantd/front/Places$Waiting", "<init>", "(Ljava/lang/Object;JJZ)V"⟩ : MethodName) prog_29_method_1_code 7 none :: ws) ({ frames := 2, cells := 0, slots := 0, locals := 24 } : Room)) (fun a U => a = #[(.ref a1), .null, (.long q2), (.long q3), (.int (0 : Int32))] ∧ Z.Warmed39 U.vm ∧ U.heap = h0) (fun _ _ _ _ _ => True) (fun _ U o U' => ∃ v L, o = .returned v ∧ Q10 Z a1 q2 q3 h0 n0 v U'.heap L ∧ FrameEnd U o U' L ({ frames := 2, cells := 0, slots := 0, locals := 24 } : Room).cells ({ frames := 2, cells := 0, slots := 0, locals := 24 } : Room).slots) := by
  refine MetFree.of_bodySF (plainFor_of_name pn_4) hisR ?_
  intro p e s m args below meth c s₁ Bd hml0 hP hK
  obtain ⟨rfl, hZ, hh⟩ := hP
  have hx := Bd.exec
  have hby := Bd.bytes
  have hml : c.maxLocals = 7 := hml0
  have hown : s.vm.findClass "com/example/grantd/grantd/front/Places$Waiting" = some m.cls := findClass_of_methodNamed Bd.named
  have hnm := (name_of_methodNamed Bd.named Bd.method).1
  have X0 : Stand p l e ({ frames := 2, cells := 0, slots := 0, locals := 24 } : Room) s m #[(.ref a1), .null, (.long q2), (.long q3), (.int (0 : Int32))] below meth c s₁ [] 0 0 := Stand.of_body Bd
  have e0 : s₁.heap = h0 := by rw [← hh, Bd.state]; rfl
  have N0 := Fr.nil n0
  have pre0 : ∀ t, Steps p.tables e below (s₁.setTop (mkF m 0 #[.val (.ref a1), .val .null, .val (.long q2), .second, .val (.long q3), .second, .val (.int (0 : Int32))] [])) t → Steps p.tables e below (s₁.setTop (entryFrame m #[(.ref a1), .null, (.long q2), (.long q3), (.int (0 : Int32))] 7)) t := fun t k => castTop (ef_5 m a1 (q2) (q3)) k
  obtain ⟨_, _, ⟨T4, L4, k4, n4⟩, -, X4, ⟨Lc4, hQ4, l4, y4, z4⟩, st4⟩ := X0.specialBack hx (y := (⟨"java/lang/Record", "<init>", "()V"⟩ : MethodName)) rfl hown (mvT hZ (hw _ (List.mem_of_getElem? (i := 13) rfl))) (mvT hZ (hw _ (List.mem_of_getElem? (i := 14) rfl))) (mvT hZ (hw _ (List.mem_of_getElem? (i := 17) rfl))) (by decide) (backOf (W := 0) (rm4 l Z a0 hw [] a1 h0 n0 Z0 ) hZ (hw _ (List.mem_of_getElem? (i := 17) rfl)) (hw _ (List.mem_of_getElem? (i := 16) rfl)) (by decide) (by decide)) (g := (mkF m 1 #[.val (.ref a1), .val .null, .val (.long q2), .second, .val (.long q3), .second, .val (.int (0 : Int32))] [(.ref a1)])) rfl (by rw [hml]; rfl) (Steps.refl _) (a := a1) (argsL := []) (rest := []) (lenOf pd_0 rfl) rfl (by show 2 * 0 + _ ≤ _; exact Nat.le_of_eq rfl) (hb hby d_prog_29_method_1_1) (fun _ _ => ⟨rfl, e0, (by decide : 0 + 0 ≤ _), (by decide : 0 + 0 ≤ _)⟩)
  dsimp only [Pt.U, Pt.locs, Pt.cells, Pt.slots] at X4 l4 y4 z4 st4 hQ4
  subst l4 y4 z4
  obtain ⟨rfl, N4q, e4⟩ := hQ4
  have N4 := Fr.app N0 N4q
  obtain ⟨T5, h5, X5, e5, W5, st5⟩ := putF X4 hx hZ hown (host := "") (Or.inl (hw _ (List.mem_of_getElem? (i := 21) rfl))) Via.refl e4 F_connection_a1 E_a1 (Or.inr ⟨(hw _ (List.mem_of_getElem? (i := 22) rfl)), rfl, hnm⟩) (hw _ (List.mem_of_getElem? (i := 8) rfl)) (ty := (.object "java/lang/Object")) (by decide) rfl rfl (g := (mkF m 6 #[.val (.ref a1), .val .null, .val (.long q2), .second, .val (.long q3), .second, .val (.int (0 : Int32))] [.null, (.ref a1)])) rfl rfl (hb hby d_prog_29_method_1_6)
  have N5 := Fr.snoc X5 N4 g_a1
  have Z5 : n0 ≤ h5.size := Nat.le_trans Z0 (Nat.le_of_eq W5.size.symm)
  have Fw5 := Fld.same W5 F_connection_a1
  have f6 : Exa Z h5 a1 "com/example/grantd/grantd/front/Places$Waiting" := (E_a1.wr W5)
  have f7 : Fld Z h5 a1 "com/example/grantd/grantd/front/Places$Waiting" "closableFrom" "J" (.long (0 : Int64)) := (F_closableFrom_a1.other W5 (Or.inr (slot_ne (Or.inr (hw _ (List.mem_of_getElem? (i := 24) rfl))) (Or.inr (hw _ (List.mem_of_getElem? (i := 22) rfl))) (by decide) (t := .long) (t' := (.object "java/lang/Object")) (by decide) (by decide))))
  obtain ⟨T8, h8, X8, e8, W8, st8⟩ := putF X5 hx hZ hown (host := "") (Or.inl (hw _ (List.mem_of_getElem? (i := 23) rfl))) Via.refl e5 f7 f6 (Or.inr ⟨(hw _ (List.mem_of_getElem? (i := 24) rfl)), rfl, hnm⟩) (hw _ (List.mem_of_getElem? (i := 8) rfl)) (ty := .long) (by decide) rfl rfl (g := (mkF m 11 #[.val (.ref a1), .val .null, .val (.long q2), .second, .val (.long q3), .second, .val (.int (0 : Int32))] [(.long q2), (.ref a1)])) rfl rfl (hb hby d_prog_29_method_1_11)
  have N8 := Fr.snoc X8 N5 g_a1
  have Z8 : n0 ≤ h8.size := Nat.le_trans Z5 (Nat.le_of_eq W8.size.symm)
  have Fw8 := Fld.same W8 f7
  have f9 : Exa Z h8 a1 "com/example/grantd/grantd/front/Places$Waiting" := (f6.wr W8)
  have f10 : Fld Z h8 a1 "com/example/grantd/grantd/front/Places$Waiting" "firstServed" "J" (.long (0 : Int64)) := ((F_firstServed_a1.other W5 (Or.inr (slot_ne (Or.inr (hw _ (List.mem_of_getElem? (i := 26) rfl))) (Or.inr (hw _ (List.mem_of_getElem? (i := 22) rfl))) (by decide) (t := .long) (t' := (.object "java/lang/Object")) (by decide) (by decide)))).other W8 (Or.inr (slot_ne (Or.inr (hw _ (List.mem_of_getElem? (i := 26) rfl))) (Or.inr (hw _ (List.mem_of_getElem? (i := 24) rfl))) (by decide) (t := .long) (t' := .long) (by decide) (by decide))))
  obtain ⟨T11, h11, X11, e11, W11, st11⟩ := putF X8 hx hZ hown (host := "") (Or.inl (hw _ (List.mem_of_getElem? (i := 25) rfl))) Via.refl e8 f10 f9 (Or.inr ⟨(hw _ (List.mem_of_getElem? (i := 26) rfl)), rfl, hnm⟩) (hw _ (List.mem_of_getElem? (i := 8) rfl)) (ty := .long) (by decide) rfl rfl (g := (mkF m 17 #[.val (.ref a1), .val .null, .val (.long q2), .second, .val (.long q3), .second, .val (.int (0 : Int32))] [(.long q3), (.ref a1)])) rfl rfl (hb hby d_prog_29_method_1_17)
  have N11 := Fr.snoc X11 N8 g_a1
  have Z11 : n0 ≤ h11.size := Nat.le_trans Z8 (Nat.le_of_eq W11.size.symm)
  have Fw11 := Fld.same W11 f10
  have f12 : Exa Z h11 a1 "com/example/grantd/grantd/front/Places$Waiting" := (f9.wr W11)
  have f13 : Fld Z h11 a1 "com/example/grantd/grantd/front/Places$Waiting" "holdsHead" "Z" (.int (0 : Int32)) := (((F_holdsHead_a1.other W5 (Or.inr (slot_ne (Or.inr (hw _ (List.mem_of_getElem? (i := 28) rfl))) (Or.inr (hw _ (List.mem_of_getElem? (i := 22) rfl))) (by decide) (t := .boolean) (t' := (.object "java/lang/Object")) (by decide) (by decide)))).other W8 (Or.inr (slot_ne (Or.inr (hw _ (List.mem_of_getElem? (i := 28) rfl))) (Or.inr (hw _ (List.mem_of_getElem? (i := 24) rfl))) (by decide) (t := .boolean) (t' := .long) (by decide) (by decide)))).other W11 (Or.inr (slot_ne (Or.inr (hw _ (List.mem_of_getElem? (i := 28) rfl))) (Or.inr (hw _ (List.mem_of_getElem? (i := 26) rfl))) (by decide) (t := .boolean) (t' := .long) (by decide) (by decide))))
  obtain ⟨T14, h14, X14, e14, W14, st14⟩ := putFN X11 hx hZ hown (hw _ (List.mem_of_getElem? (i := 27) rfl)) Via.refl e11 f13 f12 (Or.inr ⟨(hw _ (List.mem_of_getElem? (i := 28) rfl)), rfl, hnm⟩) (hw _ (List.mem_of_getElem? (i := 8) rfl)) (ty := .boolean) (v' := (.int (0 : Int32))) (by decide) rfl (by decide) (g := (mkF m 23 #[.val (.ref a1), .val .null, .val (.long q2), .second, .val (.long q3), .second, .val (.int (0 : Int32))] [(.int (0 : Int32)), (.ref a1)])) rfl rfl (hb hby d_prog_29_method_1_23)
  have N14 := Fr.snoc X14 N11 g_a1
  have Z14 : n0 ≤ h14.size := Nat.le_trans Z11 (Nat.le_of_eq W14.size.symm)
  have Fw14 := Fld.same W14 f13
  have pre15 : ∀ t, Steps p.tables e below (T14.setTop (mkF m 26 #[.val (.ref a1), .val .null, .val (.long q2), .second, .val (.long q3), .second, .val (.int (0 : Int32))] [])) t → Steps p.tables e below (s₁.setTop (entryFrame m #[(.ref a1), .null, (.long q2), (.long q3), (.int (0 : Int32))] 7)) t := fun t kk => pre0 t (by
    show Steps p.tables e below (s₁.setTop (mkF m 0 #[.val (.ref a1), .val .null, .val (.long q2), .second, .val (.long q3), .second, .val (.int (0 : Int32))] [])) _
    refine XS.aloadN X0.here hx rfl (hb hby d_prog_29_method_1_0) rfl rfl ?_
    show Steps p.tables e below (s₁.setTop (mkF m 1 #[.val (.ref a1), .val .null, .val (.long q2), .second, .val (.long q3), .second, .val (.int (0 : Int32))] [(.ref a1)])) _
    refine st4.trans ?_
    show Steps p.tables e below (T4.setTop (mkF m 4 #[.val (.ref a1), .val .null, .val (.long q2), .second, .val (.long q3), .second, .val (.int (0 : Int32))] [])) _
    refine XS.aloadN X4.here hx rfl (hb hby d_prog_29_method_1_4) rfl rfl ?_
    show Steps p.tables e below (T4.setTop (mkF m 5 #[.val (.ref a1), .val .null, .val (.long q2), .second, .val (.long q3), .second, .val (.int (0 : Int32))] [(.ref a1)])) _
    refine XS.aloadN X4.here hx rfl (hb hby d_prog_29_method_1_5) rfl rfl ?_
    show Steps p.tables e below (T4.setTop (mkF m 6 #[.val (.ref a1), .val .null, .val (.long q2), .second, .val (.long q3), .second, .val (.int (0 : Int32))] [.null, (.ref a1)])) _
    refine st5 _ ?_
    show Steps p.tables e below (T5.setTop (mkF m 9 #[.val (.ref a1), .val .null, .val (.long q2), .second, .val (.long q3), .second, .val (.int (0 : Int32))] [])) _
    refine XS.aloadN X5.here hx rfl (hb hby d_prog_29_method_1_9) rfl rfl ?_
    show Steps p.tables e below (T5.setTop (mkF m 10 #[.val (.ref a1), .val .null, .val (.long q2), .second, .val (.long q3), .second, .val (.int (0 : Int32))] [(.ref a1)])) _
    refine XS.lloadN X5.here hx rfl (hb hby d_prog_29_method_1_10) rfl ?_
    show Steps p.tables e below (T5.setTop (mkF m 11 #[.val (.ref a1), .val .null, .val (.long q2), .second, .val (.long q3), .second, .val (.int (0 : Int32))] [(.long q2), (.ref a1)])) _
    refine st8 _ ?_
    show Steps p.tables e below (T8.setTop (mkF m 14 #[.val (.ref a1), .val .null, .val (.long q2), .second, .val (.long q3), .second, .val (.int (0 : Int32))] [])) _
    refine XS.aloadN X8.here hx rfl (hb hby d_prog_29_method_1_14) rfl rfl ?_
    show Steps p.tables e below (T8.setTop (mkF m 15 #[.val (.ref a1), .val .null, .val (.long q2), .second, .val (.long q3), .second, .val (.int (0 : Int32))] [(.ref a1)])) _
    refine XS.lload X8.here hx rfl (hb hby d_prog_29_method_1_15) rfl ?_
    show Steps p.tables e below (T8.setTop (mkF m 17 #[.val (.ref a1), .val .null, .val (.long q2), .second, .val (.long q3), .second, .val (.int (0 : Int32))] [(.long q3), (.ref a1)])) _
    refine st11 _ ?_
    show Steps p.tables e below (T11.setTop (mkF m 20 #[.val (.ref a1), .val .null, .val (.long q2), .second, .val (.long q3), .second, .val (.int (0 : Int32))] [])) _
    refine XS.aloadN X11.here hx rfl (hb hby d_prog_29_method_1_20) rfl rfl ?_
    show Steps p.tables e below (T11.setTop (mkF m 21 #[.val (.ref a1), .val .null, .val (.long q2), .second, .val (.long q3), .second, .val (.int (0 : Int32))] [(.ref a1)])) _
    refine XS.iload X11.here hx rfl (hb hby d_prog_29_method_1_21) rfl ?_
    show Steps p.tables e below (T11.setTop (mkF m 23 #[.val (.ref a1), .val .null, .val (.long q2), .second, .val (.long q3), .second, .val (.int (0 : Int32))] [(.int (0 : Int32)), (.ref a1)])) _
    refine st14 _ ?_
    exact kk)
  obtain ⟨fs, hr, hrun, hended, hW, hsame⟩ := X14.leave (v := none) (fun _ => rfl)
  refine ⟨_, _, pre15 _ ?_, hrun, hended, _, _, rfl, ?_, ⟨_, rfl⟩, hW, hsame.mono (by decide) (by decide)⟩
  · exact X14.returnOut hx Bd.returns (hb hby d_prog_29_method_1_26) hr
  · show Q10 Z a1 q2 q3 h0 n0 _ T14.heap _
    rw [e14]
    exact ⟨rfl, N14, h5, W5, h8, W8, h11, W11, h14, W14, rfl⟩
theorem ef_6 (m : MethodId) (x0 : Addr) (x1 : Addr) (x2 : Int64) : entryFrame m #[(.ref x0), (.ref x1), (.long x2), (.long (9223372036854775807 : Int64)), (.int (0 : Int32))] 7 = mkF m 0 #[.val (.ref x0), .val (.ref x1), .val (.long x2), .second, .val (.long (9223372036854775807 : Int64)), .second, .val (.int (0 : Int32))] [] := by first | (simp [entryFrame, mkF, argsToLocals, Value.category, maxLocals]; done) | rfl
def Q11 (Z : State) (a1 : Addr) (a2 : Addr) (q3 : Int64) (h0 : Heap) (n0 : Nat) (v : Option Value) (h : Heap) (L : List Loc) : Prop := v = none ∧ Fr n0 L ∧ ∃ h5 : Heap, Wr h0 h5 a1 (Jvm.RoadKit.slotOf Z "com/example/grantd/grantd/front/Places$Waiting" "connection" "Ljava/lang/Object;") (.ref a2) ∧ ∃ h8 : Heap, Wr h5 h8 a1 (Jvm.RoadKit.slotOf Z "com/example/grantd/grantd/front/Places$Waiting" "closableFrom" "J") (.long q3) ∧ ∃ h11 : Heap, Wr h8 h11 a1 (Jvm.RoadKit.slotOf Z "com/example/grantd/grantd/front/Places$Waiting" "firstServed" "J") (.long (9223372036854775807 : Int64)) ∧ ∃ h14 : Heap, Wr h11 h14 a1 (Jvm.RoadKit.slotOf Z "com/example/grantd/grantd/front/Places$Waiting" "holdsHead" "Z") (.int (0 : Int32)) ∧ h = h14
set_option maxRecDepth 65536 in
set_option maxHeartbeats 40000000 in
theorem rm11 (l : Launch) (Z : State) (a0 : Array Value) (hw : ∀ d ∈ tables_1, d.before a0 Z = true) (ws : List Jvm.Cond) (a1 : Addr) (a2 : Addr) (q3 : Int64) (h0 : Heap) (n0 : Nat) (Z0 : n0 ≤ h0.size) (E_a1 : Exa Z h0 a1 "com/example/grantd/grantd/front/Places$Waiting") (F_connection_a1 : Fld Z h0 a1 "com/example/grantd/grantd/front/Places$Waiting" "connection" "Ljava/lang/Object;" .null) (g_a1 : n0 ≤ a1) (F_closableFrom_a1 : Fld Z h0 a1 "com/example/grantd/grantd/front/Places$Waiting" "closableFrom" "J" (.long (0 : Int64))) (F_firstServed_a1 : Fld Z h0 a1 "com/example/grantd/grantd/front/Places$Waiting" "firstServed" "J" (.long (0 : Int64))) (F_holdsHead_a1 : Fld Z h0 a1 "com/example/grantd/grantd/front/Places$Waiting" "holdsHead" "Z" (.int (0 : Int32))) :
    MetFree l (⟨"com/example/grantd/grantd/front/Places$Waiting", "<init>", "(Ljava/lang/Object;JJZ)V"⟩ : MethodName) (head1 (Jvm.Cond.code (⟨"com/example/grantd/grantd/front/Places$Waiting", "<init>", "(Ljava/lang/Object;JJZ)V"⟩ : MethodName) prog_29_method_1_code 7 none :: ws) ({ frames := 2, cells := 0, slots := 0, locals := 24 } : Room)) (fun a U => a = #[(.ref a1), (.ref a2), (.long q3), (.long (9223372036854775807 : Int64)), (.int (0 : Int32))] ∧ Z.Warmed39 U.vm ∧ U.heap = h0) (fun _ _ _ _ _ => True) (fun _ U o U' => ∃ v L, o = .returned v ∧ Q11 Z a1 a2 q3 h0 n0 v U'.heap L ∧ FrameEnd U o U' L ({ frames := 2, cells := 0, slots := 0, locals := 24 } : Room).cells ({ frames := 2, cells := 0, slots := 0, locals := 24 } : Room).slots) := by
  refine MetFree.of_bodySF (plainFor_of_name pn_4) hisR ?_
  intro p e s m args below meth c s₁ Bd hml0 hP hK
  obtain ⟨rfl, hZ, hh⟩ := hP
  have hx := Bd.exec
  have hby := Bd.bytes
  have hml : c.maxLocals = 7 := hml0
  have hown : s.vm.findClass "com/example/grantd/grantd/front/Places$Waiting" = some m.cls := findClass_of_methodNamed Bd.named
  have hnm := (name_of_methodNamed Bd.named Bd.method).1
  have X0 : Stand p l e ({ frames := 2, cells := 0, slots := 0, locals := 24 } : Room) s m #[(.ref a1), (.ref a2), (.long q3), (.long (9223372036854775807 : Int64)), (.int (0 : Int32))] below meth c s₁ [] 0 0 := Stand.of_body Bd
  have e0 : s₁.heap = h0 := by rw [← hh, Bd.state]; rfl
  have N0 := Fr.nil n0
  have pre0 : ∀ t, Steps p.tables e below (s₁.setTop (mkF m 0 #[.val (.ref a1), .val (.ref a2), .val (.long q3), .second, .val (.long (9223372036854775807 : Int64)), .second, .val (.int (0 : Int32))] [])) t → Steps p.tables e below (s₁.setTop (entryFrame m #[(.ref a1), (.ref a2), (.long q3), (.long (9223372036854775807 : Int64)), (.int (0 : Int32))] 7)) t := fun t k => castTop (ef_6 m a1 a2 (q3)) k
  obtain ⟨_, _, ⟨T4, L4, k4, n4⟩, -, X4, ⟨Lc4, hQ4, l4, y4, z4⟩, st4⟩ := X0.specialBack hx (y := (⟨"java/lang/Record", "<init>", "()V"⟩ : MethodName)) rfl hown (mvT hZ (hw _ (List.mem_of_getElem? (i := 13) rfl))) (mvT hZ (hw _ (List.mem_of_getElem? (i := 14) rfl))) (mvT hZ (hw _ (List.mem_of_getElem? (i := 17) rfl))) (by decide) (backOf (W := 0) (rm4 l Z a0 hw [] a1 h0 n0 Z0 ) hZ (hw _ (List.mem_of_getElem? (i := 17) rfl)) (hw _ (List.mem_of_getElem? (i := 16) rfl)) (by decide) (by decide)) (g := (mkF m 1 #[.val (.ref a1), .val (.ref a2), .val (.long q3), .second, .val (.long (9223372036854775807 : Int64)), .second, .val (.int (0 : Int32))] [(.ref a1)])) rfl (by rw [hml]; rfl) (Steps.refl _) (a := a1) (argsL := []) (rest := []) (lenOf pd_0 rfl) rfl (by show 2 * 0 + _ ≤ _; exact Nat.le_of_eq rfl) (hb hby d_prog_29_method_1_1) (fun _ _ => ⟨rfl, e0, (by decide : 0 + 0 ≤ _), (by decide : 0 + 0 ≤ _)⟩)
  dsimp only [Pt.U, Pt.locs, Pt.cells, Pt.slots] at X4 l4 y4 z4 st4 hQ4
  subst l4 y4 z4
  obtain ⟨rfl, N4q, e4⟩ := hQ4
  have N4 := Fr.app N0 N4q
  obtain ⟨T5, h5, X5, e5, W5, st5⟩ := putF X4 hx hZ hown (host := "") (Or.inl (hw _ (List.mem_of_getElem? (i := 21) rfl))) Via.refl e4 F_connection_a1 E_a1 (Or.inr ⟨(hw _ (List.mem_of_getElem? (i := 22) rfl)), rfl, hnm⟩) (hw _ (List.mem_of_getElem? (i := 8) rfl)) (ty := (.object "java/lang/Object")) (by decide) rfl rfl (g := (mkF m 6 #[.val (.ref a1), .val (.ref a2), .val (.long q3), .second, .val (.long (9223372036854775807 : Int64)), .second, .val (.int (0 : Int32))] [(.ref a2), (.ref a1)])) rfl rfl (hb hby d_prog_29_method_1_6)
  have N5 := Fr.snoc X5 N4 g_a1
  have Z5 : n0 ≤ h5.size := Nat.le_trans Z0 (Nat.le_of_eq W5.size.symm)
  have Fw5 := Fld.same W5 F_connection_a1
  have f6 : Exa Z h5 a1 "com/example/grantd/grantd/front/Places$Waiting" := (E_a1.wr W5)
  have f7 : Fld Z h5 a1 "com/example/grantd/grantd/front/Places$Waiting" "closableFrom" "J" (.long (0 : Int64)) := (F_closableFrom_a1.other W5 (Or.inr (slot_ne (Or.inr (hw _ (List.mem_of_getElem? (i := 24) rfl))) (Or.inr (hw _ (List.mem_of_getElem? (i := 22) rfl))) (by decide) (t := .long) (t' := (.object "java/lang/Object")) (by decide) (by decide))))
  obtain ⟨T8, h8, X8, e8, W8, st8⟩ := putF X5 hx hZ hown (host := "") (Or.inl (hw _ (List.mem_of_getElem? (i := 23) rfl))) Via.refl e5 f7 f6 (Or.inr ⟨(hw _ (List.mem_of_getElem? (i := 24) rfl)), rfl, hnm⟩) (hw _ (List.mem_of_getElem? (i := 8) rfl)) (ty := .long) (by decide) rfl rfl (g := (mkF m 11 #[.val (.ref a1), .val (.ref a2), .val (.long q3), .second, .val (.long (9223372036854775807 : Int64)), .second, .val (.int (0 : Int32))] [(.long q3), (.ref a1)])) rfl rfl (hb hby d_prog_29_method_1_11)
  have N8 := Fr.snoc X8 N5 g_a1
  have Z8 : n0 ≤ h8.size := Nat.le_trans Z5 (Nat.le_of_eq W8.size.symm)
  have Fw8 := Fld.same W8 f7
  have f9 : Exa Z h8 a1 "com/example/grantd/grantd/front/Places$Waiting" := (f6.wr W8)
  have f10 : Fld Z h8 a1 "com/example/grantd/grantd/front/Places$Waiting" "firstServed" "J" (.long (0 : Int64)) := ((F_firstServed_a1.other W5 (Or.inr (slot_ne (Or.inr (hw _ (List.mem_of_getElem? (i := 26) rfl))) (Or.inr (hw _ (List.mem_of_getElem? (i := 22) rfl))) (by decide) (t := .long) (t' := (.object "java/lang/Object")) (by decide) (by decide)))).other W8 (Or.inr (slot_ne (Or.inr (hw _ (List.mem_of_getElem? (i := 26) rfl))) (Or.inr (hw _ (List.mem_of_getElem? (i := 24) rfl))) (by decide) (t := .long) (t' := .long) (by decide) (by decide))))
  obtain ⟨T11, h11, X11, e11, W11, st11⟩ := putF X8 hx hZ hown (host := "") (Or.inl (hw _ (List.mem_of_getElem? (i := 25) rfl))) Via.refl e8 f10 f9 (Or.inr ⟨(hw _ (List.mem_of_getElem? (i := 26) rfl)), rfl, hnm⟩) (hw _ (List.mem_of_getElem? (i := 8) rfl)) (ty := .long) (by decide) rfl rfl (g := (mkF m 17 #[.val (.ref a1), .val (.ref a2), .val (.long q3), .second, .val (.long (9223372036854775807 : Int64)), .second, .val (.int (0 : Int32))] [(.long (9223372036854775807 : Int64)), (.ref a1)])) rfl rfl (hb hby d_prog_29_method_1_17)
  have N11 := Fr.snoc X11 N8 g_a1
  have Z11 : n0 ≤ h11.size := Nat.le_trans Z8 (Nat.le_of_eq W11.size.symm)
  have Fw11 := Fld.same W11 f10
  have f12 : Exa Z h11 a1 "com/example/grantd/grantd/front/Places$Waiting" := (f9.wr W11)
  have f13 : Fld Z h11 a1 "com/example/grantd/grantd/front/Places$Waiting" "holdsHead" "Z" (.int (0 : Int32)) := (((F_holdsHead_a1.other W5 (Or.inr (slot_ne (Or.inr (hw _ (List.mem_of_getElem? (i := 28) rfl))) (Or.inr (hw _ (List.mem_of_getElem? (i := 22) rfl))) (by decide) (t := .boolean) (t' := (.object "java/lang/Object")) (by decide) (by decide)))).other W8 (Or.inr (slot_ne (Or.inr (hw _ (List.mem_of_getElem? (i := 28) rfl))) (Or.inr (hw _ (List.mem_of_getElem? (i := 24) rfl))) (by decide) (t := .boolean) (t' := .long) (by decide) (by decide)))).other W11 (Or.inr (slot_ne (Or.inr (hw _ (List.mem_of_getElem? (i := 28) rfl))) (Or.inr (hw _ (List.mem_of_getElem? (i := 26) rfl))) (by decide) (t := .boolean) (t' := .long) (by decide) (by decide))))
  obtain ⟨T14, h14, X14, e14, W14, st14⟩ := putFN X11 hx hZ hown (hw _ (List.mem_of_getElem? (i := 27) rfl)) Via.refl e11 f13 f12 (Or.inr ⟨(hw _ (List.mem_of_getElem? (i := 28) rfl)), rfl, hnm⟩) (hw _ (List.mem_of_getElem? (i := 8) rfl)) (ty := .boolean) (v' := (.int (0 : Int32))) (by decide) rfl (by decide) (g := (mkF m 23 #[.val (.ref a1), .val (.ref a2), .val (.long q3), .second, .val (.long (9223372036854775807 : Int64)), .second, .val (.int (0 : Int32))] [(.int (0 : Int32)), (.ref a1)])) rfl rfl (hb hby d_prog_29_method_1_23)
  have N14 := Fr.snoc X14 N11 g_a1
  have Z14 : n0 ≤ h14.size := Nat.le_trans Z11 (Nat.le_of_eq W14.size.symm)
  have Fw14 := Fld.same W14 f13
  have pre15 : ∀ t, Steps p.tables e below (T14.setTop (mkF m 26 #[.val (.ref a1), .val (.ref a2), .val (.long q3), .second, .val (.long (9223372036854775807 : Int64)), .second, .val (.int (0 : Int32))] [])) t → Steps p.tables e below (s₁.setTop (entryFrame m #[(.ref a1), (.ref a2), (.long q3), (.long (9223372036854775807 : Int64)), (.int (0 : Int32))] 7)) t := fun t kk => pre0 t (by
    show Steps p.tables e below (s₁.setTop (mkF m 0 #[.val (.ref a1), .val (.ref a2), .val (.long q3), .second, .val (.long (9223372036854775807 : Int64)), .second, .val (.int (0 : Int32))] [])) _
    refine XS.aloadN X0.here hx rfl (hb hby d_prog_29_method_1_0) rfl rfl ?_
    show Steps p.tables e below (s₁.setTop (mkF m 1 #[.val (.ref a1), .val (.ref a2), .val (.long q3), .second, .val (.long (9223372036854775807 : Int64)), .second, .val (.int (0 : Int32))] [(.ref a1)])) _
    refine st4.trans ?_
    show Steps p.tables e below (T4.setTop (mkF m 4 #[.val (.ref a1), .val (.ref a2), .val (.long q3), .second, .val (.long (9223372036854775807 : Int64)), .second, .val (.int (0 : Int32))] [])) _
    refine XS.aloadN X4.here hx rfl (hb hby d_prog_29_method_1_4) rfl rfl ?_
    show Steps p.tables e below (T4.setTop (mkF m 5 #[.val (.ref a1), .val (.ref a2), .val (.long q3), .second, .val (.long (9223372036854775807 : Int64)), .second, .val (.int (0 : Int32))] [(.ref a1)])) _
    refine XS.aloadN X4.here hx rfl (hb hby d_prog_29_method_1_5) rfl rfl ?_
    show Steps p.tables e below (T4.setTop (mkF m 6 #[.val (.ref a1), .val (.ref a2), .val (.long q3), .second, .val (.long (9223372036854775807 : Int64)), .second, .val (.int (0 : Int32))] [(.ref a2), (.ref a1)])) _
    refine st5 _ ?_
    show Steps p.tables e below (T5.setTop (mkF m 9 #[.val (.ref a1), .val (.ref a2), .val (.long q3), .second, .val (.long (9223372036854775807 : Int64)), .second, .val (.int (0 : Int32))] [])) _
    refine XS.aloadN X5.here hx rfl (hb hby d_prog_29_method_1_9) rfl rfl ?_
    show Steps p.tables e below (T5.setTop (mkF m 10 #[.val (.ref a1), .val (.ref a2), .val (.long q3), .second, .val (.long (9223372036854775807 : Int64)), .second, .val (.int (0 : Int32))] [(.ref a1)])) _
    refine XS.lloadN X5.here hx rfl (hb hby d_prog_29_method_1_10) rfl ?_
    show Steps p.tables e below (T5.setTop (mkF m 11 #[.val (.ref a1), .val (.ref a2), .val (.long q3), .second, .val (.long (9223372036854775807 : Int64)), .second, .val (.int (0 : Int32))] [(.long q3), (.ref a1)])) _
    refine st8 _ ?_
    show Steps p.tables e below (T8.setTop (mkF m 14 #[.val (.ref a1), .val (.ref a2), .val (.long q3), .second, .val (.long (9223372036854775807 : Int64)), .second, .val (.int (0 : Int32))] [])) _
    refine XS.aloadN X8.here hx rfl (hb hby d_prog_29_method_1_14) rfl rfl ?_
    show Steps p.tables e below (T8.setTop (mkF m 15 #[.val (.ref a1), .val (.ref a2), .val (.long q3), .second, .val (.long (9223372036854775807 : Int64)), .second, .val (.int (0 : Int32))] [(.ref a1)])) _
    refine XS.lload X8.here hx rfl (hb hby d_prog_29_method_1_15) rfl ?_
    show Steps p.tables e below (T8.setTop (mkF m 17 #[.val (.ref a1), .val (.ref a2), .val (.long q3), .second, .val (.long (9223372036854775807 : Int64)), .second, .val (.int (0 : Int32))] [(.long (9223372036854775807 : Int64)), (.ref a1)])) _
    refine st11 _ ?_
    show Steps p.tables e below (T11.setTop (mkF m 20 #[.val (.ref a1), .val (.ref a2), .val (.long q3), .second, .val (.long (9223372036854775807 : Int64)), .second, .val (.int (0 : Int32))] [])) _
    refine XS.aloadN X11.here hx rfl (hb hby d_prog_29_method_1_20) rfl rfl ?_
    show Steps p.tables e below (T11.setTop (mkF m 21 #[.val (.ref a1), .val (.ref a2), .val (.long q3), .second, .val (.long (9223372036854775807 : Int64)), .second, .val (.int (0 : Int32))] [(.ref a1)])) _
    refine XS.iload X11.here hx rfl (hb hby d_prog_29_method_1_21) rfl ?_
    show Steps p.tables e below (T11.setTop (mkF m 23 #[.val (.ref a1), .val (.ref a2), .val (.long q3), .second, .val (.long (9223372036854775807 : Int64)), .second, .val (.int (0 : Int32))] [(.int (0 : Int32)), (.ref a1)])) _
    refine st14 _ ?_
    exact kk)
  obtain ⟨fs, hr, hrun, hended, hW, hsame⟩ := X14.leave (v := none) (fun _ => rfl)
  refine ⟨_, _, pre15 _ ?_, hrun, hended, _, _, rfl, ?_, ⟨_, rfl⟩, hW, hsame.mono (by decide) (by decide)⟩
  · exact X14.returnOut hx Bd.returns (hb hby d_prog_29_method_1_26) hr
  · show Q11 Z a1 a2 q3 h0 n0 _ T14.heap _
    rw [e14]
    exact ⟨rfl, N14, h5, W5, h8, W8, h11, W11, h14, W14, rfl⟩
def Q12 (Z : State) (a1 : Addr) (h0 : Heap) (n0 : Nat) (v : Option Value) (h : Heap) (L : List Loc) : Prop := v = some (.int (0 : Int32)) ∧ Fr n0 L ∧ h = h0
set_option maxRecDepth 65536 in
set_option maxHeartbeats 40000000 in
theorem rm12 (l : Launch) (Z : State) (a0 : Array Value) (hw : ∀ d ∈ tables_1, d.before a0 Z = true) (ws : List Jvm.Cond) (a1 : Addr) (h0 : Heap) (n0 : Nat) (Z0 : n0 ≤ h0.size) (F_firstServed_a1 : Fld Z h0 a1 "com/example/grantd/grantd/front/Places$Waiting" "firstServed" "J" (.long (9223372036854775807 : Int64))) :
    MetFree l (⟨"com/example/grantd/grantd/front/Places$Waiting", "isBetweenRequests", "()Z"⟩ : MethodName) (head1 (Jvm.Cond.code (⟨"com/example/grantd/grantd/front/Places$Waiting", "isBetweenRequests", "()Z"⟩ : MethodName) prog_29_method_2_code 1 (some .boolean) :: ws) ({ frames := 0, cells := 0, slots := 0, locals := 0 } : Room)) (fun a U => a = #[(.ref a1)] ∧ Z.Warmed39 U.vm ∧ U.heap = h0) (fun _ _ _ _ _ => True) (fun _ U o U' => ∃ v L, o = .returned v ∧ Q12 Z a1 h0 n0 v U'.heap L ∧ FrameEnd U o U' L ({ frames := 0, cells := 0, slots := 0, locals := 0 } : Room).cells ({ frames := 0, cells := 0, slots := 0, locals := 0 } : Room).slots) := by
  refine MetFree.of_bodySF (plainFor_of_name pn_4) hisR ?_
  intro p e s m args below meth c s₁ Bd hml0 hP hK
  obtain ⟨rfl, hZ, hh⟩ := hP
  have hx := Bd.exec
  have hby := Bd.bytes
  have hml : c.maxLocals = 1 := hml0
  have hown : s.vm.findClass "com/example/grantd/grantd/front/Places$Waiting" = some m.cls := findClass_of_methodNamed Bd.named
  have hnm := (name_of_methodNamed Bd.named Bd.method).1
  have X0 : Stand p l e ({ frames := 0, cells := 0, slots := 0, locals := 0 } : Room) s m #[(.ref a1)] below meth c s₁ [] 0 0 := Stand.of_body Bd
  have e0 : s₁.heap = h0 := by rw [← hh, Bd.state]; rfl
  have N0 := Fr.nil n0
  have pre0 : ∀ t, Steps p.tables e below (s₁.setTop (mkF m 0 #[.val (.ref a1)] [])) t → Steps p.tables e below (s₁.setTop (entryFrame m #[(.ref a1)] 1)) t := fun t k => castTop (ef_1 m a1) k
  obtain ⟨T2, X2, e2, st2⟩ := getF X0 hx hZ hown (host := "") (Or.inl (hw _ (List.mem_of_getElem? (i := 25) rfl))) Via.refl e0 F_firstServed_a1 (g := (mkF m 1 #[.val (.ref a1)] [(.ref a1)])) rfl rfl (hb hby d_prog_29_method_2_1)
  have pre3 : ∀ t, Steps p.tables e below (T2.setTop (mkF m 23 #[.val (.ref a1)] [(.int (0 : Int32))])) t → Steps p.tables e below (s₁.setTop (entryFrame m #[(.ref a1)] 1)) t := fun t kk => pre0 t (by
    show Steps p.tables e below (s₁.setTop (mkF m 0 #[.val (.ref a1)] [])) _
    refine XS.aloadN X0.here hx rfl (hb hby d_prog_29_method_2_0) rfl rfl ?_
    show Steps p.tables e below (s₁.setTop (mkF m 1 #[.val (.ref a1)] [(.ref a1)])) _
    refine st2 _ ?_
    show Steps p.tables e below (T2.setTop (mkF m 4 #[.val (.ref a1)] [(.long (9223372036854775807 : Int64))])) _
    refine X2.ldc2Long hx hown (mvT hZ (hw _ (List.mem_of_getElem? (i := 35) rfl))) (g := (mkF m 4 #[.val (.ref a1)] [(.long (9223372036854775807 : Int64))])) rfl (hb hby d_prog_29_method_2_4) _ ?_
    show Steps p.tables e below (T2.setTop (mkF m 7 #[.val (.ref a1)] [(.long (9223372036854775807 : Int64)), (.long (9223372036854775807 : Int64))])) _
    refine XS.lcmp X2.here hx rfl (hb hby d_prog_29_method_2_7) rfl ?_
    show Steps p.tables e below (T2.setTop (mkF m 8 #[.val (.ref a1)] [(.int (0 : Int32))])) _
    refine XS.ifYes X2.here hx rfl (pc0 := 8) (pc' := 22) rfl (hb hby d_prog_29_method_2_8) rfl ((if0 _ _).trans (teq ((by decide) : (0 : Int32) = (0 : Int32))).1) (by decide) (by decide) ?_
    show Steps p.tables e below (T2.setTop (mkF m 22 #[.val (.ref a1)] [])) _
    refine XS.iconst X2.here hx rfl (hb hby d_prog_29_method_2_22) ?_
    exact kk)
  obtain ⟨fs, hr, hrun, hended, hW, hsame⟩ := X2.leave (v := some (.int (0 : Int32))) (fun h => by rw [Bd.returns] at h; cases h)
  refine ⟨_, _, pre3 _ ?_, hrun, hended, _, _, rfl, ?_, ⟨_, rfl⟩, hW, hsame.mono (by decide) (by decide)⟩
  · exact retN X2 hx (t := .boolean) Bd.returns (by simp) (hb hby d_prog_29_method_2_23) hr
  · show Q12 Z a1 h0 n0 _ T2.heap _
    rw [e2]
    exact ⟨rfl, N0, rfl⟩
theorem ef_7 (m : MethodId) (x0 : Addr) (x2 : Int64) : entryFrame m #[(.ref x0), .null, (.long x2), (.long (9223372036854775807 : Int64)), (.int (0 : Int32))] 7 = mkF m 0 #[.val (.ref x0), .val .null, .val (.long x2), .second, .val (.long (9223372036854775807 : Int64)), .second, .val (.int (0 : Int32))] [] := by first | (simp [entryFrame, mkF, argsToLocals, Value.category, maxLocals]; done) | rfl
def Q13 (Z : State) (a1 : Addr) (q2 : Int64) (h0 : Heap) (n0 : Nat) (v : Option Value) (h : Heap) (L : List Loc) : Prop := v = none ∧ Fr n0 L ∧ ∃ h4 : Heap, Wr h0 h4 a1 (Jvm.RoadKit.slotOf Z "com/example/grantd/grantd/front/Places$Waiting" "connection" "Ljava/lang/Object;") .null ∧ ∃ h7 : Heap, Wr h4 h7 a1 (Jvm.RoadKit.slotOf Z "com/example/grantd/grantd/front/Places$Waiting" "closableFrom" "J") (.long q2) ∧ ∃ h10 : Heap, Wr h7 h10 a1 (Jvm.RoadKit.slotOf Z "com/example/grantd/grantd/front/Places$Waiting" "firstServed" "J") (.long (9223372036854775807 : Int64)) ∧ ∃ h13 : Heap, Wr h10 h13 a1 (Jvm.RoadKit.slotOf Z "com/example/grantd/grantd/front/Places$Waiting" "holdsHead" "Z") (.int (0 : Int32)) ∧ h = h13
set_option maxRecDepth 65536 in
set_option maxHeartbeats 40000000 in
theorem rm13 (l : Launch) (Z : State) (a0 : Array Value) (hw : ∀ d ∈ tables_1, d.before a0 Z = true) (ws : List Jvm.Cond) (a1 : Addr) (q2 : Int64) (h0 : Heap) (n0 : Nat) (Z0 : n0 ≤ h0.size) (E_a1 : Exa Z h0 a1 "com/example/grantd/grantd/front/Places$Waiting") (F_connection_a1 : Fld Z h0 a1 "com/example/grantd/grantd/front/Places$Waiting" "connection" "Ljava/lang/Object;" .null) (g_a1 : n0 ≤ a1) (F_closableFrom_a1 : Fld Z h0 a1 "com/example/grantd/grantd/front/Places$Waiting" "closableFrom" "J" (.long (0 : Int64))) (F_firstServed_a1 : Fld Z h0 a1 "com/example/grantd/grantd/front/Places$Waiting" "firstServed" "J" (.long (0 : Int64))) (F_holdsHead_a1 : Fld Z h0 a1 "com/example/grantd/grantd/front/Places$Waiting" "holdsHead" "Z" (.int (0 : Int32))) :
    MetFree l (⟨"com/example/grantd/grantd/front/Places$Waiting", "<init>", "(Ljava/lang/Object;JJZ)V"⟩ : MethodName) (head1 (Jvm.Cond.code (⟨"com/example/grantd/grantd/front/Places$Waiting", "<init>", "(Ljava/lang/Object;JJZ)V"⟩ : MethodName) prog_29_method_1_code 7 none :: ws) ({ frames := 2, cells := 0, slots := 0, locals := 24 } : Room)) (fun a U => a = #[(.ref a1), .null, (.long q2), (.long (9223372036854775807 : Int64)), (.int (0 : Int32))] ∧ Z.Warmed39 U.vm ∧ U.heap = h0) (fun _ _ _ _ _ => True) (fun _ U o U' => ∃ v L, o = .returned v ∧ Q13 Z a1 q2 h0 n0 v U'.heap L ∧ FrameEnd U o U' L ({ frames := 2, cells := 0, slots := 0, locals := 24 } : Room).cells ({ frames := 2, cells := 0, slots := 0, locals := 24 } : Room).slots) := by
  refine MetFree.of_bodySF (plainFor_of_name pn_4) hisR ?_
  intro p e s m args below meth c s₁ Bd hml0 hP hK
  obtain ⟨rfl, hZ, hh⟩ := hP
  have hx := Bd.exec
  have hby := Bd.bytes
  have hml : c.maxLocals = 7 := hml0
  have hown : s.vm.findClass "com/example/grantd/grantd/front/Places$Waiting" = some m.cls := findClass_of_methodNamed Bd.named
  have hnm := (name_of_methodNamed Bd.named Bd.method).1
  have X0 : Stand p l e ({ frames := 2, cells := 0, slots := 0, locals := 24 } : Room) s m #[(.ref a1), .null, (.long q2), (.long (9223372036854775807 : Int64)), (.int (0 : Int32))] below meth c s₁ [] 0 0 := Stand.of_body Bd
  have e0 : s₁.heap = h0 := by rw [← hh, Bd.state]; rfl
  have N0 := Fr.nil n0
  have pre0 : ∀ t, Steps p.tables e below (s₁.setTop (mkF m 0 #[.val (.ref a1), .val .null, .val (.long q2), .second, .val (.long (9223372036854775807 : Int64)), .second, .val (.int (0 : Int32))] [])) t → Steps p.tables e below (s₁.setTop (entryFrame m #[(.ref a1), .null, (.long q2), (.long (9223372036854775807 : Int64)), (.int (0 : Int32))] 7)) t := fun t k => castTop (ef_7 m a1 (q2)) k
  obtain ⟨_, _, ⟨T3, L3, k3, n3⟩, -, X3, ⟨Lc3, hQ3, l3, y3, z3⟩, st3⟩ := X0.specialBack hx (y := (⟨"java/lang/Record", "<init>", "()V"⟩ : MethodName)) rfl hown (mvT hZ (hw _ (List.mem_of_getElem? (i := 13) rfl))) (mvT hZ (hw _ (List.mem_of_getElem? (i := 14) rfl))) (mvT hZ (hw _ (List.mem_of_getElem? (i := 17) rfl))) (by decide) (backOf (W := 0) (rm4 l Z a0 hw [] a1 h0 n0 Z0 ) hZ (hw _ (List.mem_of_getElem? (i := 17) rfl)) (hw _ (List.mem_of_getElem? (i := 16) rfl)) (by decide) (by decide)) (g := (mkF m 1 #[.val (.ref a1), .val .null, .val (.long q2), .second, .val (.long (9223372036854775807 : Int64)), .second, .val (.int (0 : Int32))] [(.ref a1)])) rfl (by rw [hml]; rfl) (Steps.refl _) (a := a1) (argsL := []) (rest := []) (lenOf pd_0 rfl) rfl (by show 2 * 0 + _ ≤ _; exact Nat.le_of_eq rfl) (hb hby d_prog_29_method_1_1) (fun _ _ => ⟨rfl, e0, (by decide : 0 + 0 ≤ _), (by decide : 0 + 0 ≤ _)⟩)
  dsimp only [Pt.U, Pt.locs, Pt.cells, Pt.slots] at X3 l3 y3 z3 st3 hQ3
  subst l3 y3 z3
  obtain ⟨rfl, N3q, e3⟩ := hQ3
  have N3 := Fr.app N0 N3q
  obtain ⟨T4, h4, X4, e4, W4, st4⟩ := putF X3 hx hZ hown (host := "") (Or.inl (hw _ (List.mem_of_getElem? (i := 21) rfl))) Via.refl e3 F_connection_a1 E_a1 (Or.inr ⟨(hw _ (List.mem_of_getElem? (i := 22) rfl)), rfl, hnm⟩) (hw _ (List.mem_of_getElem? (i := 8) rfl)) (ty := (.object "java/lang/Object")) (by decide) rfl rfl (g := (mkF m 6 #[.val (.ref a1), .val .null, .val (.long q2), .second, .val (.long (9223372036854775807 : Int64)), .second, .val (.int (0 : Int32))] [.null, (.ref a1)])) rfl rfl (hb hby d_prog_29_method_1_6)
  have N4 := Fr.snoc X4 N3 g_a1
  have Z4 : n0 ≤ h4.size := Nat.le_trans Z0 (Nat.le_of_eq W4.size.symm)
  have Fw4 := Fld.same W4 F_connection_a1
  have f5 : Exa Z h4 a1 "com/example/grantd/grantd/front/Places$Waiting" := (E_a1.wr W4)
  have f6 : Fld Z h4 a1 "com/example/grantd/grantd/front/Places$Waiting" "closableFrom" "J" (.long (0 : Int64)) := (F_closableFrom_a1.other W4 (Or.inr (slot_ne (Or.inr (hw _ (List.mem_of_getElem? (i := 24) rfl))) (Or.inr (hw _ (List.mem_of_getElem? (i := 22) rfl))) (by decide) (t := .long) (t' := (.object "java/lang/Object")) (by decide) (by decide))))
  obtain ⟨T7, h7, X7, e7, W7, st7⟩ := putF X4 hx hZ hown (host := "") (Or.inl (hw _ (List.mem_of_getElem? (i := 23) rfl))) Via.refl e4 f6 f5 (Or.inr ⟨(hw _ (List.mem_of_getElem? (i := 24) rfl)), rfl, hnm⟩) (hw _ (List.mem_of_getElem? (i := 8) rfl)) (ty := .long) (by decide) rfl rfl (g := (mkF m 11 #[.val (.ref a1), .val .null, .val (.long q2), .second, .val (.long (9223372036854775807 : Int64)), .second, .val (.int (0 : Int32))] [(.long q2), (.ref a1)])) rfl rfl (hb hby d_prog_29_method_1_11)
  have N7 := Fr.snoc X7 N4 g_a1
  have Z7 : n0 ≤ h7.size := Nat.le_trans Z4 (Nat.le_of_eq W7.size.symm)
  have Fw7 := Fld.same W7 f6
  have f8 : Exa Z h7 a1 "com/example/grantd/grantd/front/Places$Waiting" := (f5.wr W7)
  have f9 : Fld Z h7 a1 "com/example/grantd/grantd/front/Places$Waiting" "firstServed" "J" (.long (0 : Int64)) := ((F_firstServed_a1.other W4 (Or.inr (slot_ne (Or.inr (hw _ (List.mem_of_getElem? (i := 26) rfl))) (Or.inr (hw _ (List.mem_of_getElem? (i := 22) rfl))) (by decide) (t := .long) (t' := (.object "java/lang/Object")) (by decide) (by decide)))).other W7 (Or.inr (slot_ne (Or.inr (hw _ (List.mem_of_getElem? (i := 26) rfl))) (Or.inr (hw _ (List.mem_of_getElem? (i := 24) rfl))) (by decide) (t := .long) (t' := .long) (by decide) (by decide))))
  obtain ⟨T10, h10, X10, e10, W10, st10⟩ := putF X7 hx hZ hown (host := "") (Or.inl (hw _ (List.mem_of_getElem? (i := 25) rfl))) Via.refl e7 f9 f8 (Or.inr ⟨(hw _ (List.mem_of_getElem? (i := 26) rfl)), rfl, hnm⟩) (hw _ (List.mem_of_getElem? (i := 8) rfl)) (ty := .long) (by decide) rfl rfl (g := (mkF m 17 #[.val (.ref a1), .val .null, .val (.long q2), .second, .val (.long (9223372036854775807 : Int64)), .second, .val (.int (0 : Int32))] [(.long (9223372036854775807 : Int64)), (.ref a1)])) rfl rfl (hb hby d_prog_29_method_1_17)
  have N10 := Fr.snoc X10 N7 g_a1
  have Z10 : n0 ≤ h10.size := Nat.le_trans Z7 (Nat.le_of_eq W10.size.symm)
  have Fw10 := Fld.same W10 f9
  have f11 : Exa Z h10 a1 "com/example/grantd/grantd/front/Places$Waiting" := (f8.wr W10)
  have f12 : Fld Z h10 a1 "com/example/grantd/grantd/front/Places$Waiting" "holdsHead" "Z" (.int (0 : Int32)) := (((F_holdsHead_a1.other W4 (Or.inr (slot_ne (Or.inr (hw _ (List.mem_of_getElem? (i := 28) rfl))) (Or.inr (hw _ (List.mem_of_getElem? (i := 22) rfl))) (by decide) (t := .boolean) (t' := (.object "java/lang/Object")) (by decide) (by decide)))).other W7 (Or.inr (slot_ne (Or.inr (hw _ (List.mem_of_getElem? (i := 28) rfl))) (Or.inr (hw _ (List.mem_of_getElem? (i := 24) rfl))) (by decide) (t := .boolean) (t' := .long) (by decide) (by decide)))).other W10 (Or.inr (slot_ne (Or.inr (hw _ (List.mem_of_getElem? (i := 28) rfl))) (Or.inr (hw _ (List.mem_of_getElem? (i := 26) rfl))) (by decide) (t := .boolean) (t' := .long) (by decide) (by decide))))
  obtain ⟨T13, h13, X13, e13, W13, st13⟩ := putFN X10 hx hZ hown (hw _ (List.mem_of_getElem? (i := 27) rfl)) Via.refl e10 f12 f11 (Or.inr ⟨(hw _ (List.mem_of_getElem? (i := 28) rfl)), rfl, hnm⟩) (hw _ (List.mem_of_getElem? (i := 8) rfl)) (ty := .boolean) (v' := (.int (0 : Int32))) (by decide) rfl (by decide) (g := (mkF m 23 #[.val (.ref a1), .val .null, .val (.long q2), .second, .val (.long (9223372036854775807 : Int64)), .second, .val (.int (0 : Int32))] [(.int (0 : Int32)), (.ref a1)])) rfl rfl (hb hby d_prog_29_method_1_23)
  have N13 := Fr.snoc X13 N10 g_a1
  have Z13 : n0 ≤ h13.size := Nat.le_trans Z10 (Nat.le_of_eq W13.size.symm)
  have Fw13 := Fld.same W13 f12
  have pre14 : ∀ t, Steps p.tables e below (T13.setTop (mkF m 26 #[.val (.ref a1), .val .null, .val (.long q2), .second, .val (.long (9223372036854775807 : Int64)), .second, .val (.int (0 : Int32))] [])) t → Steps p.tables e below (s₁.setTop (entryFrame m #[(.ref a1), .null, (.long q2), (.long (9223372036854775807 : Int64)), (.int (0 : Int32))] 7)) t := fun t kk => pre0 t (by
    show Steps p.tables e below (s₁.setTop (mkF m 0 #[.val (.ref a1), .val .null, .val (.long q2), .second, .val (.long (9223372036854775807 : Int64)), .second, .val (.int (0 : Int32))] [])) _
    refine XS.aloadN X0.here hx rfl (hb hby d_prog_29_method_1_0) rfl rfl ?_
    show Steps p.tables e below (s₁.setTop (mkF m 1 #[.val (.ref a1), .val .null, .val (.long q2), .second, .val (.long (9223372036854775807 : Int64)), .second, .val (.int (0 : Int32))] [(.ref a1)])) _
    refine st3.trans ?_
    show Steps p.tables e below (T3.setTop (mkF m 4 #[.val (.ref a1), .val .null, .val (.long q2), .second, .val (.long (9223372036854775807 : Int64)), .second, .val (.int (0 : Int32))] [])) _
    refine XS.aloadN X3.here hx rfl (hb hby d_prog_29_method_1_4) rfl rfl ?_
    show Steps p.tables e below (T3.setTop (mkF m 5 #[.val (.ref a1), .val .null, .val (.long q2), .second, .val (.long (9223372036854775807 : Int64)), .second, .val (.int (0 : Int32))] [(.ref a1)])) _
    refine XS.aloadN X3.here hx rfl (hb hby d_prog_29_method_1_5) rfl rfl ?_
    show Steps p.tables e below (T3.setTop (mkF m 6 #[.val (.ref a1), .val .null, .val (.long q2), .second, .val (.long (9223372036854775807 : Int64)), .second, .val (.int (0 : Int32))] [.null, (.ref a1)])) _
    refine st4 _ ?_
    show Steps p.tables e below (T4.setTop (mkF m 9 #[.val (.ref a1), .val .null, .val (.long q2), .second, .val (.long (9223372036854775807 : Int64)), .second, .val (.int (0 : Int32))] [])) _
    refine XS.aloadN X4.here hx rfl (hb hby d_prog_29_method_1_9) rfl rfl ?_
    show Steps p.tables e below (T4.setTop (mkF m 10 #[.val (.ref a1), .val .null, .val (.long q2), .second, .val (.long (9223372036854775807 : Int64)), .second, .val (.int (0 : Int32))] [(.ref a1)])) _
    refine XS.lloadN X4.here hx rfl (hb hby d_prog_29_method_1_10) rfl ?_
    show Steps p.tables e below (T4.setTop (mkF m 11 #[.val (.ref a1), .val .null, .val (.long q2), .second, .val (.long (9223372036854775807 : Int64)), .second, .val (.int (0 : Int32))] [(.long q2), (.ref a1)])) _
    refine st7 _ ?_
    show Steps p.tables e below (T7.setTop (mkF m 14 #[.val (.ref a1), .val .null, .val (.long q2), .second, .val (.long (9223372036854775807 : Int64)), .second, .val (.int (0 : Int32))] [])) _
    refine XS.aloadN X7.here hx rfl (hb hby d_prog_29_method_1_14) rfl rfl ?_
    show Steps p.tables e below (T7.setTop (mkF m 15 #[.val (.ref a1), .val .null, .val (.long q2), .second, .val (.long (9223372036854775807 : Int64)), .second, .val (.int (0 : Int32))] [(.ref a1)])) _
    refine XS.lload X7.here hx rfl (hb hby d_prog_29_method_1_15) rfl ?_
    show Steps p.tables e below (T7.setTop (mkF m 17 #[.val (.ref a1), .val .null, .val (.long q2), .second, .val (.long (9223372036854775807 : Int64)), .second, .val (.int (0 : Int32))] [(.long (9223372036854775807 : Int64)), (.ref a1)])) _
    refine st10 _ ?_
    show Steps p.tables e below (T10.setTop (mkF m 20 #[.val (.ref a1), .val .null, .val (.long q2), .second, .val (.long (9223372036854775807 : Int64)), .second, .val (.int (0 : Int32))] [])) _
    refine XS.aloadN X10.here hx rfl (hb hby d_prog_29_method_1_20) rfl rfl ?_
    show Steps p.tables e below (T10.setTop (mkF m 21 #[.val (.ref a1), .val .null, .val (.long q2), .second, .val (.long (9223372036854775807 : Int64)), .second, .val (.int (0 : Int32))] [(.ref a1)])) _
    refine XS.iload X10.here hx rfl (hb hby d_prog_29_method_1_21) rfl ?_
    show Steps p.tables e below (T10.setTop (mkF m 23 #[.val (.ref a1), .val .null, .val (.long q2), .second, .val (.long (9223372036854775807 : Int64)), .second, .val (.int (0 : Int32))] [(.int (0 : Int32)), (.ref a1)])) _
    refine st13 _ ?_
    exact kk)
  obtain ⟨fs, hr, hrun, hended, hW, hsame⟩ := X13.leave (v := none) (fun _ => rfl)
  refine ⟨_, _, pre14 _ ?_, hrun, hended, _, _, rfl, ?_, ⟨_, rfl⟩, hW, hsame.mono (by decide) (by decide)⟩
  · exact X13.returnOut hx Bd.returns (hb hby d_prog_29_method_1_26) hr
  · show Q13 Z a1 q2 h0 n0 _ T13.heap _
    rw [e13]
    exact ⟨rfl, N13, h4, W4, h7, W7, h10, W10, h13, W13, rfl⟩
theorem ef_8 (m : MethodId) (x0 : Addr) (x1 : Addr) (x2 : Int64) (x3 : Int64) : entryFrame m #[(.ref x0), (.ref x1), (.long x2), (.long x3), (.int (1 : Int32))] 7 = mkF m 0 #[.val (.ref x0), .val (.ref x1), .val (.long x2), .second, .val (.long x3), .second, .val (.int (1 : Int32))] [] := by first | (simp [entryFrame, mkF, argsToLocals, Value.category, maxLocals]; done) | rfl
def Q14 (Z : State) (a1 : Addr) (a2 : Addr) (q3 : Int64) (q4 : Int64) (h0 : Heap) (n0 : Nat) (v : Option Value) (h : Heap) (L : List Loc) : Prop := v = none ∧ Fr n0 L ∧ ∃ h6 : Heap, Wr h0 h6 a1 (Jvm.RoadKit.slotOf Z "com/example/grantd/grantd/front/Places$Waiting" "connection" "Ljava/lang/Object;") (.ref a2) ∧ ∃ h9 : Heap, Wr h6 h9 a1 (Jvm.RoadKit.slotOf Z "com/example/grantd/grantd/front/Places$Waiting" "closableFrom" "J") (.long q3) ∧ ∃ h12 : Heap, Wr h9 h12 a1 (Jvm.RoadKit.slotOf Z "com/example/grantd/grantd/front/Places$Waiting" "firstServed" "J") (.long q4) ∧ ∃ h15 : Heap, Wr h12 h15 a1 (Jvm.RoadKit.slotOf Z "com/example/grantd/grantd/front/Places$Waiting" "holdsHead" "Z") (.int (1 : Int32)) ∧ h = h15
set_option maxRecDepth 65536 in
set_option maxHeartbeats 40000000 in
theorem rm14 (l : Launch) (Z : State) (a0 : Array Value) (hw : ∀ d ∈ tables_1, d.before a0 Z = true) (ws : List Jvm.Cond) (a1 : Addr) (a2 : Addr) (q3 : Int64) (q4 : Int64) (h0 : Heap) (n0 : Nat) (Z0 : n0 ≤ h0.size) (E_a1 : Exa Z h0 a1 "com/example/grantd/grantd/front/Places$Waiting") (F_connection_a1 : Fld Z h0 a1 "com/example/grantd/grantd/front/Places$Waiting" "connection" "Ljava/lang/Object;" .null) (g_a1 : n0 ≤ a1) (F_closableFrom_a1 : Fld Z h0 a1 "com/example/grantd/grantd/front/Places$Waiting" "closableFrom" "J" (.long (0 : Int64))) (F_firstServed_a1 : Fld Z h0 a1 "com/example/grantd/grantd/front/Places$Waiting" "firstServed" "J" (.long (0 : Int64))) (F_holdsHead_a1 : Fld Z h0 a1 "com/example/grantd/grantd/front/Places$Waiting" "holdsHead" "Z" (.int (0 : Int32))) :
    MetFree l (⟨"com/example/grantd/grantd/front/Places$Waiting", "<init>", "(Ljava/lang/Object;JJZ)V"⟩ : MethodName) (head1 (Jvm.Cond.code (⟨"com/example/grantd/grantd/front/Places$Waiting", "<init>", "(Ljava/lang/Object;JJZ)V"⟩ : MethodName) prog_29_method_1_code 7 none :: ws) ({ frames := 2, cells := 0, slots := 0, locals := 24 } : Room)) (fun a U => a = #[(.ref a1), (.ref a2), (.long q3), (.long q4), (.int (1 : Int32))] ∧ Z.Warmed39 U.vm ∧ U.heap = h0) (fun _ _ _ _ _ => True) (fun _ U o U' => ∃ v L, o = .returned v ∧ Q14 Z a1 a2 q3 q4 h0 n0 v U'.heap L ∧ FrameEnd U o U' L ({ frames := 2, cells := 0, slots := 0, locals := 24 } : Room).cells ({ frames := 2, cells := 0, slots := 0, locals := 24 } : Room).slots) := by
  refine MetFree.of_bodySF (plainFor_of_name pn_4) hisR ?_
  intro p e s m args below meth c s₁ Bd hml0 hP hK
  obtain ⟨rfl, hZ, hh⟩ := hP
  have hx := Bd.exec
  have hby := Bd.bytes
  have hml : c.maxLocals = 7 := hml0
  have hown : s.vm.findClass "com/example/grantd/grantd/front/Places$Waiting" = some m.cls := findClass_of_methodNamed Bd.named
  have hnm := (name_of_methodNamed Bd.named Bd.method).1
  have X0 : Stand p l e ({ frames := 2, cells := 0, slots := 0, locals := 24 } : Room) s m #[(.ref a1), (.ref a2), (.long q3), (.long q4), (.int (1 : Int32))] below meth c s₁ [] 0 0 := Stand.of_body Bd
  have e0 : s₁.heap = h0 := by rw [← hh, Bd.state]; rfl
  have N0 := Fr.nil n0
  have pre0 : ∀ t, Steps p.tables e below (s₁.setTop (mkF m 0 #[.val (.ref a1), .val (.ref a2), .val (.long q3), .second, .val (.long q4), .second, .val (.int (1 : Int32))] [])) t → Steps p.tables e below (s₁.setTop (entryFrame m #[(.ref a1), (.ref a2), (.long q3), (.long q4), (.int (1 : Int32))] 7)) t := fun t k => castTop (ef_8 m a1 a2 (q3) (q4)) k
  obtain ⟨_, _, ⟨T5, L5, k5, n5⟩, -, X5, ⟨Lc5, hQ5, l5, y5, z5⟩, st5⟩ := X0.specialBack hx (y := (⟨"java/lang/Record", "<init>", "()V"⟩ : MethodName)) rfl hown (mvT hZ (hw _ (List.mem_of_getElem? (i := 13) rfl))) (mvT hZ (hw _ (List.mem_of_getElem? (i := 14) rfl))) (mvT hZ (hw _ (List.mem_of_getElem? (i := 17) rfl))) (by decide) (backOf (W := 0) (rm4 l Z a0 hw [] a1 h0 n0 Z0 ) hZ (hw _ (List.mem_of_getElem? (i := 17) rfl)) (hw _ (List.mem_of_getElem? (i := 16) rfl)) (by decide) (by decide)) (g := (mkF m 1 #[.val (.ref a1), .val (.ref a2), .val (.long q3), .second, .val (.long q4), .second, .val (.int (1 : Int32))] [(.ref a1)])) rfl (by rw [hml]; rfl) (Steps.refl _) (a := a1) (argsL := []) (rest := []) (lenOf pd_0 rfl) rfl (by show 2 * 0 + _ ≤ _; exact Nat.le_of_eq rfl) (hb hby d_prog_29_method_1_1) (fun _ _ => ⟨rfl, e0, (by decide : 0 + 0 ≤ _), (by decide : 0 + 0 ≤ _)⟩)
  dsimp only [Pt.U, Pt.locs, Pt.cells, Pt.slots] at X5 l5 y5 z5 st5 hQ5
  subst l5 y5 z5
  obtain ⟨rfl, N5q, e5⟩ := hQ5
  have N5 := Fr.app N0 N5q
  obtain ⟨T6, h6, X6, e6, W6, st6⟩ := putF X5 hx hZ hown (host := "") (Or.inl (hw _ (List.mem_of_getElem? (i := 21) rfl))) Via.refl e5 F_connection_a1 E_a1 (Or.inr ⟨(hw _ (List.mem_of_getElem? (i := 22) rfl)), rfl, hnm⟩) (hw _ (List.mem_of_getElem? (i := 8) rfl)) (ty := (.object "java/lang/Object")) (by decide) rfl rfl (g := (mkF m 6 #[.val (.ref a1), .val (.ref a2), .val (.long q3), .second, .val (.long q4), .second, .val (.int (1 : Int32))] [(.ref a2), (.ref a1)])) rfl rfl (hb hby d_prog_29_method_1_6)
  have N6 := Fr.snoc X6 N5 g_a1
  have Z6 : n0 ≤ h6.size := Nat.le_trans Z0 (Nat.le_of_eq W6.size.symm)
  have Fw6 := Fld.same W6 F_connection_a1
  have f7 : Exa Z h6 a1 "com/example/grantd/grantd/front/Places$Waiting" := (E_a1.wr W6)
  have f8 : Fld Z h6 a1 "com/example/grantd/grantd/front/Places$Waiting" "closableFrom" "J" (.long (0 : Int64)) := (F_closableFrom_a1.other W6 (Or.inr (slot_ne (Or.inr (hw _ (List.mem_of_getElem? (i := 24) rfl))) (Or.inr (hw _ (List.mem_of_getElem? (i := 22) rfl))) (by decide) (t := .long) (t' := (.object "java/lang/Object")) (by decide) (by decide))))
  obtain ⟨T9, h9, X9, e9, W9, st9⟩ := putF X6 hx hZ hown (host := "") (Or.inl (hw _ (List.mem_of_getElem? (i := 23) rfl))) Via.refl e6 f8 f7 (Or.inr ⟨(hw _ (List.mem_of_getElem? (i := 24) rfl)), rfl, hnm⟩) (hw _ (List.mem_of_getElem? (i := 8) rfl)) (ty := .long) (by decide) rfl rfl (g := (mkF m 11 #[.val (.ref a1), .val (.ref a2), .val (.long q3), .second, .val (.long q4), .second, .val (.int (1 : Int32))] [(.long q3), (.ref a1)])) rfl rfl (hb hby d_prog_29_method_1_11)
  have N9 := Fr.snoc X9 N6 g_a1
  have Z9 : n0 ≤ h9.size := Nat.le_trans Z6 (Nat.le_of_eq W9.size.symm)
  have Fw9 := Fld.same W9 f8
  have f10 : Exa Z h9 a1 "com/example/grantd/grantd/front/Places$Waiting" := (f7.wr W9)
  have f11 : Fld Z h9 a1 "com/example/grantd/grantd/front/Places$Waiting" "firstServed" "J" (.long (0 : Int64)) := ((F_firstServed_a1.other W6 (Or.inr (slot_ne (Or.inr (hw _ (List.mem_of_getElem? (i := 26) rfl))) (Or.inr (hw _ (List.mem_of_getElem? (i := 22) rfl))) (by decide) (t := .long) (t' := (.object "java/lang/Object")) (by decide) (by decide)))).other W9 (Or.inr (slot_ne (Or.inr (hw _ (List.mem_of_getElem? (i := 26) rfl))) (Or.inr (hw _ (List.mem_of_getElem? (i := 24) rfl))) (by decide) (t := .long) (t' := .long) (by decide) (by decide))))
  obtain ⟨T12, h12, X12, e12, W12, st12⟩ := putF X9 hx hZ hown (host := "") (Or.inl (hw _ (List.mem_of_getElem? (i := 25) rfl))) Via.refl e9 f11 f10 (Or.inr ⟨(hw _ (List.mem_of_getElem? (i := 26) rfl)), rfl, hnm⟩) (hw _ (List.mem_of_getElem? (i := 8) rfl)) (ty := .long) (by decide) rfl rfl (g := (mkF m 17 #[.val (.ref a1), .val (.ref a2), .val (.long q3), .second, .val (.long q4), .second, .val (.int (1 : Int32))] [(.long q4), (.ref a1)])) rfl rfl (hb hby d_prog_29_method_1_17)
  have N12 := Fr.snoc X12 N9 g_a1
  have Z12 : n0 ≤ h12.size := Nat.le_trans Z9 (Nat.le_of_eq W12.size.symm)
  have Fw12 := Fld.same W12 f11
  have f13 : Exa Z h12 a1 "com/example/grantd/grantd/front/Places$Waiting" := (f10.wr W12)
  have f14 : Fld Z h12 a1 "com/example/grantd/grantd/front/Places$Waiting" "holdsHead" "Z" (.int (0 : Int32)) := (((F_holdsHead_a1.other W6 (Or.inr (slot_ne (Or.inr (hw _ (List.mem_of_getElem? (i := 28) rfl))) (Or.inr (hw _ (List.mem_of_getElem? (i := 22) rfl))) (by decide) (t := .boolean) (t' := (.object "java/lang/Object")) (by decide) (by decide)))).other W9 (Or.inr (slot_ne (Or.inr (hw _ (List.mem_of_getElem? (i := 28) rfl))) (Or.inr (hw _ (List.mem_of_getElem? (i := 24) rfl))) (by decide) (t := .boolean) (t' := .long) (by decide) (by decide)))).other W12 (Or.inr (slot_ne (Or.inr (hw _ (List.mem_of_getElem? (i := 28) rfl))) (Or.inr (hw _ (List.mem_of_getElem? (i := 26) rfl))) (by decide) (t := .boolean) (t' := .long) (by decide) (by decide))))
  obtain ⟨T15, h15, X15, e15, W15, st15⟩ := putFN X12 hx hZ hown (hw _ (List.mem_of_getElem? (i := 27) rfl)) Via.refl e12 f14 f13 (Or.inr ⟨(hw _ (List.mem_of_getElem? (i := 28) rfl)), rfl, hnm⟩) (hw _ (List.mem_of_getElem? (i := 8) rfl)) (ty := .boolean) (v' := (.int (1 : Int32))) (by decide) rfl (by decide) (g := (mkF m 23 #[.val (.ref a1), .val (.ref a2), .val (.long q3), .second, .val (.long q4), .second, .val (.int (1 : Int32))] [(.int (1 : Int32)), (.ref a1)])) rfl rfl (hb hby d_prog_29_method_1_23)
  have N15 := Fr.snoc X15 N12 g_a1
  have Z15 : n0 ≤ h15.size := Nat.le_trans Z12 (Nat.le_of_eq W15.size.symm)
  have Fw15 := Fld.same W15 f14
  have pre16 : ∀ t, Steps p.tables e below (T15.setTop (mkF m 26 #[.val (.ref a1), .val (.ref a2), .val (.long q3), .second, .val (.long q4), .second, .val (.int (1 : Int32))] [])) t → Steps p.tables e below (s₁.setTop (entryFrame m #[(.ref a1), (.ref a2), (.long q3), (.long q4), (.int (1 : Int32))] 7)) t := fun t kk => pre0 t (by
    show Steps p.tables e below (s₁.setTop (mkF m 0 #[.val (.ref a1), .val (.ref a2), .val (.long q3), .second, .val (.long q4), .second, .val (.int (1 : Int32))] [])) _
    refine XS.aloadN X0.here hx rfl (hb hby d_prog_29_method_1_0) rfl rfl ?_
    show Steps p.tables e below (s₁.setTop (mkF m 1 #[.val (.ref a1), .val (.ref a2), .val (.long q3), .second, .val (.long q4), .second, .val (.int (1 : Int32))] [(.ref a1)])) _
    refine st5.trans ?_
    show Steps p.tables e below (T5.setTop (mkF m 4 #[.val (.ref a1), .val (.ref a2), .val (.long q3), .second, .val (.long q4), .second, .val (.int (1 : Int32))] [])) _
    refine XS.aloadN X5.here hx rfl (hb hby d_prog_29_method_1_4) rfl rfl ?_
    show Steps p.tables e below (T5.setTop (mkF m 5 #[.val (.ref a1), .val (.ref a2), .val (.long q3), .second, .val (.long q4), .second, .val (.int (1 : Int32))] [(.ref a1)])) _
    refine XS.aloadN X5.here hx rfl (hb hby d_prog_29_method_1_5) rfl rfl ?_
    show Steps p.tables e below (T5.setTop (mkF m 6 #[.val (.ref a1), .val (.ref a2), .val (.long q3), .second, .val (.long q4), .second, .val (.int (1 : Int32))] [(.ref a2), (.ref a1)])) _
    refine st6 _ ?_
    show Steps p.tables e below (T6.setTop (mkF m 9 #[.val (.ref a1), .val (.ref a2), .val (.long q3), .second, .val (.long q4), .second, .val (.int (1 : Int32))] [])) _
    refine XS.aloadN X6.here hx rfl (hb hby d_prog_29_method_1_9) rfl rfl ?_
    show Steps p.tables e below (T6.setTop (mkF m 10 #[.val (.ref a1), .val (.ref a2), .val (.long q3), .second, .val (.long q4), .second, .val (.int (1 : Int32))] [(.ref a1)])) _
    refine XS.lloadN X6.here hx rfl (hb hby d_prog_29_method_1_10) rfl ?_
    show Steps p.tables e below (T6.setTop (mkF m 11 #[.val (.ref a1), .val (.ref a2), .val (.long q3), .second, .val (.long q4), .second, .val (.int (1 : Int32))] [(.long q3), (.ref a1)])) _
    refine st9 _ ?_
    show Steps p.tables e below (T9.setTop (mkF m 14 #[.val (.ref a1), .val (.ref a2), .val (.long q3), .second, .val (.long q4), .second, .val (.int (1 : Int32))] [])) _
    refine XS.aloadN X9.here hx rfl (hb hby d_prog_29_method_1_14) rfl rfl ?_
    show Steps p.tables e below (T9.setTop (mkF m 15 #[.val (.ref a1), .val (.ref a2), .val (.long q3), .second, .val (.long q4), .second, .val (.int (1 : Int32))] [(.ref a1)])) _
    refine XS.lload X9.here hx rfl (hb hby d_prog_29_method_1_15) rfl ?_
    show Steps p.tables e below (T9.setTop (mkF m 17 #[.val (.ref a1), .val (.ref a2), .val (.long q3), .second, .val (.long q4), .second, .val (.int (1 : Int32))] [(.long q4), (.ref a1)])) _
    refine st12 _ ?_
    show Steps p.tables e below (T12.setTop (mkF m 20 #[.val (.ref a1), .val (.ref a2), .val (.long q3), .second, .val (.long q4), .second, .val (.int (1 : Int32))] [])) _
    refine XS.aloadN X12.here hx rfl (hb hby d_prog_29_method_1_20) rfl rfl ?_
    show Steps p.tables e below (T12.setTop (mkF m 21 #[.val (.ref a1), .val (.ref a2), .val (.long q3), .second, .val (.long q4), .second, .val (.int (1 : Int32))] [(.ref a1)])) _
    refine XS.iload X12.here hx rfl (hb hby d_prog_29_method_1_21) rfl ?_
    show Steps p.tables e below (T12.setTop (mkF m 23 #[.val (.ref a1), .val (.ref a2), .val (.long q3), .second, .val (.long q4), .second, .val (.int (1 : Int32))] [(.int (1 : Int32)), (.ref a1)])) _
    refine st15 _ ?_
    exact kk)
  obtain ⟨fs, hr, hrun, hended, hW, hsame⟩ := X15.leave (v := none) (fun _ => rfl)
  refine ⟨_, _, pre16 _ ?_, hrun, hended, _, _, rfl, ?_, ⟨_, rfl⟩, hW, hsame.mono (by decide) (by decide)⟩
  · exact X15.returnOut hx Bd.returns (hb hby d_prog_29_method_1_26) hr
  · show Q14 Z a1 a2 q3 q4 h0 n0 _ T15.heap _
    rw [e15]
    exact ⟨rfl, N15, h6, W6, h9, W9, h12, W12, h15, W15, rfl⟩
def Q15 (Z : State) (a1 : Addr) (q2 : Int64) (h0 : Heap) (n0 : Nat) (v : Option Value) (h : Heap) (L : List Loc) : Prop := v = some (.int (0 : Int32)) ∧ Fr n0 L ∧ h = h0
set_option maxRecDepth 65536 in
set_option maxHeartbeats 40000000 in
theorem rm15 (l : Launch) (Z : State) (a0 : Array Value) (hw : ∀ d ∈ tables_1, d.before a0 Z = true) (ws : List Jvm.Cond) (a1 : Addr) (q2 : Int64) (h0 : Heap) (n0 : Nat) (Z0 : n0 ≤ h0.size) (F_firstServed_a1 : Fld Z h0 a1 "com/example/grantd/grantd/front/Places$Waiting" "firstServed" "J" (.long q2)) (hc4 : ¬ ((lcmpW q2 (9223372036854775807 : Int64)) = (0 : Int32))) (F_holdsHead_a1 : Fld Z h0 a1 "com/example/grantd/grantd/front/Places$Waiting" "holdsHead" "Z" (.int (1 : Int32))) :
    MetFree l (⟨"com/example/grantd/grantd/front/Places$Waiting", "isBetweenRequests", "()Z"⟩ : MethodName) (head1 (Jvm.Cond.code (⟨"com/example/grantd/grantd/front/Places$Waiting", "isBetweenRequests", "()Z"⟩ : MethodName) prog_29_method_2_code 1 (some .boolean) :: ws) ({ frames := 0, cells := 0, slots := 0, locals := 0 } : Room)) (fun a U => a = #[(.ref a1)] ∧ Z.Warmed39 U.vm ∧ U.heap = h0) (fun _ _ _ _ _ => True) (fun _ U o U' => ∃ v L, o = .returned v ∧ Q15 Z a1 q2 h0 n0 v U'.heap L ∧ FrameEnd U o U' L ({ frames := 0, cells := 0, slots := 0, locals := 0 } : Room).cells ({ frames := 0, cells := 0, slots := 0, locals := 0 } : Room).slots) := by
  refine MetFree.of_bodySF (plainFor_of_name pn_4) hisR ?_
  intro p e s m args below meth c s₁ Bd hml0 hP hK
  obtain ⟨rfl, hZ, hh⟩ := hP
  have hx := Bd.exec
  have hby := Bd.bytes
  have hml : c.maxLocals = 1 := hml0
  have hown : s.vm.findClass "com/example/grantd/grantd/front/Places$Waiting" = some m.cls := findClass_of_methodNamed Bd.named
  have hnm := (name_of_methodNamed Bd.named Bd.method).1
  have X0 : Stand p l e ({ frames := 0, cells := 0, slots := 0, locals := 0 } : Room) s m #[(.ref a1)] below meth c s₁ [] 0 0 := Stand.of_body Bd
  have e0 : s₁.heap = h0 := by rw [← hh, Bd.state]; rfl
  have N0 := Fr.nil n0
  have pre0 : ∀ t, Steps p.tables e below (s₁.setTop (mkF m 0 #[.val (.ref a1)] [])) t → Steps p.tables e below (s₁.setTop (entryFrame m #[(.ref a1)] 1)) t := fun t k => castTop (ef_1 m a1) k
  obtain ⟨T3, X3, e3, st3⟩ := getF X0 hx hZ hown (host := "") (Or.inl (hw _ (List.mem_of_getElem? (i := 25) rfl))) Via.refl e0 F_firstServed_a1 (g := (mkF m 1 #[.val (.ref a1)] [(.ref a1)])) rfl rfl (hb hby d_prog_29_method_2_1)
  obtain ⟨T5, X5, e5, st5⟩ := getF X3 hx hZ hown (host := "") (Or.inl (hw _ (List.mem_of_getElem? (i := 27) rfl))) Via.refl e3 F_holdsHead_a1 (g := (mkF m 12 #[.val (.ref a1)] [(.ref a1)])) rfl rfl (hb hby d_prog_29_method_2_12)
  have pre6 : ∀ t, Steps p.tables e below (T5.setTop (mkF m 23 #[.val (.ref a1)] [(.int (0 : Int32))])) t → Steps p.tables e below (s₁.setTop (entryFrame m #[(.ref a1)] 1)) t := fun t kk => pre0 t (by
    show Steps p.tables e below (s₁.setTop (mkF m 0 #[.val (.ref a1)] [])) _
    refine XS.aloadN X0.here hx rfl (hb hby d_prog_29_method_2_0) rfl rfl ?_
    show Steps p.tables e below (s₁.setTop (mkF m 1 #[.val (.ref a1)] [(.ref a1)])) _
    refine st3 _ ?_
    show Steps p.tables e below (T3.setTop (mkF m 4 #[.val (.ref a1)] [(.long q2)])) _
    refine X3.ldc2Long hx hown (mvT hZ (hw _ (List.mem_of_getElem? (i := 35) rfl))) (g := (mkF m 4 #[.val (.ref a1)] [(.long q2)])) rfl (hb hby d_prog_29_method_2_4) _ ?_
    show Steps p.tables e below (T3.setTop (mkF m 7 #[.val (.ref a1)] [(.long (9223372036854775807 : Int64)), (.long q2)])) _
    refine XS.lcmp X3.here hx rfl (hb hby d_prog_29_method_2_7) rfl ?_
    show Steps p.tables e below (T3.setTop (mkF m 8 #[.val (.ref a1)] [(.int (lcmpW q2 (9223372036854775807 : Int64)))])) _
    refine XS.ifNo X3.here hx rfl (hb hby d_prog_29_method_2_8) rfl ((if0 _ _).trans (feq (hc4 : ¬ ((lcmpW q2 (9223372036854775807 : Int64)) = (0 : Int32)))).1) ?_
    show Steps p.tables e below (T3.setTop (mkF m 11 #[.val (.ref a1)] [])) _
    refine XS.aloadN X3.here hx rfl (hb hby d_prog_29_method_2_11) rfl rfl ?_
    show Steps p.tables e below (T3.setTop (mkF m 12 #[.val (.ref a1)] [(.ref a1)])) _
    refine st5 _ ?_
    show Steps p.tables e below (T5.setTop (mkF m 15 #[.val (.ref a1)] [(.int (1 : Int32))])) _
    refine XS.ifYes X5.here hx rfl (pc0 := 15) (pc' := 22) rfl (hb hby d_prog_29_method_2_15) rfl ((if0 _ _).trans (feq ((by decide) : ¬ ((1 : Int32) = (0 : Int32)))).2) (by decide) (by decide) ?_
    show Steps p.tables e below (T5.setTop (mkF m 22 #[.val (.ref a1)] [])) _
    refine XS.iconst X5.here hx rfl (hb hby d_prog_29_method_2_22) ?_
    exact kk)
  obtain ⟨fs, hr, hrun, hended, hW, hsame⟩ := X5.leave (v := some (.int (0 : Int32))) (fun h => by rw [Bd.returns] at h; cases h)
  refine ⟨_, _, pre6 _ ?_, hrun, hended, _, _, rfl, ?_, ⟨_, rfl⟩, hW, hsame.mono (by decide) (by decide)⟩
  · exact retN X5 hx (t := .boolean) Bd.returns (by simp) (hb hby d_prog_29_method_2_23) hr
  · show Q15 Z a1 q2 h0 n0 _ T5.heap _
    rw [e5]
    exact ⟨rfl, N0, rfl⟩
theorem ef_9 (m : MethodId) (x0 : Addr) (x2 : Int64) (x3 : Int64) : entryFrame m #[(.ref x0), .null, (.long x2), (.long x3), (.int (1 : Int32))] 7 = mkF m 0 #[.val (.ref x0), .val .null, .val (.long x2), .second, .val (.long x3), .second, .val (.int (1 : Int32))] [] := by first | (simp [entryFrame, mkF, argsToLocals, Value.category, maxLocals]; done) | rfl
def Q16 (Z : State) (a1 : Addr) (q2 : Int64) (q3 : Int64) (h0 : Heap) (n0 : Nat) (v : Option Value) (h : Heap) (L : List Loc) : Prop := v = none ∧ Fr n0 L ∧ ∃ h5 : Heap, Wr h0 h5 a1 (Jvm.RoadKit.slotOf Z "com/example/grantd/grantd/front/Places$Waiting" "connection" "Ljava/lang/Object;") .null ∧ ∃ h8 : Heap, Wr h5 h8 a1 (Jvm.RoadKit.slotOf Z "com/example/grantd/grantd/front/Places$Waiting" "closableFrom" "J") (.long q2) ∧ ∃ h11 : Heap, Wr h8 h11 a1 (Jvm.RoadKit.slotOf Z "com/example/grantd/grantd/front/Places$Waiting" "firstServed" "J") (.long q3) ∧ ∃ h14 : Heap, Wr h11 h14 a1 (Jvm.RoadKit.slotOf Z "com/example/grantd/grantd/front/Places$Waiting" "holdsHead" "Z") (.int (1 : Int32)) ∧ h = h14
set_option maxRecDepth 65536 in
set_option maxHeartbeats 40000000 in
theorem rm16 (l : Launch) (Z : State) (a0 : Array Value) (hw : ∀ d ∈ tables_1, d.before a0 Z = true) (ws : List Jvm.Cond) (a1 : Addr) (q2 : Int64) (q3 : Int64) (h0 : Heap) (n0 : Nat) (Z0 : n0 ≤ h0.size) (E_a1 : Exa Z h0 a1 "com/example/grantd/grantd/front/Places$Waiting") (F_connection_a1 : Fld Z h0 a1 "com/example/grantd/grantd/front/Places$Waiting" "connection" "Ljava/lang/Object;" .null) (g_a1 : n0 ≤ a1) (F_closableFrom_a1 : Fld Z h0 a1 "com/example/grantd/grantd/front/Places$Waiting" "closableFrom" "J" (.long (0 : Int64))) (F_firstServed_a1 : Fld Z h0 a1 "com/example/grantd/grantd/front/Places$Waiting" "firstServed" "J" (.long (0 : Int64))) (F_holdsHead_a1 : Fld Z h0 a1 "com/example/grantd/grantd/front/Places$Waiting" "holdsHead" "Z" (.int (0 : Int32))) :
    MetFree l (⟨"com/example/grantd/grantd/front/Places$Waiting", "<init>", "(Ljava/lang/Object;JJZ)V"⟩ : MethodName) (head1 (Jvm.Cond.code (⟨"com/example/grantd/grantd/front/Places$Waiting", "<init>", "(Ljava/lang/Object;JJZ)V"⟩ : MethodName) prog_29_method_1_code 7 none :: ws) ({ frames := 2, cells := 0, slots := 0, locals := 24 } : Room)) (fun a U => a = #[(.ref a1), .null, (.long q2), (.long q3), (.int (1 : Int32))] ∧ Z.Warmed39 U.vm ∧ U.heap = h0) (fun _ _ _ _ _ => True) (fun _ U o U' => ∃ v L, o = .returned v ∧ Q16 Z a1 q2 q3 h0 n0 v U'.heap L ∧ FrameEnd U o U' L ({ frames := 2, cells := 0, slots := 0, locals := 24 } : Room).cells ({ frames := 2, cells := 0, slots := 0, locals := 24 } : Room).slots) := by
  refine MetFree.of_bodySF (plainFor_of_name pn_4) hisR ?_
  intro p e s m args below meth c s₁ Bd hml0 hP hK
  obtain ⟨rfl, hZ, hh⟩ := hP
  have hx := Bd.exec
  have hby := Bd.bytes
  have hml : c.maxLocals = 7 := hml0
  have hown : s.vm.findClass "com/example/grantd/grantd/front/Places$Waiting" = some m.cls := findClass_of_methodNamed Bd.named
  have hnm := (name_of_methodNamed Bd.named Bd.method).1
  have X0 : Stand p l e ({ frames := 2, cells := 0, slots := 0, locals := 24 } : Room) s m #[(.ref a1), .null, (.long q2), (.long q3), (.int (1 : Int32))] below meth c s₁ [] 0 0 := Stand.of_body Bd
  have e0 : s₁.heap = h0 := by rw [← hh, Bd.state]; rfl
  have N0 := Fr.nil n0
  have pre0 : ∀ t, Steps p.tables e below (s₁.setTop (mkF m 0 #[.val (.ref a1), .val .null, .val (.long q2), .second, .val (.long q3), .second, .val (.int (1 : Int32))] [])) t → Steps p.tables e below (s₁.setTop (entryFrame m #[(.ref a1), .null, (.long q2), (.long q3), (.int (1 : Int32))] 7)) t := fun t k => castTop (ef_9 m a1 (q2) (q3)) k
  obtain ⟨_, _, ⟨T4, L4, k4, n4⟩, -, X4, ⟨Lc4, hQ4, l4, y4, z4⟩, st4⟩ := X0.specialBack hx (y := (⟨"java/lang/Record", "<init>", "()V"⟩ : MethodName)) rfl hown (mvT hZ (hw _ (List.mem_of_getElem? (i := 13) rfl))) (mvT hZ (hw _ (List.mem_of_getElem? (i := 14) rfl))) (mvT hZ (hw _ (List.mem_of_getElem? (i := 17) rfl))) (by decide) (backOf (W := 0) (rm4 l Z a0 hw [] a1 h0 n0 Z0 ) hZ (hw _ (List.mem_of_getElem? (i := 17) rfl)) (hw _ (List.mem_of_getElem? (i := 16) rfl)) (by decide) (by decide)) (g := (mkF m 1 #[.val (.ref a1), .val .null, .val (.long q2), .second, .val (.long q3), .second, .val (.int (1 : Int32))] [(.ref a1)])) rfl (by rw [hml]; rfl) (Steps.refl _) (a := a1) (argsL := []) (rest := []) (lenOf pd_0 rfl) rfl (by show 2 * 0 + _ ≤ _; exact Nat.le_of_eq rfl) (hb hby d_prog_29_method_1_1) (fun _ _ => ⟨rfl, e0, (by decide : 0 + 0 ≤ _), (by decide : 0 + 0 ≤ _)⟩)
  dsimp only [Pt.U, Pt.locs, Pt.cells, Pt.slots] at X4 l4 y4 z4 st4 hQ4
  subst l4 y4 z4
  obtain ⟨rfl, N4q, e4⟩ := hQ4
  have N4 := Fr.app N0 N4q
  obtain ⟨T5, h5, X5, e5, W5, st5⟩ := putF X4 hx hZ hown (host := "") (Or.inl (hw _ (List.mem_of_getElem? (i := 21) rfl))) Via.refl e4 F_connection_a1 E_a1 (Or.inr ⟨(hw _ (List.mem_of_getElem? (i := 22) rfl)), rfl, hnm⟩) (hw _ (List.mem_of_getElem? (i := 8) rfl)) (ty := (.object "java/lang/Object")) (by decide) rfl rfl (g := (mkF m 6 #[.val (.ref a1), .val .null, .val (.long q2), .second, .val (.long q3), .second, .val (.int (1 : Int32))] [.null, (.ref a1)])) rfl rfl (hb hby d_prog_29_method_1_6)
  have N5 := Fr.snoc X5 N4 g_a1
  have Z5 : n0 ≤ h5.size := Nat.le_trans Z0 (Nat.le_of_eq W5.size.symm)
  have Fw5 := Fld.same W5 F_connection_a1
  have f6 : Exa Z h5 a1 "com/example/grantd/grantd/front/Places$Waiting" := (E_a1.wr W5)
  have f7 : Fld Z h5 a1 "com/example/grantd/grantd/front/Places$Waiting" "closableFrom" "J" (.long (0 : Int64)) := (F_closableFrom_a1.other W5 (Or.inr (slot_ne (Or.inr (hw _ (List.mem_of_getElem? (i := 24) rfl))) (Or.inr (hw _ (List.mem_of_getElem? (i := 22) rfl))) (by decide) (t := .long) (t' := (.object "java/lang/Object")) (by decide) (by decide))))
  obtain ⟨T8, h8, X8, e8, W8, st8⟩ := putF X5 hx hZ hown (host := "") (Or.inl (hw _ (List.mem_of_getElem? (i := 23) rfl))) Via.refl e5 f7 f6 (Or.inr ⟨(hw _ (List.mem_of_getElem? (i := 24) rfl)), rfl, hnm⟩) (hw _ (List.mem_of_getElem? (i := 8) rfl)) (ty := .long) (by decide) rfl rfl (g := (mkF m 11 #[.val (.ref a1), .val .null, .val (.long q2), .second, .val (.long q3), .second, .val (.int (1 : Int32))] [(.long q2), (.ref a1)])) rfl rfl (hb hby d_prog_29_method_1_11)
  have N8 := Fr.snoc X8 N5 g_a1
  have Z8 : n0 ≤ h8.size := Nat.le_trans Z5 (Nat.le_of_eq W8.size.symm)
  have Fw8 := Fld.same W8 f7
  have f9 : Exa Z h8 a1 "com/example/grantd/grantd/front/Places$Waiting" := (f6.wr W8)
  have f10 : Fld Z h8 a1 "com/example/grantd/grantd/front/Places$Waiting" "firstServed" "J" (.long (0 : Int64)) := ((F_firstServed_a1.other W5 (Or.inr (slot_ne (Or.inr (hw _ (List.mem_of_getElem? (i := 26) rfl))) (Or.inr (hw _ (List.mem_of_getElem? (i := 22) rfl))) (by decide) (t := .long) (t' := (.object "java/lang/Object")) (by decide) (by decide)))).other W8 (Or.inr (slot_ne (Or.inr (hw _ (List.mem_of_getElem? (i := 26) rfl))) (Or.inr (hw _ (List.mem_of_getElem? (i := 24) rfl))) (by decide) (t := .long) (t' := .long) (by decide) (by decide))))
  obtain ⟨T11, h11, X11, e11, W11, st11⟩ := putF X8 hx hZ hown (host := "") (Or.inl (hw _ (List.mem_of_getElem? (i := 25) rfl))) Via.refl e8 f10 f9 (Or.inr ⟨(hw _ (List.mem_of_getElem? (i := 26) rfl)), rfl, hnm⟩) (hw _ (List.mem_of_getElem? (i := 8) rfl)) (ty := .long) (by decide) rfl rfl (g := (mkF m 17 #[.val (.ref a1), .val .null, .val (.long q2), .second, .val (.long q3), .second, .val (.int (1 : Int32))] [(.long q3), (.ref a1)])) rfl rfl (hb hby d_prog_29_method_1_17)
  have N11 := Fr.snoc X11 N8 g_a1
  have Z11 : n0 ≤ h11.size := Nat.le_trans Z8 (Nat.le_of_eq W11.size.symm)
  have Fw11 := Fld.same W11 f10
  have f12 : Exa Z h11 a1 "com/example/grantd/grantd/front/Places$Waiting" := (f9.wr W11)
  have f13 : Fld Z h11 a1 "com/example/grantd/grantd/front/Places$Waiting" "holdsHead" "Z" (.int (0 : Int32)) := (((F_holdsHead_a1.other W5 (Or.inr (slot_ne (Or.inr (hw _ (List.mem_of_getElem? (i := 28) rfl))) (Or.inr (hw _ (List.mem_of_getElem? (i := 22) rfl))) (by decide) (t := .boolean) (t' := (.object "java/lang/Object")) (by decide) (by decide)))).other W8 (Or.inr (slot_ne (Or.inr (hw _ (List.mem_of_getElem? (i := 28) rfl))) (Or.inr (hw _ (List.mem_of_getElem? (i := 24) rfl))) (by decide) (t := .boolean) (t' := .long) (by decide) (by decide)))).other W11 (Or.inr (slot_ne (Or.inr (hw _ (List.mem_of_getElem? (i := 28) rfl))) (Or.inr (hw _ (List.mem_of_getElem? (i := 26) rfl))) (by decide) (t := .boolean) (t' := .long) (by decide) (by decide))))
  obtain ⟨T14, h14, X14, e14, W14, st14⟩ := putFN X11 hx hZ hown (hw _ (List.mem_of_getElem? (i := 27) rfl)) Via.refl e11 f13 f12 (Or.inr ⟨(hw _ (List.mem_of_getElem? (i := 28) rfl)), rfl, hnm⟩) (hw _ (List.mem_of_getElem? (i := 8) rfl)) (ty := .boolean) (v' := (.int (1 : Int32))) (by decide) rfl (by decide) (g := (mkF m 23 #[.val (.ref a1), .val .null, .val (.long q2), .second, .val (.long q3), .second, .val (.int (1 : Int32))] [(.int (1 : Int32)), (.ref a1)])) rfl rfl (hb hby d_prog_29_method_1_23)
  have N14 := Fr.snoc X14 N11 g_a1
  have Z14 : n0 ≤ h14.size := Nat.le_trans Z11 (Nat.le_of_eq W14.size.symm)
  have Fw14 := Fld.same W14 f13
  have pre15 : ∀ t, Steps p.tables e below (T14.setTop (mkF m 26 #[.val (.ref a1), .val .null, .val (.long q2), .second, .val (.long q3), .second, .val (.int (1 : Int32))] [])) t → Steps p.tables e below (s₁.setTop (entryFrame m #[(.ref a1), .null, (.long q2), (.long q3), (.int (1 : Int32))] 7)) t := fun t kk => pre0 t (by
    show Steps p.tables e below (s₁.setTop (mkF m 0 #[.val (.ref a1), .val .null, .val (.long q2), .second, .val (.long q3), .second, .val (.int (1 : Int32))] [])) _
    refine XS.aloadN X0.here hx rfl (hb hby d_prog_29_method_1_0) rfl rfl ?_
    show Steps p.tables e below (s₁.setTop (mkF m 1 #[.val (.ref a1), .val .null, .val (.long q2), .second, .val (.long q3), .second, .val (.int (1 : Int32))] [(.ref a1)])) _
    refine st4.trans ?_
    show Steps p.tables e below (T4.setTop (mkF m 4 #[.val (.ref a1), .val .null, .val (.long q2), .second, .val (.long q3), .second, .val (.int (1 : Int32))] [])) _
    refine XS.aloadN X4.here hx rfl (hb hby d_prog_29_method_1_4) rfl rfl ?_
    show Steps p.tables e below (T4.setTop (mkF m 5 #[.val (.ref a1), .val .null, .val (.long q2), .second, .val (.long q3), .second, .val (.int (1 : Int32))] [(.ref a1)])) _
    refine XS.aloadN X4.here hx rfl (hb hby d_prog_29_method_1_5) rfl rfl ?_
    show Steps p.tables e below (T4.setTop (mkF m 6 #[.val (.ref a1), .val .null, .val (.long q2), .second, .val (.long q3), .second, .val (.int (1 : Int32))] [.null, (.ref a1)])) _
    refine st5 _ ?_
    show Steps p.tables e below (T5.setTop (mkF m 9 #[.val (.ref a1), .val .null, .val (.long q2), .second, .val (.long q3), .second, .val (.int (1 : Int32))] [])) _
    refine XS.aloadN X5.here hx rfl (hb hby d_prog_29_method_1_9) rfl rfl ?_
    show Steps p.tables e below (T5.setTop (mkF m 10 #[.val (.ref a1), .val .null, .val (.long q2), .second, .val (.long q3), .second, .val (.int (1 : Int32))] [(.ref a1)])) _
    refine XS.lloadN X5.here hx rfl (hb hby d_prog_29_method_1_10) rfl ?_
    show Steps p.tables e below (T5.setTop (mkF m 11 #[.val (.ref a1), .val .null, .val (.long q2), .second, .val (.long q3), .second, .val (.int (1 : Int32))] [(.long q2), (.ref a1)])) _
    refine st8 _ ?_
    show Steps p.tables e below (T8.setTop (mkF m 14 #[.val (.ref a1), .val .null, .val (.long q2), .second, .val (.long q3), .second, .val (.int (1 : Int32))] [])) _
    refine XS.aloadN X8.here hx rfl (hb hby d_prog_29_method_1_14) rfl rfl ?_
    show Steps p.tables e below (T8.setTop (mkF m 15 #[.val (.ref a1), .val .null, .val (.long q2), .second, .val (.long q3), .second, .val (.int (1 : Int32))] [(.ref a1)])) _
    refine XS.lload X8.here hx rfl (hb hby d_prog_29_method_1_15) rfl ?_
    show Steps p.tables e below (T8.setTop (mkF m 17 #[.val (.ref a1), .val .null, .val (.long q2), .second, .val (.long q3), .second, .val (.int (1 : Int32))] [(.long q3), (.ref a1)])) _
    refine st11 _ ?_
    show Steps p.tables e below (T11.setTop (mkF m 20 #[.val (.ref a1), .val .null, .val (.long q2), .second, .val (.long q3), .second, .val (.int (1 : Int32))] [])) _
    refine XS.aloadN X11.here hx rfl (hb hby d_prog_29_method_1_20) rfl rfl ?_
    show Steps p.tables e below (T11.setTop (mkF m 21 #[.val (.ref a1), .val .null, .val (.long q2), .second, .val (.long q3), .second, .val (.int (1 : Int32))] [(.ref a1)])) _
    refine XS.iload X11.here hx rfl (hb hby d_prog_29_method_1_21) rfl ?_
    show Steps p.tables e below (T11.setTop (mkF m 23 #[.val (.ref a1), .val .null, .val (.long q2), .second, .val (.long q3), .second, .val (.int (1 : Int32))] [(.int (1 : Int32)), (.ref a1)])) _
    refine st14 _ ?_
    exact kk)
  obtain ⟨fs, hr, hrun, hended, hW, hsame⟩ := X14.leave (v := none) (fun _ => rfl)
  refine ⟨_, _, pre15 _ ?_, hrun, hended, _, _, rfl, ?_, ⟨_, rfl⟩, hW, hsame.mono (by decide) (by decide)⟩
  · exact X14.returnOut hx Bd.returns (hb hby d_prog_29_method_1_26) hr
  · show Q16 Z a1 q2 q3 h0 n0 _ T14.heap _
    rw [e14]
    exact ⟨rfl, N14, h5, W5, h8, W8, h11, W11, h14, W14, rfl⟩
theorem ef_10 (m : MethodId) (x0 : Addr) (x1 : Addr) (x2 : Int64) : entryFrame m #[(.ref x0), (.ref x1), (.long x2), (.long (9223372036854775807 : Int64)), (.int (1 : Int32))] 7 = mkF m 0 #[.val (.ref x0), .val (.ref x1), .val (.long x2), .second, .val (.long (9223372036854775807 : Int64)), .second, .val (.int (1 : Int32))] [] := by first | (simp [entryFrame, mkF, argsToLocals, Value.category, maxLocals]; done) | rfl
def Q17 (Z : State) (a1 : Addr) (a2 : Addr) (q3 : Int64) (h0 : Heap) (n0 : Nat) (v : Option Value) (h : Heap) (L : List Loc) : Prop := v = none ∧ Fr n0 L ∧ ∃ h5 : Heap, Wr h0 h5 a1 (Jvm.RoadKit.slotOf Z "com/example/grantd/grantd/front/Places$Waiting" "connection" "Ljava/lang/Object;") (.ref a2) ∧ ∃ h8 : Heap, Wr h5 h8 a1 (Jvm.RoadKit.slotOf Z "com/example/grantd/grantd/front/Places$Waiting" "closableFrom" "J") (.long q3) ∧ ∃ h11 : Heap, Wr h8 h11 a1 (Jvm.RoadKit.slotOf Z "com/example/grantd/grantd/front/Places$Waiting" "firstServed" "J") (.long (9223372036854775807 : Int64)) ∧ ∃ h14 : Heap, Wr h11 h14 a1 (Jvm.RoadKit.slotOf Z "com/example/grantd/grantd/front/Places$Waiting" "holdsHead" "Z") (.int (1 : Int32)) ∧ h = h14
set_option maxRecDepth 65536 in
set_option maxHeartbeats 40000000 in
theorem rm17 (l : Launch) (Z : State) (a0 : Array Value) (hw : ∀ d ∈ tables_1, d.before a0 Z = true) (ws : List Jvm.Cond) (a1 : Addr) (a2 : Addr) (q3 : Int64) (h0 : Heap) (n0 : Nat) (Z0 : n0 ≤ h0.size) (E_a1 : Exa Z h0 a1 "com/example/grantd/grantd/front/Places$Waiting") (F_connection_a1 : Fld Z h0 a1 "com/example/grantd/grantd/front/Places$Waiting" "connection" "Ljava/lang/Object;" .null) (g_a1 : n0 ≤ a1) (F_closableFrom_a1 : Fld Z h0 a1 "com/example/grantd/grantd/front/Places$Waiting" "closableFrom" "J" (.long (0 : Int64))) (F_firstServed_a1 : Fld Z h0 a1 "com/example/grantd/grantd/front/Places$Waiting" "firstServed" "J" (.long (0 : Int64))) (F_holdsHead_a1 : Fld Z h0 a1 "com/example/grantd/grantd/front/Places$Waiting" "holdsHead" "Z" (.int (0 : Int32))) :
    MetFree l (⟨"com/example/grantd/grantd/front/Places$Waiting", "<init>", "(Ljava/lang/Object;JJZ)V"⟩ : MethodName) (head1 (Jvm.Cond.code (⟨"com/example/grantd/grantd/front/Places$Waiting", "<init>", "(Ljava/lang/Object;JJZ)V"⟩ : MethodName) prog_29_method_1_code 7 none :: ws) ({ frames := 2, cells := 0, slots := 0, locals := 24 } : Room)) (fun a U => a = #[(.ref a1), (.ref a2), (.long q3), (.long (9223372036854775807 : Int64)), (.int (1 : Int32))] ∧ Z.Warmed39 U.vm ∧ U.heap = h0) (fun _ _ _ _ _ => True) (fun _ U o U' => ∃ v L, o = .returned v ∧ Q17 Z a1 a2 q3 h0 n0 v U'.heap L ∧ FrameEnd U o U' L ({ frames := 2, cells := 0, slots := 0, locals := 24 } : Room).cells ({ frames := 2, cells := 0, slots := 0, locals := 24 } : Room).slots) := by
  refine MetFree.of_bodySF (plainFor_of_name pn_4) hisR ?_
  intro p e s m args below meth c s₁ Bd hml0 hP hK
  obtain ⟨rfl, hZ, hh⟩ := hP
  have hx := Bd.exec
  have hby := Bd.bytes
  have hml : c.maxLocals = 7 := hml0
  have hown : s.vm.findClass "com/example/grantd/grantd/front/Places$Waiting" = some m.cls := findClass_of_methodNamed Bd.named
  have hnm := (name_of_methodNamed Bd.named Bd.method).1
  have X0 : Stand p l e ({ frames := 2, cells := 0, slots := 0, locals := 24 } : Room) s m #[(.ref a1), (.ref a2), (.long q3), (.long (9223372036854775807 : Int64)), (.int (1 : Int32))] below meth c s₁ [] 0 0 := Stand.of_body Bd
  have e0 : s₁.heap = h0 := by rw [← hh, Bd.state]; rfl
  have N0 := Fr.nil n0
  have pre0 : ∀ t, Steps p.tables e below (s₁.setTop (mkF m 0 #[.val (.ref a1), .val (.ref a2), .val (.long q3), .second, .val (.long (9223372036854775807 : Int64)), .second, .val (.int (1 : Int32))] [])) t → Steps p.tables e below (s₁.setTop (entryFrame m #[(.ref a1), (.ref a2), (.long q3), (.long (9223372036854775807 : Int64)), (.int (1 : Int32))] 7)) t := fun t k => castTop (ef_10 m a1 a2 (q3)) k
  obtain ⟨_, _, ⟨T4, L4, k4, n4⟩, -, X4, ⟨Lc4, hQ4, l4, y4, z4⟩, st4⟩ := X0.specialBack hx (y := (⟨"java/lang/Record", "<init>", "()V"⟩ : MethodName)) rfl hown (mvT hZ (hw _ (List.mem_of_getElem? (i := 13) rfl))) (mvT hZ (hw _ (List.mem_of_getElem? (i := 14) rfl))) (mvT hZ (hw _ (List.mem_of_getElem? (i := 17) rfl))) (by decide) (backOf (W := 0) (rm4 l Z a0 hw [] a1 h0 n0 Z0 ) hZ (hw _ (List.mem_of_getElem? (i := 17) rfl)) (hw _ (List.mem_of_getElem? (i := 16) rfl)) (by decide) (by decide)) (g := (mkF m 1 #[.val (.ref a1), .val (.ref a2), .val (.long q3), .second, .val (.long (9223372036854775807 : Int64)), .second, .val (.int (1 : Int32))] [(.ref a1)])) rfl (by rw [hml]; rfl) (Steps.refl _) (a := a1) (argsL := []) (rest := []) (lenOf pd_0 rfl) rfl (by show 2 * 0 + _ ≤ _; exact Nat.le_of_eq rfl) (hb hby d_prog_29_method_1_1) (fun _ _ => ⟨rfl, e0, (by decide : 0 + 0 ≤ _), (by decide : 0 + 0 ≤ _)⟩)
  dsimp only [Pt.U, Pt.locs, Pt.cells, Pt.slots] at X4 l4 y4 z4 st4 hQ4
  subst l4 y4 z4
  obtain ⟨rfl, N4q, e4⟩ := hQ4
  have N4 := Fr.app N0 N4q
  obtain ⟨T5, h5, X5, e5, W5, st5⟩ := putF X4 hx hZ hown (host := "") (Or.inl (hw _ (List.mem_of_getElem? (i := 21) rfl))) Via.refl e4 F_connection_a1 E_a1 (Or.inr ⟨(hw _ (List.mem_of_getElem? (i := 22) rfl)), rfl, hnm⟩) (hw _ (List.mem_of_getElem? (i := 8) rfl)) (ty := (.object "java/lang/Object")) (by decide) rfl rfl (g := (mkF m 6 #[.val (.ref a1), .val (.ref a2), .val (.long q3), .second, .val (.long (9223372036854775807 : Int64)), .second, .val (.int (1 : Int32))] [(.ref a2), (.ref a1)])) rfl rfl (hb hby d_prog_29_method_1_6)
  have N5 := Fr.snoc X5 N4 g_a1
  have Z5 : n0 ≤ h5.size := Nat.le_trans Z0 (Nat.le_of_eq W5.size.symm)
  have Fw5 := Fld.same W5 F_connection_a1
  have f6 : Exa Z h5 a1 "com/example/grantd/grantd/front/Places$Waiting" := (E_a1.wr W5)
  have f7 : Fld Z h5 a1 "com/example/grantd/grantd/front/Places$Waiting" "closableFrom" "J" (.long (0 : Int64)) := (F_closableFrom_a1.other W5 (Or.inr (slot_ne (Or.inr (hw _ (List.mem_of_getElem? (i := 24) rfl))) (Or.inr (hw _ (List.mem_of_getElem? (i := 22) rfl))) (by decide) (t := .long) (t' := (.object "java/lang/Object")) (by decide) (by decide))))
  obtain ⟨T8, h8, X8, e8, W8, st8⟩ := putF X5 hx hZ hown (host := "") (Or.inl (hw _ (List.mem_of_getElem? (i := 23) rfl))) Via.refl e5 f7 f6 (Or.inr ⟨(hw _ (List.mem_of_getElem? (i := 24) rfl)), rfl, hnm⟩) (hw _ (List.mem_of_getElem? (i := 8) rfl)) (ty := .long) (by decide) rfl rfl (g := (mkF m 11 #[.val (.ref a1), .val (.ref a2), .val (.long q3), .second, .val (.long (9223372036854775807 : Int64)), .second, .val (.int (1 : Int32))] [(.long q3), (.ref a1)])) rfl rfl (hb hby d_prog_29_method_1_11)
  have N8 := Fr.snoc X8 N5 g_a1
  have Z8 : n0 ≤ h8.size := Nat.le_trans Z5 (Nat.le_of_eq W8.size.symm)
  have Fw8 := Fld.same W8 f7
  have f9 : Exa Z h8 a1 "com/example/grantd/grantd/front/Places$Waiting" := (f6.wr W8)
  have f10 : Fld Z h8 a1 "com/example/grantd/grantd/front/Places$Waiting" "firstServed" "J" (.long (0 : Int64)) := ((F_firstServed_a1.other W5 (Or.inr (slot_ne (Or.inr (hw _ (List.mem_of_getElem? (i := 26) rfl))) (Or.inr (hw _ (List.mem_of_getElem? (i := 22) rfl))) (by decide) (t := .long) (t' := (.object "java/lang/Object")) (by decide) (by decide)))).other W8 (Or.inr (slot_ne (Or.inr (hw _ (List.mem_of_getElem? (i := 26) rfl))) (Or.inr (hw _ (List.mem_of_getElem? (i := 24) rfl))) (by decide) (t := .long) (t' := .long) (by decide) (by decide))))
  obtain ⟨T11, h11, X11, e11, W11, st11⟩ := putF X8 hx hZ hown (host := "") (Or.inl (hw _ (List.mem_of_getElem? (i := 25) rfl))) Via.refl e8 f10 f9 (Or.inr ⟨(hw _ (List.mem_of_getElem? (i := 26) rfl)), rfl, hnm⟩) (hw _ (List.mem_of_getElem? (i := 8) rfl)) (ty := .long) (by decide) rfl rfl (g := (mkF m 17 #[.val (.ref a1), .val (.ref a2), .val (.long q3), .second, .val (.long (9223372036854775807 : Int64)), .second, .val (.int (1 : Int32))] [(.long (9223372036854775807 : Int64)), (.ref a1)])) rfl rfl (hb hby d_prog_29_method_1_17)
  have N11 := Fr.snoc X11 N8 g_a1
  have Z11 : n0 ≤ h11.size := Nat.le_trans Z8 (Nat.le_of_eq W11.size.symm)
  have Fw11 := Fld.same W11 f10
  have f12 : Exa Z h11 a1 "com/example/grantd/grantd/front/Places$Waiting" := (f9.wr W11)
  have f13 : Fld Z h11 a1 "com/example/grantd/grantd/front/Places$Waiting" "holdsHead" "Z" (.int (0 : Int32)) := (((F_holdsHead_a1.other W5 (Or.inr (slot_ne (Or.inr (hw _ (List.mem_of_getElem? (i := 28) rfl))) (Or.inr (hw _ (List.mem_of_getElem? (i := 22) rfl))) (by decide) (t := .boolean) (t' := (.object "java/lang/Object")) (by decide) (by decide)))).other W8 (Or.inr (slot_ne (Or.inr (hw _ (List.mem_of_getElem? (i := 28) rfl))) (Or.inr (hw _ (List.mem_of_getElem? (i := 24) rfl))) (by decide) (t := .boolean) (t' := .long) (by decide) (by decide)))).other W11 (Or.inr (slot_ne (Or.inr (hw _ (List.mem_of_getElem? (i := 28) rfl))) (Or.inr (hw _ (List.mem_of_getElem? (i := 26) rfl))) (by decide) (t := .boolean) (t' := .long) (by decide) (by decide))))
  obtain ⟨T14, h14, X14, e14, W14, st14⟩ := putFN X11 hx hZ hown (hw _ (List.mem_of_getElem? (i := 27) rfl)) Via.refl e11 f13 f12 (Or.inr ⟨(hw _ (List.mem_of_getElem? (i := 28) rfl)), rfl, hnm⟩) (hw _ (List.mem_of_getElem? (i := 8) rfl)) (ty := .boolean) (v' := (.int (1 : Int32))) (by decide) rfl (by decide) (g := (mkF m 23 #[.val (.ref a1), .val (.ref a2), .val (.long q3), .second, .val (.long (9223372036854775807 : Int64)), .second, .val (.int (1 : Int32))] [(.int (1 : Int32)), (.ref a1)])) rfl rfl (hb hby d_prog_29_method_1_23)
  have N14 := Fr.snoc X14 N11 g_a1
  have Z14 : n0 ≤ h14.size := Nat.le_trans Z11 (Nat.le_of_eq W14.size.symm)
  have Fw14 := Fld.same W14 f13
  have pre15 : ∀ t, Steps p.tables e below (T14.setTop (mkF m 26 #[.val (.ref a1), .val (.ref a2), .val (.long q3), .second, .val (.long (9223372036854775807 : Int64)), .second, .val (.int (1 : Int32))] [])) t → Steps p.tables e below (s₁.setTop (entryFrame m #[(.ref a1), (.ref a2), (.long q3), (.long (9223372036854775807 : Int64)), (.int (1 : Int32))] 7)) t := fun t kk => pre0 t (by
    show Steps p.tables e below (s₁.setTop (mkF m 0 #[.val (.ref a1), .val (.ref a2), .val (.long q3), .second, .val (.long (9223372036854775807 : Int64)), .second, .val (.int (1 : Int32))] [])) _
    refine XS.aloadN X0.here hx rfl (hb hby d_prog_29_method_1_0) rfl rfl ?_
    show Steps p.tables e below (s₁.setTop (mkF m 1 #[.val (.ref a1), .val (.ref a2), .val (.long q3), .second, .val (.long (9223372036854775807 : Int64)), .second, .val (.int (1 : Int32))] [(.ref a1)])) _
    refine st4.trans ?_
    show Steps p.tables e below (T4.setTop (mkF m 4 #[.val (.ref a1), .val (.ref a2), .val (.long q3), .second, .val (.long (9223372036854775807 : Int64)), .second, .val (.int (1 : Int32))] [])) _
    refine XS.aloadN X4.here hx rfl (hb hby d_prog_29_method_1_4) rfl rfl ?_
    show Steps p.tables e below (T4.setTop (mkF m 5 #[.val (.ref a1), .val (.ref a2), .val (.long q3), .second, .val (.long (9223372036854775807 : Int64)), .second, .val (.int (1 : Int32))] [(.ref a1)])) _
    refine XS.aloadN X4.here hx rfl (hb hby d_prog_29_method_1_5) rfl rfl ?_
    show Steps p.tables e below (T4.setTop (mkF m 6 #[.val (.ref a1), .val (.ref a2), .val (.long q3), .second, .val (.long (9223372036854775807 : Int64)), .second, .val (.int (1 : Int32))] [(.ref a2), (.ref a1)])) _
    refine st5 _ ?_
    show Steps p.tables e below (T5.setTop (mkF m 9 #[.val (.ref a1), .val (.ref a2), .val (.long q3), .second, .val (.long (9223372036854775807 : Int64)), .second, .val (.int (1 : Int32))] [])) _
    refine XS.aloadN X5.here hx rfl (hb hby d_prog_29_method_1_9) rfl rfl ?_
    show Steps p.tables e below (T5.setTop (mkF m 10 #[.val (.ref a1), .val (.ref a2), .val (.long q3), .second, .val (.long (9223372036854775807 : Int64)), .second, .val (.int (1 : Int32))] [(.ref a1)])) _
    refine XS.lloadN X5.here hx rfl (hb hby d_prog_29_method_1_10) rfl ?_
    show Steps p.tables e below (T5.setTop (mkF m 11 #[.val (.ref a1), .val (.ref a2), .val (.long q3), .second, .val (.long (9223372036854775807 : Int64)), .second, .val (.int (1 : Int32))] [(.long q3), (.ref a1)])) _
    refine st8 _ ?_
    show Steps p.tables e below (T8.setTop (mkF m 14 #[.val (.ref a1), .val (.ref a2), .val (.long q3), .second, .val (.long (9223372036854775807 : Int64)), .second, .val (.int (1 : Int32))] [])) _
    refine XS.aloadN X8.here hx rfl (hb hby d_prog_29_method_1_14) rfl rfl ?_
    show Steps p.tables e below (T8.setTop (mkF m 15 #[.val (.ref a1), .val (.ref a2), .val (.long q3), .second, .val (.long (9223372036854775807 : Int64)), .second, .val (.int (1 : Int32))] [(.ref a1)])) _
    refine XS.lload X8.here hx rfl (hb hby d_prog_29_method_1_15) rfl ?_
    show Steps p.tables e below (T8.setTop (mkF m 17 #[.val (.ref a1), .val (.ref a2), .val (.long q3), .second, .val (.long (9223372036854775807 : Int64)), .second, .val (.int (1 : Int32))] [(.long (9223372036854775807 : Int64)), (.ref a1)])) _
    refine st11 _ ?_
    show Steps p.tables e below (T11.setTop (mkF m 20 #[.val (.ref a1), .val (.ref a2), .val (.long q3), .second, .val (.long (9223372036854775807 : Int64)), .second, .val (.int (1 : Int32))] [])) _
    refine XS.aloadN X11.here hx rfl (hb hby d_prog_29_method_1_20) rfl rfl ?_
    show Steps p.tables e below (T11.setTop (mkF m 21 #[.val (.ref a1), .val (.ref a2), .val (.long q3), .second, .val (.long (9223372036854775807 : Int64)), .second, .val (.int (1 : Int32))] [(.ref a1)])) _
    refine XS.iload X11.here hx rfl (hb hby d_prog_29_method_1_21) rfl ?_
    show Steps p.tables e below (T11.setTop (mkF m 23 #[.val (.ref a1), .val (.ref a2), .val (.long q3), .second, .val (.long (9223372036854775807 : Int64)), .second, .val (.int (1 : Int32))] [(.int (1 : Int32)), (.ref a1)])) _
    refine st14 _ ?_
    exact kk)
  obtain ⟨fs, hr, hrun, hended, hW, hsame⟩ := X14.leave (v := none) (fun _ => rfl)
  refine ⟨_, _, pre15 _ ?_, hrun, hended, _, _, rfl, ?_, ⟨_, rfl⟩, hW, hsame.mono (by decide) (by decide)⟩
  · exact X14.returnOut hx Bd.returns (hb hby d_prog_29_method_1_26) hr
  · show Q17 Z a1 a2 q3 h0 n0 _ T14.heap _
    rw [e14]
    exact ⟨rfl, N14, h5, W5, h8, W8, h11, W11, h14, W14, rfl⟩
theorem ef_11 (m : MethodId) (x0 : Addr) (x2 : Int64) : entryFrame m #[(.ref x0), .null, (.long x2), (.long (9223372036854775807 : Int64)), (.int (1 : Int32))] 7 = mkF m 0 #[.val (.ref x0), .val .null, .val (.long x2), .second, .val (.long (9223372036854775807 : Int64)), .second, .val (.int (1 : Int32))] [] := by first | (simp [entryFrame, mkF, argsToLocals, Value.category, maxLocals]; done) | rfl
def Q18 (Z : State) (a1 : Addr) (q2 : Int64) (h0 : Heap) (n0 : Nat) (v : Option Value) (h : Heap) (L : List Loc) : Prop := v = none ∧ Fr n0 L ∧ ∃ h4 : Heap, Wr h0 h4 a1 (Jvm.RoadKit.slotOf Z "com/example/grantd/grantd/front/Places$Waiting" "connection" "Ljava/lang/Object;") .null ∧ ∃ h7 : Heap, Wr h4 h7 a1 (Jvm.RoadKit.slotOf Z "com/example/grantd/grantd/front/Places$Waiting" "closableFrom" "J") (.long q2) ∧ ∃ h10 : Heap, Wr h7 h10 a1 (Jvm.RoadKit.slotOf Z "com/example/grantd/grantd/front/Places$Waiting" "firstServed" "J") (.long (9223372036854775807 : Int64)) ∧ ∃ h13 : Heap, Wr h10 h13 a1 (Jvm.RoadKit.slotOf Z "com/example/grantd/grantd/front/Places$Waiting" "holdsHead" "Z") (.int (1 : Int32)) ∧ h = h13
set_option maxRecDepth 65536 in
set_option maxHeartbeats 40000000 in
theorem rm18 (l : Launch) (Z : State) (a0 : Array Value) (hw : ∀ d ∈ tables_1, d.before a0 Z = true) (ws : List Jvm.Cond) (a1 : Addr) (q2 : Int64) (h0 : Heap) (n0 : Nat) (Z0 : n0 ≤ h0.size) (E_a1 : Exa Z h0 a1 "com/example/grantd/grantd/front/Places$Waiting") (F_connection_a1 : Fld Z h0 a1 "com/example/grantd/grantd/front/Places$Waiting" "connection" "Ljava/lang/Object;" .null) (g_a1 : n0 ≤ a1) (F_closableFrom_a1 : Fld Z h0 a1 "com/example/grantd/grantd/front/Places$Waiting" "closableFrom" "J" (.long (0 : Int64))) (F_firstServed_a1 : Fld Z h0 a1 "com/example/grantd/grantd/front/Places$Waiting" "firstServed" "J" (.long (0 : Int64))) (F_holdsHead_a1 : Fld Z h0 a1 "com/example/grantd/grantd/front/Places$Waiting" "holdsHead" "Z" (.int (0 : Int32))) :
    MetFree l (⟨"com/example/grantd/grantd/front/Places$Waiting", "<init>", "(Ljava/lang/Object;JJZ)V"⟩ : MethodName) (head1 (Jvm.Cond.code (⟨"com/example/grantd/grantd/front/Places$Waiting", "<init>", "(Ljava/lang/Object;JJZ)V"⟩ : MethodName) prog_29_method_1_code 7 none :: ws) ({ frames := 2, cells := 0, slots := 0, locals := 24 } : Room)) (fun a U => a = #[(.ref a1), .null, (.long q2), (.long (9223372036854775807 : Int64)), (.int (1 : Int32))] ∧ Z.Warmed39 U.vm ∧ U.heap = h0) (fun _ _ _ _ _ => True) (fun _ U o U' => ∃ v L, o = .returned v ∧ Q18 Z a1 q2 h0 n0 v U'.heap L ∧ FrameEnd U o U' L ({ frames := 2, cells := 0, slots := 0, locals := 24 } : Room).cells ({ frames := 2, cells := 0, slots := 0, locals := 24 } : Room).slots) := by
  refine MetFree.of_bodySF (plainFor_of_name pn_4) hisR ?_
  intro p e s m args below meth c s₁ Bd hml0 hP hK
  obtain ⟨rfl, hZ, hh⟩ := hP
  have hx := Bd.exec
  have hby := Bd.bytes
  have hml : c.maxLocals = 7 := hml0
  have hown : s.vm.findClass "com/example/grantd/grantd/front/Places$Waiting" = some m.cls := findClass_of_methodNamed Bd.named
  have hnm := (name_of_methodNamed Bd.named Bd.method).1
  have X0 : Stand p l e ({ frames := 2, cells := 0, slots := 0, locals := 24 } : Room) s m #[(.ref a1), .null, (.long q2), (.long (9223372036854775807 : Int64)), (.int (1 : Int32))] below meth c s₁ [] 0 0 := Stand.of_body Bd
  have e0 : s₁.heap = h0 := by rw [← hh, Bd.state]; rfl
  have N0 := Fr.nil n0
  have pre0 : ∀ t, Steps p.tables e below (s₁.setTop (mkF m 0 #[.val (.ref a1), .val .null, .val (.long q2), .second, .val (.long (9223372036854775807 : Int64)), .second, .val (.int (1 : Int32))] [])) t → Steps p.tables e below (s₁.setTop (entryFrame m #[(.ref a1), .null, (.long q2), (.long (9223372036854775807 : Int64)), (.int (1 : Int32))] 7)) t := fun t k => castTop (ef_11 m a1 (q2)) k
  obtain ⟨_, _, ⟨T3, L3, k3, n3⟩, -, X3, ⟨Lc3, hQ3, l3, y3, z3⟩, st3⟩ := X0.specialBack hx (y := (⟨"java/lang/Record", "<init>", "()V"⟩ : MethodName)) rfl hown (mvT hZ (hw _ (List.mem_of_getElem? (i := 13) rfl))) (mvT hZ (hw _ (List.mem_of_getElem? (i := 14) rfl))) (mvT hZ (hw _ (List.mem_of_getElem? (i := 17) rfl))) (by decide) (backOf (W := 0) (rm4 l Z a0 hw [] a1 h0 n0 Z0 ) hZ (hw _ (List.mem_of_getElem? (i := 17) rfl)) (hw _ (List.mem_of_getElem? (i := 16) rfl)) (by decide) (by decide)) (g := (mkF m 1 #[.val (.ref a1), .val .null, .val (.long q2), .second, .val (.long (9223372036854775807 : Int64)), .second, .val (.int (1 : Int32))] [(.ref a1)])) rfl (by rw [hml]; rfl) (Steps.refl _) (a := a1) (argsL := []) (rest := []) (lenOf pd_0 rfl) rfl (by show 2 * 0 + _ ≤ _; exact Nat.le_of_eq rfl) (hb hby d_prog_29_method_1_1) (fun _ _ => ⟨rfl, e0, (by decide : 0 + 0 ≤ _), (by decide : 0 + 0 ≤ _)⟩)
  dsimp only [Pt.U, Pt.locs, Pt.cells, Pt.slots] at X3 l3 y3 z3 st3 hQ3
  subst l3 y3 z3
  obtain ⟨rfl, N3q, e3⟩ := hQ3
  have N3 := Fr.app N0 N3q
  obtain ⟨T4, h4, X4, e4, W4, st4⟩ := putF X3 hx hZ hown (host := "") (Or.inl (hw _ (List.mem_of_getElem? (i := 21) rfl))) Via.refl e3 F_connection_a1 E_a1 (Or.inr ⟨(hw _ (List.mem_of_getElem? (i := 22) rfl)), rfl, hnm⟩) (hw _ (List.mem_of_getElem? (i := 8) rfl)) (ty := (.object "java/lang/Object")) (by decide) rfl rfl (g := (mkF m 6 #[.val (.ref a1), .val .null, .val (.long q2), .second, .val (.long (9223372036854775807 : Int64)), .second, .val (.int (1 : Int32))] [.null, (.ref a1)])) rfl rfl (hb hby d_prog_29_method_1_6)
  have N4 := Fr.snoc X4 N3 g_a1
  have Z4 : n0 ≤ h4.size := Nat.le_trans Z0 (Nat.le_of_eq W4.size.symm)
  have Fw4 := Fld.same W4 F_connection_a1
  have f5 : Exa Z h4 a1 "com/example/grantd/grantd/front/Places$Waiting" := (E_a1.wr W4)
  have f6 : Fld Z h4 a1 "com/example/grantd/grantd/front/Places$Waiting" "closableFrom" "J" (.long (0 : Int64)) := (F_closableFrom_a1.other W4 (Or.inr (slot_ne (Or.inr (hw _ (List.mem_of_getElem? (i := 24) rfl))) (Or.inr (hw _ (List.mem_of_getElem? (i := 22) rfl))) (by decide) (t := .long) (t' := (.object "java/lang/Object")) (by decide) (by decide))))
  obtain ⟨T7, h7, X7, e7, W7, st7⟩ := putF X4 hx hZ hown (host := "") (Or.inl (hw _ (List.mem_of_getElem? (i := 23) rfl))) Via.refl e4 f6 f5 (Or.inr ⟨(hw _ (List.mem_of_getElem? (i := 24) rfl)), rfl, hnm⟩) (hw _ (List.mem_of_getElem? (i := 8) rfl)) (ty := .long) (by decide) rfl rfl (g := (mkF m 11 #[.val (.ref a1), .val .null, .val (.long q2), .second, .val (.long (9223372036854775807 : Int64)), .second, .val (.int (1 : Int32))] [(.long q2), (.ref a1)])) rfl rfl (hb hby d_prog_29_method_1_11)
  have N7 := Fr.snoc X7 N4 g_a1
  have Z7 : n0 ≤ h7.size := Nat.le_trans Z4 (Nat.le_of_eq W7.size.symm)
  have Fw7 := Fld.same W7 f6
  have f8 : Exa Z h7 a1 "com/example/grantd/grantd/front/Places$Waiting" := (f5.wr W7)
  have f9 : Fld Z h7 a1 "com/example/grantd/grantd/front/Places$Waiting" "firstServed" "J" (.long (0 : Int64)) := ((F_firstServed_a1.other W4 (Or.inr (slot_ne (Or.inr (hw _ (List.mem_of_getElem? (i := 26) rfl))) (Or.inr (hw _ (List.mem_of_getElem? (i := 22) rfl))) (by decide) (t := .long) (t' := (.object "java/lang/Object")) (by decide) (by decide)))).other W7 (Or.inr (slot_ne (Or.inr (hw _ (List.mem_of_getElem? (i := 26) rfl))) (Or.inr (hw _ (List.mem_of_getElem? (i := 24) rfl))) (by decide) (t := .long) (t' := .long) (by decide) (by decide))))
  obtain ⟨T10, h10, X10, e10, W10, st10⟩ := putF X7 hx hZ hown (host := "") (Or.inl (hw _ (List.mem_of_getElem? (i := 25) rfl))) Via.refl e7 f9 f8 (Or.inr ⟨(hw _ (List.mem_of_getElem? (i := 26) rfl)), rfl, hnm⟩) (hw _ (List.mem_of_getElem? (i := 8) rfl)) (ty := .long) (by decide) rfl rfl (g := (mkF m 17 #[.val (.ref a1), .val .null, .val (.long q2), .second, .val (.long (9223372036854775807 : Int64)), .second, .val (.int (1 : Int32))] [(.long (9223372036854775807 : Int64)), (.ref a1)])) rfl rfl (hb hby d_prog_29_method_1_17)
  have N10 := Fr.snoc X10 N7 g_a1
  have Z10 : n0 ≤ h10.size := Nat.le_trans Z7 (Nat.le_of_eq W10.size.symm)
  have Fw10 := Fld.same W10 f9
  have f11 : Exa Z h10 a1 "com/example/grantd/grantd/front/Places$Waiting" := (f8.wr W10)
  have f12 : Fld Z h10 a1 "com/example/grantd/grantd/front/Places$Waiting" "holdsHead" "Z" (.int (0 : Int32)) := (((F_holdsHead_a1.other W4 (Or.inr (slot_ne (Or.inr (hw _ (List.mem_of_getElem? (i := 28) rfl))) (Or.inr (hw _ (List.mem_of_getElem? (i := 22) rfl))) (by decide) (t := .boolean) (t' := (.object "java/lang/Object")) (by decide) (by decide)))).other W7 (Or.inr (slot_ne (Or.inr (hw _ (List.mem_of_getElem? (i := 28) rfl))) (Or.inr (hw _ (List.mem_of_getElem? (i := 24) rfl))) (by decide) (t := .boolean) (t' := .long) (by decide) (by decide)))).other W10 (Or.inr (slot_ne (Or.inr (hw _ (List.mem_of_getElem? (i := 28) rfl))) (Or.inr (hw _ (List.mem_of_getElem? (i := 26) rfl))) (by decide) (t := .boolean) (t' := .long) (by decide) (by decide))))
  obtain ⟨T13, h13, X13, e13, W13, st13⟩ := putFN X10 hx hZ hown (hw _ (List.mem_of_getElem? (i := 27) rfl)) Via.refl e10 f12 f11 (Or.inr ⟨(hw _ (List.mem_of_getElem? (i := 28) rfl)), rfl, hnm⟩) (hw _ (List.mem_of_getElem? (i := 8) rfl)) (ty := .boolean) (v' := (.int (1 : Int32))) (by decide) rfl (by decide) (g := (mkF m 23 #[.val (.ref a1), .val .null, .val (.long q2), .second, .val (.long (9223372036854775807 : Int64)), .second, .val (.int (1 : Int32))] [(.int (1 : Int32)), (.ref a1)])) rfl rfl (hb hby d_prog_29_method_1_23)
  have N13 := Fr.snoc X13 N10 g_a1
  have Z13 : n0 ≤ h13.size := Nat.le_trans Z10 (Nat.le_of_eq W13.size.symm)
  have Fw13 := Fld.same W13 f12
  have pre14 : ∀ t, Steps p.tables e below (T13.setTop (mkF m 26 #[.val (.ref a1), .val .null, .val (.long q2), .second, .val (.long (9223372036854775807 : Int64)), .second, .val (.int (1 : Int32))] [])) t → Steps p.tables e below (s₁.setTop (entryFrame m #[(.ref a1), .null, (.long q2), (.long (9223372036854775807 : Int64)), (.int (1 : Int32))] 7)) t := fun t kk => pre0 t (by
    show Steps p.tables e below (s₁.setTop (mkF m 0 #[.val (.ref a1), .val .null, .val (.long q2), .second, .val (.long (9223372036854775807 : Int64)), .second, .val (.int (1 : Int32))] [])) _
    refine XS.aloadN X0.here hx rfl (hb hby d_prog_29_method_1_0) rfl rfl ?_
    show Steps p.tables e below (s₁.setTop (mkF m 1 #[.val (.ref a1), .val .null, .val (.long q2), .second, .val (.long (9223372036854775807 : Int64)), .second, .val (.int (1 : Int32))] [(.ref a1)])) _
    refine st3.trans ?_
    show Steps p.tables e below (T3.setTop (mkF m 4 #[.val (.ref a1), .val .null, .val (.long q2), .second, .val (.long (9223372036854775807 : Int64)), .second, .val (.int (1 : Int32))] [])) _
    refine XS.aloadN X3.here hx rfl (hb hby d_prog_29_method_1_4) rfl rfl ?_
    show Steps p.tables e below (T3.setTop (mkF m 5 #[.val (.ref a1), .val .null, .val (.long q2), .second, .val (.long (9223372036854775807 : Int64)), .second, .val (.int (1 : Int32))] [(.ref a1)])) _
    refine XS.aloadN X3.here hx rfl (hb hby d_prog_29_method_1_5) rfl rfl ?_
    show Steps p.tables e below (T3.setTop (mkF m 6 #[.val (.ref a1), .val .null, .val (.long q2), .second, .val (.long (9223372036854775807 : Int64)), .second, .val (.int (1 : Int32))] [.null, (.ref a1)])) _
    refine st4 _ ?_
    show Steps p.tables e below (T4.setTop (mkF m 9 #[.val (.ref a1), .val .null, .val (.long q2), .second, .val (.long (9223372036854775807 : Int64)), .second, .val (.int (1 : Int32))] [])) _
    refine XS.aloadN X4.here hx rfl (hb hby d_prog_29_method_1_9) rfl rfl ?_
    show Steps p.tables e below (T4.setTop (mkF m 10 #[.val (.ref a1), .val .null, .val (.long q2), .second, .val (.long (9223372036854775807 : Int64)), .second, .val (.int (1 : Int32))] [(.ref a1)])) _
    refine XS.lloadN X4.here hx rfl (hb hby d_prog_29_method_1_10) rfl ?_
    show Steps p.tables e below (T4.setTop (mkF m 11 #[.val (.ref a1), .val .null, .val (.long q2), .second, .val (.long (9223372036854775807 : Int64)), .second, .val (.int (1 : Int32))] [(.long q2), (.ref a1)])) _
    refine st7 _ ?_
    show Steps p.tables e below (T7.setTop (mkF m 14 #[.val (.ref a1), .val .null, .val (.long q2), .second, .val (.long (9223372036854775807 : Int64)), .second, .val (.int (1 : Int32))] [])) _
    refine XS.aloadN X7.here hx rfl (hb hby d_prog_29_method_1_14) rfl rfl ?_
    show Steps p.tables e below (T7.setTop (mkF m 15 #[.val (.ref a1), .val .null, .val (.long q2), .second, .val (.long (9223372036854775807 : Int64)), .second, .val (.int (1 : Int32))] [(.ref a1)])) _
    refine XS.lload X7.here hx rfl (hb hby d_prog_29_method_1_15) rfl ?_
    show Steps p.tables e below (T7.setTop (mkF m 17 #[.val (.ref a1), .val .null, .val (.long q2), .second, .val (.long (9223372036854775807 : Int64)), .second, .val (.int (1 : Int32))] [(.long (9223372036854775807 : Int64)), (.ref a1)])) _
    refine st10 _ ?_
    show Steps p.tables e below (T10.setTop (mkF m 20 #[.val (.ref a1), .val .null, .val (.long q2), .second, .val (.long (9223372036854775807 : Int64)), .second, .val (.int (1 : Int32))] [])) _
    refine XS.aloadN X10.here hx rfl (hb hby d_prog_29_method_1_20) rfl rfl ?_
    show Steps p.tables e below (T10.setTop (mkF m 21 #[.val (.ref a1), .val .null, .val (.long q2), .second, .val (.long (9223372036854775807 : Int64)), .second, .val (.int (1 : Int32))] [(.ref a1)])) _
    refine XS.iload X10.here hx rfl (hb hby d_prog_29_method_1_21) rfl ?_
    show Steps p.tables e below (T10.setTop (mkF m 23 #[.val (.ref a1), .val .null, .val (.long q2), .second, .val (.long (9223372036854775807 : Int64)), .second, .val (.int (1 : Int32))] [(.int (1 : Int32)), (.ref a1)])) _
    refine st13 _ ?_
    exact kk)
  obtain ⟨fs, hr, hrun, hended, hW, hsame⟩ := X13.leave (v := none) (fun _ => rfl)
  refine ⟨_, _, pre14 _ ?_, hrun, hended, _, _, rfl, ?_, ⟨_, rfl⟩, hW, hsame.mono (by decide) (by decide)⟩
  · exact X13.returnOut hx Bd.returns (hb hby d_prog_29_method_1_26) hr
  · show Q18 Z a1 q2 h0 n0 _ T13.heap _
    rw [e13]
    exact ⟨rfl, N13, h4, W4, h7, W7, h10, W10, h13, W13, rfl⟩
def Q0 (Z : State) (h0 : Heap) (n0 : Nat) (v : Option Value) (h : Heap) (L : List Loc) : Prop := v = some (.int (1 : Int32)) ∧ Fr n0 L
set_option maxRecDepth 65536 in
set_option maxHeartbeats 400000000 in
theorem rm0 (l : Launch) (Z : State) (a0 : Array Value) (hw : ∀ d ∈ tables_1, d.before a0 Z = true) (ws : List Jvm.Cond) (x0 : Int64) (x1 : Int64) (x2 : Int32) (w_cache : Addr) (k_cache : ClassId) (vsC : List Value) (h0 : Heap) (n0 : Nat) (Z0 : n0 ≤ h0.size) (S_high : Sta Z h0 "java/lang/Integer$IntegerCache" "high" "I" (.int (127 : Int32))) (S_cache : Sta Z h0 "java/lang/Integer$IntegerCache" "cache" "[Ljava/lang/Integer;" (.ref w_cache)) (V_cache : Arv Z h0 w_cache k_cache (.object "java/lang/Integer") (256 : Int32) vsC .null) (X_cache : OwnBoxes Z h0 vsC) :
    MetFree l x (head1 (Jvm.Cond.code x code maxLocals ret :: ws) room_1) (fun a U => a = #[(.long x0), (.long x1), (.int x2)] ∧ Z.Warmed39 U.vm ∧ U.heap = h0) (fun _ _ _ _ _ => True) (fun _ U o U' => ∃ v L, o = .returned v ∧ Q0 Z h0 n0 v U'.heap L ∧ FrameEnd U o U' L room_1.cells room_1.slots) := by
  refine MetFree.of_bodySF (plainFor_of_name pn_0) hisR ?_
  intro p e s m args below meth c s₁ Bd hml0 hP hK
  obtain ⟨rfl, hZ, hh⟩ := hP
  have hx := Bd.exec
  have hby := Bd.bytes
  have hml : c.maxLocals = 11 := hml0
  have hown : s.vm.findClass "com/example/grantd/grantd/front/WaitingIsBetweenRequestsPinLaw" = some m.cls := findClass_of_methodNamed Bd.named
  have hnm := (name_of_methodNamed Bd.named Bd.method).1
  have X0 : Stand p l e room_1 s m #[(.long x0), (.long x1), (.int x2)] below meth c s₁ [] 0 0 := Stand.of_body Bd
  have e0 : s₁.heap = h0 := by rw [← hh, Bd.state]; rfl
  have N0 := Fr.nil n0
  have pre0 : ∀ t, Steps p.tables e below (s₁.setTop (mkF m 0 #[.val (.long x0), .second, .val (.long x1), .second, .val (.int x2), .unset, .unset, .unset, .unset, .unset, .unset] [])) t → Steps p.tables e below (s₁.setTop (entryFrame m #[(.long x0), (.long x1), (.int x2)] maxLocals)) t := fun t k => castTop (ef_0 m (x0) (x1) (x2)) k
  have pre1 : ∀ t, Steps p.tables e below (s₁.setTop (mkF m 4 #[.val (.long x0), .second, .val (.long x1), .second, .val (.int x2), .unset, .unset, .unset, .unset, .unset, .unset] [(.int (x2 &&& (1 : Int32)))])) t → Steps p.tables e below (s₁.setTop (entryFrame m #[(.long x0), (.long x1), (.int x2)] maxLocals)) t := fun t kk => pre0 t (by
    show Steps p.tables e below (s₁.setTop (mkF m 0 #[.val (.long x0), .second, .val (.long x1), .second, .val (.int x2), .unset, .unset, .unset, .unset, .unset, .unset] [])) _
    refine XS.iload X0.here hx rfl (hb hby at_0) rfl ?_
    show Steps p.tables e below (s₁.setTop (mkF m 2 #[.val (.long x0), .second, .val (.long x1), .second, .val (.int x2), .unset, .unset, .unset, .unset, .unset, .unset] [(.int x2)])) _
    refine XS.iconst X0.here hx rfl (hb hby at_2) ?_
    show Steps p.tables e below (s₁.setTop (mkF m 3 #[.val (.long x0), .second, .val (.long x1), .second, .val (.int x2), .unset, .unset, .unset, .unset, .unset, .unset] [(.int (1 : Int32)), (.int x2)])) _
    refine XS.iand X0.here hx rfl (hb hby at_3) rfl ?_
    exact kk)
  by_cases hc2 : (x2 &&& (1 : Int32)) = (0 : Int32)
  ·
    have pre3 : ∀ t, Steps p.tables e below (s₁.setTop (mkF m 18 #[.val (.long x0), .second, .val (.long x1), .second, .val (.int x2), .val (.int (0 : Int32)), .unset, .unset, .unset, .unset, .unset] [(.int (x2 &&& (2 : Int32)))])) t → Steps p.tables e below (s₁.setTop (entryFrame m #[(.long x0), (.long x1), (.int x2)] maxLocals)) t := fun t kk => pre1 t (by
      show Steps p.tables e below (s₁.setTop (mkF m 4 #[.val (.long x0), .second, .val (.long x1), .second, .val (.int x2), .unset, .unset, .unset, .unset, .unset, .unset] [(.int (x2 &&& (1 : Int32)))])) _
      refine XS.ifYes X0.here hx rfl (pc0 := 4) (pc' := 11) rfl (hb hby at_4) rfl ((if0 _ _).trans (teq (hc2 : (x2 &&& (1 : Int32)) = (0 : Int32))).1) (by decide) (by decide) ?_
      show Steps p.tables e below (s₁.setTop (mkF m 11 #[.val (.long x0), .second, .val (.long x1), .second, .val (.int x2), .unset, .unset, .unset, .unset, .unset, .unset] [])) _
      refine XS.iconst X0.here hx rfl (hb hby at_11) ?_
      show Steps p.tables e below (s₁.setTop (mkF m 12 #[.val (.long x0), .second, .val (.long x1), .second, .val (.int x2), .unset, .unset, .unset, .unset, .unset, .unset] [(.int (0 : Int32))])) _
      refine XS.istore X0.here hx rfl (hb hby at_12) rfl (l' := #[.val (.long x0), .second, .val (.long x1), .second, .val (.int x2), .val (.int (0 : Int32)), .unset, .unset, .unset, .unset, .unset]) rfl ?_
      show Steps p.tables e below (s₁.setTop (mkF m 14 #[.val (.long x0), .second, .val (.long x1), .second, .val (.int x2), .val (.int (0 : Int32)), .unset, .unset, .unset, .unset, .unset] [])) _
      refine XS.iload X0.here hx rfl (hb hby at_14) rfl ?_
      show Steps p.tables e below (s₁.setTop (mkF m 16 #[.val (.long x0), .second, .val (.long x1), .second, .val (.int x2), .val (.int (0 : Int32)), .unset, .unset, .unset, .unset, .unset] [(.int x2)])) _
      refine XS.iconst X0.here hx rfl (hb hby at_16) ?_
      show Steps p.tables e below (s₁.setTop (mkF m 17 #[.val (.long x0), .second, .val (.long x1), .second, .val (.int x2), .val (.int (0 : Int32)), .unset, .unset, .unset, .unset, .unset] [(.int (2 : Int32)), (.int x2)])) _
      refine XS.iand X0.here hx rfl (hb hby at_17) rfl ?_
      exact kk)
    by_cases hc4 : (x2 &&& (2 : Int32)) = (0 : Int32)
    ·
      have pre5 : ∀ t, Steps p.tables e below (s₁.setTop (mkF m 34 #[.val (.long x0), .second, .val (.long x1), .second, .val (.int x2), .val (.int (0 : Int32)), .val (.long x1), .second, .unset, .unset, .unset] [(.int (x2 &&& (4 : Int32)))])) t → Steps p.tables e below (s₁.setTop (entryFrame m #[(.long x0), (.long x1), (.int x2)] maxLocals)) t := fun t kk => pre3 t (by
        show Steps p.tables e below (s₁.setTop (mkF m 18 #[.val (.long x0), .second, .val (.long x1), .second, .val (.int x2), .val (.int (0 : Int32)), .unset, .unset, .unset, .unset, .unset] [(.int (x2 &&& (2 : Int32)))])) _
        refine XS.ifYes X0.here hx rfl (pc0 := 18) (pc' := 27) rfl (hb hby at_18) rfl ((if0 _ _).trans (teq (hc4 : (x2 &&& (2 : Int32)) = (0 : Int32))).1) (by decide) (by decide) ?_
        show Steps p.tables e below (s₁.setTop (mkF m 27 #[.val (.long x0), .second, .val (.long x1), .second, .val (.int x2), .val (.int (0 : Int32)), .unset, .unset, .unset, .unset, .unset] [])) _
        refine XS.lloadN X0.here hx rfl (hb hby at_27) rfl ?_
        show Steps p.tables e below (s₁.setTop (mkF m 28 #[.val (.long x0), .second, .val (.long x1), .second, .val (.int x2), .val (.int (0 : Int32)), .unset, .unset, .unset, .unset, .unset] [(.long x1)])) _
        refine XS.lstore X0.here hx rfl (hb hby at_28) rfl (l' := #[.val (.long x0), .second, .val (.long x1), .second, .val (.int x2), .val (.int (0 : Int32)), .val (.long x1), .second, .unset, .unset, .unset]) rfl ?_
        show Steps p.tables e below (s₁.setTop (mkF m 30 #[.val (.long x0), .second, .val (.long x1), .second, .val (.int x2), .val (.int (0 : Int32)), .val (.long x1), .second, .unset, .unset, .unset] [])) _
        refine XS.iload X0.here hx rfl (hb hby at_30) rfl ?_
        show Steps p.tables e below (s₁.setTop (mkF m 32 #[.val (.long x0), .second, .val (.long x1), .second, .val (.int x2), .val (.int (0 : Int32)), .val (.long x1), .second, .unset, .unset, .unset] [(.int x2)])) _
        refine XS.iconst X0.here hx rfl (hb hby at_32) ?_
        show Steps p.tables e below (s₁.setTop (mkF m 33 #[.val (.long x0), .second, .val (.long x1), .second, .val (.int x2), .val (.int (0 : Int32)), .val (.long x1), .second, .unset, .unset, .unset] [(.int (4 : Int32)), (.int x2)])) _
        refine XS.iand X0.here hx rfl (hb hby at_33) rfl ?_
        exact kk)
      by_cases hc6 : (x2 &&& (4 : Int32)) = (0 : Int32)
      ·
        have pre7 : ∀ t, Steps p.tables e below (s₁.setTop (mkF m 43 #[.val (.long x0), .second, .val (.long x1), .second, .val (.int x2), .val (.int (0 : Int32)), .val (.long x1), .second, .unset, .unset, .unset] [(.int x2)])) t → Steps p.tables e below (s₁.setTop (entryFrame m #[(.long x0), (.long x1), (.int x2)] maxLocals)) t := fun t kk => pre5 t (by
          show Steps p.tables e below (s₁.setTop (mkF m 34 #[.val (.long x0), .second, .val (.long x1), .second, .val (.int x2), .val (.int (0 : Int32)), .val (.long x1), .second, .unset, .unset, .unset] [(.int (x2 &&& (4 : Int32)))])) _
          refine XS.ifYes X0.here hx rfl (pc0 := 34) (pc' := 41) rfl (hb hby at_34) rfl ((if0 _ _).trans (teq (hc6 : (x2 &&& (4 : Int32)) = (0 : Int32))).1) (by decide) (by decide) ?_
          show Steps p.tables e below (s₁.setTop (mkF m 41 #[.val (.long x0), .second, .val (.long x1), .second, .val (.int x2), .val (.int (0 : Int32)), .val (.long x1), .second, .unset, .unset, .unset] [])) _
          refine XS.iload X0.here hx rfl (hb hby at_41) rfl ?_
          exact kk)
        by_cases hc8 : x2 < (-128 : Int32)
        ·
          obtain ⟨_, _, ⟨T9, L9, k9, n9⟩, -, X9, ⟨Lc9, hQ9, l9, y9, z9⟩, st9⟩ := Jvm.LawKit.callS X0 hx (y := (⟨"java/lang/Integer", "valueOf", "(I)Ljava/lang/Integer;"⟩ : MethodName)) hown (mvT hZ (hw _ (List.mem_of_getElem? (i := 0) rfl))) (mvT hZ (hw _ (List.mem_of_getElem? (i := 1) rfl))) (mvT hZ (hw _ (List.mem_of_getElem? (i := 2) rfl))) (mvT hZ (hw _ (List.mem_of_getElem? (i := 3) rfl))) (by decide) (backOf (W := 0) (rm3 l Z a0 hw [] x2 h0 n0 Z0 hc8) hZ (hw _ (List.mem_of_getElem? (i := 3) rfl)) (hw _ (List.mem_of_getElem? (i := 2) rfl)) (by decide) (by decide)) (g := (mkF m 43 #[.val (.long x0), .second, .val (.long x1), .second, .val (.int x2), .val (.int (0 : Int32)), .val (.long x1), .second, .unset, .unset, .unset] [(.int x2)])) rfl (by rw [hml]; rfl) (argsL := [(.int x2)]) (rest := []) (lenOf pd_2 rfl) rfl (by show 2 * 0 + _ ≤ _; exact Nat.le_of_eq rfl) (hb hby at_43) (fun _ _ => ⟨rfl, e0, (by decide : 0 + 1 ≤ _), (by decide : 0 + 1 ≤ _)⟩)
          dsimp only [Pt.U, Pt.locs, Pt.cells, Pt.slots] at X9 l9 y9 z9 st9 hQ9
          subst l9 y9 z9
          obtain ⟨br9, rfl, N9q, h10, b10, g10, E10, A10, F10_value, h11, W11, e9, rfl⟩ := hQ9
          have N9 := Fr.app N0 N9q
          have G10 : n0 ≤ b10 := (Nat.le_trans Z0 (Nat.le_of_eq g10.symm))
          have Z10 : n0 ≤ h10.size := Nat.le_trans Z0 E10.1
          have Z11 : n0 ≤ h11.size := Nat.le_trans Z10 (Nat.le_of_eq W11.size.symm)
          have Fw11 := Fld.same W11 F10_value
          obtain ⟨T12, h12, X12, e12, E12, A12, D12, -, st12⟩ := newO X9 hx hZ hown (hw _ (List.mem_of_getElem? (i := 7) rfl)) (hw _ (List.mem_of_getElem? (i := 8) rfl)) (hw _ (List.mem_of_getElem? (i := 9) rfl)) e9 (g := (mkF m 48 #[.val (.long x0), .second, .val (.long x1), .second, .val (.int x2), .val (.int (0 : Int32)), .val (.long x1), .second, .val (.ref b10), .unset, .unset] [])) rfl (hb hby at_48) (by decide) (by decide)
          obtain ⟨b12, g12⟩ : ∃ z, z = h11.size := ⟨_, rfl⟩
          rw [← g12] at A12 D12 st12
          have F12_connection : Fld Z h12 b12 "com/example/grantd/grantd/front/Places$Waiting" "connection" "Ljava/lang/Object;" .null := D12 (Or.inr (hw _ (List.mem_of_getElem? (i := 22) rfl))) (ty := (.object "java/lang/Object")) (by decide)
          have F12_closableFrom : Fld Z h12 b12 "com/example/grantd/grantd/front/Places$Waiting" "closableFrom" "J" (.long (0 : Int64)) := D12 (Or.inr (hw _ (List.mem_of_getElem? (i := 24) rfl))) (ty := .long) (by decide)
          have F12_firstServed : Fld Z h12 b12 "com/example/grantd/grantd/front/Places$Waiting" "firstServed" "J" (.long (0 : Int64)) := D12 (Or.inr (hw _ (List.mem_of_getElem? (i := 26) rfl))) (ty := .long) (by decide)
          have F12_holdsHead : Fld Z h12 b12 "com/example/grantd/grantd/front/Places$Waiting" "holdsHead" "Z" (.int (0 : Int32)) := D12 (Or.inr (hw _ (List.mem_of_getElem? (i := 28) rfl))) (ty := .boolean) (by decide)
          have G12 : n0 ≤ b12 := (Nat.le_trans Z11 (Nat.le_of_eq g12.symm))
          have Z12 : n0 ≤ h12.size := Nat.le_trans Z11 E12.1
          obtain ⟨_, _, ⟨T13, L13, k13, n13⟩, -, X13, ⟨Lc13, hQ13, l13, y13, z13⟩, st13⟩ := X12.specialBack hx (y := (⟨"com/example/grantd/grantd/front/Places$Waiting", "<init>", "(Ljava/lang/Object;JJZ)V"⟩ : MethodName)) rfl hown (mvT hZ (hw _ (List.mem_of_getElem? (i := 10) rfl))) (mvT hZ (hw _ (List.mem_of_getElem? (i := 11) rfl))) (mvT hZ (hw _ (List.mem_of_getElem? (i := 12) rfl))) (by decide) (backOf (W := 1) (rm5 l Z a0 hw [] b12 b10 x0 x1 h12 n0 Z12 A12 F12_connection G12 F12_closableFrom F12_firstServed F12_holdsHead) hZ (hw _ (List.mem_of_getElem? (i := 12) rfl)) (hw _ (List.mem_of_getElem? (i := 9) rfl)) (by decide) (by decide)) (g := (mkF m 59 #[.val (.long x0), .second, .val (.long x1), .second, .val (.int x2), .val (.int (0 : Int32)), .val (.long x1), .second, .val (.ref b10), .unset, .unset] [(.int (0 : Int32)), (.long x1), (.long x0), (.ref b10), (.ref b12), (.ref b12)])) rfl (by rw [hml]; rfl) (Steps.refl _) (a := b12) (argsL := [(.ref b10), (.long x0), (.long x1), (.int (0 : Int32))]) (rest := [(.ref b12)]) (lenOf pd_3 rfl) rfl (by show 2 * 0 + _ ≤ _; exact Nat.le_of_eq rfl) (hb hby at_59) (fun _ _ => ⟨rfl, e12, (by decide : 2 + 0 ≤ _), (by decide : 5 + 0 ≤ _)⟩)
          dsimp only [Pt.U, Pt.locs, Pt.cells, Pt.slots] at X13 l13 y13 z13 st13 hQ13
          subst l13 y13 z13
          obtain ⟨rfl, N13q, h14, W14, h15, W15, h16, W16, h17, W17, e13⟩ := hQ13
          have N13 := Fr.app N9 N13q
          have Z14 : n0 ≤ h14.size := Nat.le_trans Z12 (Nat.le_of_eq W14.size.symm)
          have Fw14 := Fld.same W14 F12_connection
          have f18 : Exa Z h14 b12 "com/example/grantd/grantd/front/Places$Waiting" := (A12.wr W14)
          have f19 : Fld Z h14 b12 "com/example/grantd/grantd/front/Places$Waiting" "closableFrom" "J" (.long (0 : Int64)) := (F12_closableFrom.other W14 (Or.inr (slot_ne (Or.inr (hw _ (List.mem_of_getElem? (i := 24) rfl))) (Or.inr (hw _ (List.mem_of_getElem? (i := 22) rfl))) (by decide) (t := .long) (t' := (.object "java/lang/Object")) (by decide) (by decide))))
          have Z15 : n0 ≤ h15.size := Nat.le_trans Z14 (Nat.le_of_eq W15.size.symm)
          have Fw15 := Fld.same W15 f19
          have f20 : Exa Z h15 b12 "com/example/grantd/grantd/front/Places$Waiting" := (f18.wr W15)
          have f21 : Fld Z h15 b12 "com/example/grantd/grantd/front/Places$Waiting" "firstServed" "J" (.long (0 : Int64)) := ((F12_firstServed.other W14 (Or.inr (slot_ne (Or.inr (hw _ (List.mem_of_getElem? (i := 26) rfl))) (Or.inr (hw _ (List.mem_of_getElem? (i := 22) rfl))) (by decide) (t := .long) (t' := (.object "java/lang/Object")) (by decide) (by decide)))).other W15 (Or.inr (slot_ne (Or.inr (hw _ (List.mem_of_getElem? (i := 26) rfl))) (Or.inr (hw _ (List.mem_of_getElem? (i := 24) rfl))) (by decide) (t := .long) (t' := .long) (by decide) (by decide))))
          have Z16 : n0 ≤ h16.size := Nat.le_trans Z15 (Nat.le_of_eq W16.size.symm)
          have Fw16 := Fld.same W16 f21
          have f22 : Exa Z h16 b12 "com/example/grantd/grantd/front/Places$Waiting" := (f20.wr W16)
          have f23 : Fld Z h16 b12 "com/example/grantd/grantd/front/Places$Waiting" "holdsHead" "Z" (.int (0 : Int32)) := (((F12_holdsHead.other W14 (Or.inr (slot_ne (Or.inr (hw _ (List.mem_of_getElem? (i := 28) rfl))) (Or.inr (hw _ (List.mem_of_getElem? (i := 22) rfl))) (by decide) (t := .boolean) (t' := (.object "java/lang/Object")) (by decide) (by decide)))).other W15 (Or.inr (slot_ne (Or.inr (hw _ (List.mem_of_getElem? (i := 28) rfl))) (Or.inr (hw _ (List.mem_of_getElem? (i := 24) rfl))) (by decide) (t := .boolean) (t' := .long) (by decide) (by decide)))).other W16 (Or.inr (slot_ne (Or.inr (hw _ (List.mem_of_getElem? (i := 28) rfl))) (Or.inr (hw _ (List.mem_of_getElem? (i := 26) rfl))) (by decide) (t := .boolean) (t' := .long) (by decide) (by decide))))
          have Z17 : n0 ≤ h17.size := Nat.le_trans Z16 (Nat.le_of_eq W17.size.symm)
          have Fw17 := Fld.same W17 f23
          have pre24 : ∀ t, Steps p.tables e below (T13.setTop (mkF m 81 #[.val (.long x0), .second, .val (.long x1), .second, .val (.int x2), .val (.int (0 : Int32)), .val (.long x1), .second, .val (.ref b10), .val (.ref b12), .unset] [(.int (lcmpW x1 (9223372036854775807 : Int64)))])) t → Steps p.tables e below (s₁.setTop (entryFrame m #[(.long x0), (.long x1), (.int x2)] maxLocals)) t := fun t kk => pre7 t (by
            show Steps p.tables e below (s₁.setTop (mkF m 43 #[.val (.long x0), .second, .val (.long x1), .second, .val (.int x2), .val (.int (0 : Int32)), .val (.long x1), .second, .unset, .unset, .unset] [(.int x2)])) _
            refine st9 _ ?_
            show Steps p.tables e below (T9.setTop (mkF m 46 #[.val (.long x0), .second, .val (.long x1), .second, .val (.int x2), .val (.int (0 : Int32)), .val (.long x1), .second, .unset, .unset, .unset] [(.ref b10)])) _
            refine XS.astore X9.here hx rfl (hb hby at_46) rfl rfl (l' := #[.val (.long x0), .second, .val (.long x1), .second, .val (.int x2), .val (.int (0 : Int32)), .val (.long x1), .second, .val (.ref b10), .unset, .unset]) rfl ?_
            show Steps p.tables e below (T9.setTop (mkF m 48 #[.val (.long x0), .second, .val (.long x1), .second, .val (.int x2), .val (.int (0 : Int32)), .val (.long x1), .second, .val (.ref b10), .unset, .unset] [])) _
            refine st12 _ ?_
            show Steps p.tables e below (T12.setTop (mkF m 51 #[.val (.long x0), .second, .val (.long x1), .second, .val (.int x2), .val (.int (0 : Int32)), .val (.long x1), .second, .val (.ref b10), .unset, .unset] [(.ref b12)])) _
            refine XS.dup X12.here hx rfl (hb hby at_51) rfl rfl ?_
            show Steps p.tables e below (T12.setTop (mkF m 52 #[.val (.long x0), .second, .val (.long x1), .second, .val (.int x2), .val (.int (0 : Int32)), .val (.long x1), .second, .val (.ref b10), .unset, .unset] [(.ref b12), (.ref b12)])) _
            refine XS.aload X12.here hx rfl (hb hby at_52) rfl rfl ?_
            show Steps p.tables e below (T12.setTop (mkF m 54 #[.val (.long x0), .second, .val (.long x1), .second, .val (.int x2), .val (.int (0 : Int32)), .val (.long x1), .second, .val (.ref b10), .unset, .unset] [(.ref b10), (.ref b12), (.ref b12)])) _
            refine XS.lloadN X12.here hx rfl (hb hby at_54) rfl ?_
            show Steps p.tables e below (T12.setTop (mkF m 55 #[.val (.long x0), .second, .val (.long x1), .second, .val (.int x2), .val (.int (0 : Int32)), .val (.long x1), .second, .val (.ref b10), .unset, .unset] [(.long x0), (.ref b10), (.ref b12), (.ref b12)])) _
            refine XS.lload X12.here hx rfl (hb hby at_55) rfl ?_
            show Steps p.tables e below (T12.setTop (mkF m 57 #[.val (.long x0), .second, .val (.long x1), .second, .val (.int x2), .val (.int (0 : Int32)), .val (.long x1), .second, .val (.ref b10), .unset, .unset] [(.long x1), (.long x0), (.ref b10), (.ref b12), (.ref b12)])) _
            refine XS.iload X12.here hx rfl (hb hby at_57) rfl ?_
            show Steps p.tables e below (T12.setTop (mkF m 59 #[.val (.long x0), .second, .val (.long x1), .second, .val (.int x2), .val (.int (0 : Int32)), .val (.long x1), .second, .val (.ref b10), .unset, .unset] [(.int (0 : Int32)), (.long x1), (.long x0), (.ref b10), (.ref b12), (.ref b12)])) _
            refine st13.trans ?_
            show Steps p.tables e below (T13.setTop (mkF m 62 #[.val (.long x0), .second, .val (.long x1), .second, .val (.int x2), .val (.int (0 : Int32)), .val (.long x1), .second, .val (.ref b10), .unset, .unset] [(.ref b12)])) _
            refine XS.astore X13.here hx rfl (hb hby at_62) rfl rfl (l' := #[.val (.long x0), .second, .val (.long x1), .second, .val (.int x2), .val (.int (0 : Int32)), .val (.long x1), .second, .val (.ref b10), .val (.ref b12), .unset]) rfl ?_
            show Steps p.tables e below (T13.setTop (mkF m 64 #[.val (.long x0), .second, .val (.long x1), .second, .val (.int x2), .val (.int (0 : Int32)), .val (.long x1), .second, .val (.ref b10), .val (.ref b12), .unset] [])) _
            refine XS.iload X13.here hx rfl (hb hby at_64) rfl ?_
            show Steps p.tables e below (T13.setTop (mkF m 66 #[.val (.long x0), .second, .val (.long x1), .second, .val (.int x2), .val (.int (0 : Int32)), .val (.long x1), .second, .val (.ref b10), .val (.ref b12), .unset] [(.int (0 : Int32))])) _
            refine XS.ifYes X13.here hx rfl (pc0 := 66) (pc' := 75) rfl (hb hby at_66) rfl ((if0 _ _).trans (teq ((by decide) : (0 : Int32) = (0 : Int32))).1) (by decide) (by decide) ?_
            show Steps p.tables e below (T13.setTop (mkF m 75 #[.val (.long x0), .second, .val (.long x1), .second, .val (.int x2), .val (.int (0 : Int32)), .val (.long x1), .second, .val (.ref b10), .val (.ref b12), .unset] [])) _
            refine XS.lload X13.here hx rfl (hb hby at_75) rfl ?_
            show Steps p.tables e below (T13.setTop (mkF m 77 #[.val (.long x0), .second, .val (.long x1), .second, .val (.int x2), .val (.int (0 : Int32)), .val (.long x1), .second, .val (.ref b10), .val (.ref b12), .unset] [(.long x1)])) _
            refine X13.ldc2Long hx hown (mvT hZ (hw _ (List.mem_of_getElem? (i := 29) rfl))) (g := (mkF m 77 #[.val (.long x0), .second, .val (.long x1), .second, .val (.int x2), .val (.int (0 : Int32)), .val (.long x1), .second, .val (.ref b10), .val (.ref b12), .unset] [(.long x1)])) rfl (hb hby at_77) _ ?_
            show Steps p.tables e below (T13.setTop (mkF m 80 #[.val (.long x0), .second, .val (.long x1), .second, .val (.int x2), .val (.int (0 : Int32)), .val (.long x1), .second, .val (.ref b10), .val (.ref b12), .unset] [(.long (9223372036854775807 : Int64)), (.long x1)])) _
            refine XS.lcmp X13.here hx rfl (hb hby at_80) rfl ?_
            exact kk)
          by_cases hc25 : (lcmpW x1 (9223372036854775807 : Int64)) = (0 : Int32)
          ·
            have f26 : Exa Z h17 b12 "com/example/grantd/grantd/front/Places$Waiting" := (f22.wr W17)
            have f27 : Fld Z h17 b12 "com/example/grantd/grantd/front/Places$Waiting" "firstServed" "J" (.long x1) := (Fw16.other W17 (Or.inr (slot_ne (Or.inr (hw _ (List.mem_of_getElem? (i := 26) rfl))) (Or.inr (hw _ (List.mem_of_getElem? (i := 28) rfl))) (by decide) (t := .long) (t' := .boolean) (by decide) (by decide))))
            obtain ⟨cq28, kq28, q28a, q28b, q28c⟩ := isOf hZ e13 f26
            obtain ⟨_, _, ⟨T28, L28, k28, n28⟩, -, X28, ⟨Lc28, hQ28, l28, y28, z28⟩, st28⟩ := X13.virtualBack hx (y := (⟨"com/example/grantd/grantd/front/Places$Waiting", "isBetweenRequests", "()Z"⟩ : MethodName)) (z := (⟨"com/example/grantd/grantd/front/Places$Waiting", "isBetweenRequests", "()Z"⟩ : MethodName)) hown (mvT hZ (hw _ (List.mem_of_getElem? (i := 30) rfl))) (mvT hZ (hw _ (List.mem_of_getElem? (i := 31) rfl))) (notFace_of_selects (args := #[]) (mvT hZ (hw _ (List.mem_of_getElem? (i := 33) rfl)))) (mvT hZ (hw _ (List.mem_of_getElem? (i := 33) rfl))) (mvT hZ (hw _ (List.mem_of_getElem? (i := 32) rfl))) (by decide) (backOf (W := 0) (rm6 l Z a0 hw [] b12 x1 h17 n0 Z17 f27 hc25) hZ (hw _ (List.mem_of_getElem? (i := 34) rfl)) (hw _ (List.mem_of_getElem? (i := 9) rfl)) (by decide) (by decide)) q28a q28c (g := (mkF m 95 #[.val (.long x0), .second, .val (.long x1), .second, .val (.int x2), .val (.int (0 : Int32)), .val (.long x1), .second, .val (.ref b10), .val (.ref b12), .val (.int (0 : Int32))] [(.ref b12)])) rfl (by rw [hml]; rfl) (Steps.refl _) (argsL := []) (rest := []) (lenOf pd_4 rfl) rfl (by show 2 * 0 + _ ≤ _; exact Nat.le_of_eq rfl) (hb hby at_95) (fun _ _ => ⟨rfl, e13, (by decide : 2 + 0 ≤ _), (by decide : 5 + 0 ≤ _)⟩)
            dsimp only [Pt.U, Pt.locs, Pt.cells, Pt.slots] at X28 l28 y28 z28 st28 hQ28
            subst l28 y28 z28
            obtain ⟨rfl, N28q, e28⟩ := hQ28
            have N28 := Fr.app N13 N28q
            have pre29 : ∀ t, Steps p.tables e below (T28.setTop (mkF m 108 #[.val (.long x0), .second, .val (.long x1), .second, .val (.int x2), .val (.int (0 : Int32)), .val (.long x1), .second, .val (.ref b10), .val (.ref b12), .val (.int (0 : Int32))] [(.int (1 : Int32))])) t → Steps p.tables e below (s₁.setTop (entryFrame m #[(.long x0), (.long x1), (.int x2)] maxLocals)) t := fun t kk => pre24 t (by
              show Steps p.tables e below (T13.setTop (mkF m 81 #[.val (.long x0), .second, .val (.long x1), .second, .val (.int x2), .val (.int (0 : Int32)), .val (.long x1), .second, .val (.ref b10), .val (.ref b12), .unset] [(.int (lcmpW x1 (9223372036854775807 : Int64)))])) _
              refine XS.ifNo X13.here hx rfl (hb hby at_81) rfl ((if0 _ _).trans (teq (hc25 : (lcmpW x1 (9223372036854775807 : Int64)) = (0 : Int32))).2) ?_
              show Steps p.tables e below (T13.setTop (mkF m 84 #[.val (.long x0), .second, .val (.long x1), .second, .val (.int x2), .val (.int (0 : Int32)), .val (.long x1), .second, .val (.ref b10), .val (.ref b12), .unset] [])) _
              refine XS.iconst X13.here hx rfl (hb hby at_84) ?_
              show Steps p.tables e below (T13.setTop (mkF m 85 #[.val (.long x0), .second, .val (.long x1), .second, .val (.int x2), .val (.int (0 : Int32)), .val (.long x1), .second, .val (.ref b10), .val (.ref b12), .unset] [(.int (0 : Int32))])) _
              refine XS.istore X13.here hx rfl (hb hby at_85) rfl (l' := #[.val (.long x0), .second, .val (.long x1), .second, .val (.int x2), .val (.int (0 : Int32)), .val (.long x1), .second, .val (.ref b10), .val (.ref b12), .val (.int (0 : Int32))]) rfl ?_
              show Steps p.tables e below (T13.setTop (mkF m 87 #[.val (.long x0), .second, .val (.long x1), .second, .val (.int x2), .val (.int (0 : Int32)), .val (.long x1), .second, .val (.ref b10), .val (.ref b12), .val (.int (0 : Int32))] [])) _
              refine XS.goto X13.here hx rfl (pc0 := 87) (pc' := 93) rfl (hb hby at_87) (by decide) (by decide) ?_
              show Steps p.tables e below (T13.setTop (mkF m 93 #[.val (.long x0), .second, .val (.long x1), .second, .val (.int x2), .val (.int (0 : Int32)), .val (.long x1), .second, .val (.ref b10), .val (.ref b12), .val (.int (0 : Int32))] [])) _
              refine XS.aload X13.here hx rfl (hb hby at_93) rfl rfl ?_
              show Steps p.tables e below (T13.setTop (mkF m 95 #[.val (.long x0), .second, .val (.long x1), .second, .val (.int x2), .val (.int (0 : Int32)), .val (.long x1), .second, .val (.ref b10), .val (.ref b12), .val (.int (0 : Int32))] [(.ref b12)])) _
              refine st28.trans ?_
              show Steps p.tables e below (T28.setTop (mkF m 98 #[.val (.long x0), .second, .val (.long x1), .second, .val (.int x2), .val (.int (0 : Int32)), .val (.long x1), .second, .val (.ref b10), .val (.ref b12), .val (.int (0 : Int32))] [(.int (0 : Int32))])) _
              refine XS.iload X28.here hx rfl (hb hby at_98) rfl ?_
              show Steps p.tables e below (T28.setTop (mkF m 100 #[.val (.long x0), .second, .val (.long x1), .second, .val (.int x2), .val (.int (0 : Int32)), .val (.long x1), .second, .val (.ref b10), .val (.ref b12), .val (.int (0 : Int32))] [(.int (0 : Int32)), (.int (0 : Int32))])) _
              refine XS.icmpNo X28.here hx rfl (hb hby at_100) rfl (teq ((by decide) : (0 : Int32) = (0 : Int32))).2 ?_
              show Steps p.tables e below (T28.setTop (mkF m 103 #[.val (.long x0), .second, .val (.long x1), .second, .val (.int x2), .val (.int (0 : Int32)), .val (.long x1), .second, .val (.ref b10), .val (.ref b12), .val (.int (0 : Int32))] [])) _
              refine XS.iconst X28.here hx rfl (hb hby at_103) ?_
              show Steps p.tables e below (T28.setTop (mkF m 104 #[.val (.long x0), .second, .val (.long x1), .second, .val (.int x2), .val (.int (0 : Int32)), .val (.long x1), .second, .val (.ref b10), .val (.ref b12), .val (.int (0 : Int32))] [(.int (1 : Int32))])) _
              refine XS.goto X28.here hx rfl (pc0 := 104) (pc' := 108) rfl (hb hby at_104) (by decide) (by decide) ?_
              exact kk)
            obtain ⟨fs, hr, hrun, hended, hW, hsame⟩ := X28.leave (v := some (.int (1 : Int32))) (fun h => by rw [Bd.returns] at h; cases h)
            refine ⟨_, _, pre29 _ ?_, hrun, hended, _, _, rfl, ?_, ⟨_, rfl⟩, hW, hsame.mono (by decide) (by decide)⟩
            · exact retN X28 hx (t := .boolean) Bd.returns (by simp) (hb hby at_108) hr
            · exact ⟨rfl, N28⟩
          ·
            have f30 : Exa Z h17 b12 "com/example/grantd/grantd/front/Places$Waiting" := (f22.wr W17)
            have f31 : Fld Z h17 b12 "com/example/grantd/grantd/front/Places$Waiting" "firstServed" "J" (.long x1) := (Fw16.other W17 (Or.inr (slot_ne (Or.inr (hw _ (List.mem_of_getElem? (i := 26) rfl))) (Or.inr (hw _ (List.mem_of_getElem? (i := 28) rfl))) (by decide) (t := .long) (t' := .boolean) (by decide) (by decide))))
            obtain ⟨cq32, kq32, q32a, q32b, q32c⟩ := isOf hZ e13 f30
            obtain ⟨_, _, ⟨T32, L32, k32, n32⟩, -, X32, ⟨Lc32, hQ32, l32, y32, z32⟩, st32⟩ := X13.virtualBack hx (y := (⟨"com/example/grantd/grantd/front/Places$Waiting", "isBetweenRequests", "()Z"⟩ : MethodName)) (z := (⟨"com/example/grantd/grantd/front/Places$Waiting", "isBetweenRequests", "()Z"⟩ : MethodName)) hown (mvT hZ (hw _ (List.mem_of_getElem? (i := 30) rfl))) (mvT hZ (hw _ (List.mem_of_getElem? (i := 31) rfl))) (notFace_of_selects (args := #[]) (mvT hZ (hw _ (List.mem_of_getElem? (i := 33) rfl)))) (mvT hZ (hw _ (List.mem_of_getElem? (i := 33) rfl))) (mvT hZ (hw _ (List.mem_of_getElem? (i := 32) rfl))) (by decide) (backOf (W := 0) (rm7 l Z a0 hw [] b12 x1 h17 n0 Z17 f31 hc25 Fw17) hZ (hw _ (List.mem_of_getElem? (i := 34) rfl)) (hw _ (List.mem_of_getElem? (i := 9) rfl)) (by decide) (by decide)) q32a q32c (g := (mkF m 95 #[.val (.long x0), .second, .val (.long x1), .second, .val (.int x2), .val (.int (0 : Int32)), .val (.long x1), .second, .val (.ref b10), .val (.ref b12), .val (.int (1 : Int32))] [(.ref b12)])) rfl (by rw [hml]; rfl) (Steps.refl _) (argsL := []) (rest := []) (lenOf pd_4 rfl) rfl (by show 2 * 0 + _ ≤ _; exact Nat.le_of_eq rfl) (hb hby at_95) (fun _ _ => ⟨rfl, e13, (by decide : 2 + 0 ≤ _), (by decide : 5 + 0 ≤ _)⟩)
            dsimp only [Pt.U, Pt.locs, Pt.cells, Pt.slots] at X32 l32 y32 z32 st32 hQ32
            subst l32 y32 z32
            obtain ⟨rfl, N32q, e32⟩ := hQ32
            have N32 := Fr.app N13 N32q
            have pre33 : ∀ t, Steps p.tables e below (T32.setTop (mkF m 108 #[.val (.long x0), .second, .val (.long x1), .second, .val (.int x2), .val (.int (0 : Int32)), .val (.long x1), .second, .val (.ref b10), .val (.ref b12), .val (.int (1 : Int32))] [(.int (1 : Int32))])) t → Steps p.tables e below (s₁.setTop (entryFrame m #[(.long x0), (.long x1), (.int x2)] maxLocals)) t := fun t kk => pre24 t (by
              show Steps p.tables e below (T13.setTop (mkF m 81 #[.val (.long x0), .second, .val (.long x1), .second, .val (.int x2), .val (.int (0 : Int32)), .val (.long x1), .second, .val (.ref b10), .val (.ref b12), .unset] [(.int (lcmpW x1 (9223372036854775807 : Int64)))])) _
              refine XS.ifYes X13.here hx rfl (pc0 := 81) (pc' := 90) rfl (hb hby at_81) rfl ((if0 _ _).trans (feq (hc25 : ¬ ((lcmpW x1 (9223372036854775807 : Int64)) = (0 : Int32)))).2) (by decide) (by decide) ?_
              show Steps p.tables e below (T13.setTop (mkF m 90 #[.val (.long x0), .second, .val (.long x1), .second, .val (.int x2), .val (.int (0 : Int32)), .val (.long x1), .second, .val (.ref b10), .val (.ref b12), .unset] [])) _
              refine XS.iconst X13.here hx rfl (hb hby at_90) ?_
              show Steps p.tables e below (T13.setTop (mkF m 91 #[.val (.long x0), .second, .val (.long x1), .second, .val (.int x2), .val (.int (0 : Int32)), .val (.long x1), .second, .val (.ref b10), .val (.ref b12), .unset] [(.int (1 : Int32))])) _
              refine XS.istore X13.here hx rfl (hb hby at_91) rfl (l' := #[.val (.long x0), .second, .val (.long x1), .second, .val (.int x2), .val (.int (0 : Int32)), .val (.long x1), .second, .val (.ref b10), .val (.ref b12), .val (.int (1 : Int32))]) rfl ?_
              show Steps p.tables e below (T13.setTop (mkF m 93 #[.val (.long x0), .second, .val (.long x1), .second, .val (.int x2), .val (.int (0 : Int32)), .val (.long x1), .second, .val (.ref b10), .val (.ref b12), .val (.int (1 : Int32))] [])) _
              refine XS.aload X13.here hx rfl (hb hby at_93) rfl rfl ?_
              show Steps p.tables e below (T13.setTop (mkF m 95 #[.val (.long x0), .second, .val (.long x1), .second, .val (.int x2), .val (.int (0 : Int32)), .val (.long x1), .second, .val (.ref b10), .val (.ref b12), .val (.int (1 : Int32))] [(.ref b12)])) _
              refine st32.trans ?_
              show Steps p.tables e below (T32.setTop (mkF m 98 #[.val (.long x0), .second, .val (.long x1), .second, .val (.int x2), .val (.int (0 : Int32)), .val (.long x1), .second, .val (.ref b10), .val (.ref b12), .val (.int (1 : Int32))] [(.int (1 : Int32))])) _
              refine XS.iload X32.here hx rfl (hb hby at_98) rfl ?_
              show Steps p.tables e below (T32.setTop (mkF m 100 #[.val (.long x0), .second, .val (.long x1), .second, .val (.int x2), .val (.int (0 : Int32)), .val (.long x1), .second, .val (.ref b10), .val (.ref b12), .val (.int (1 : Int32))] [(.int (1 : Int32)), (.int (1 : Int32))])) _
              refine XS.icmpNo X32.here hx rfl (hb hby at_100) rfl (teq ((by decide) : (1 : Int32) = (1 : Int32))).2 ?_
              show Steps p.tables e below (T32.setTop (mkF m 103 #[.val (.long x0), .second, .val (.long x1), .second, .val (.int x2), .val (.int (0 : Int32)), .val (.long x1), .second, .val (.ref b10), .val (.ref b12), .val (.int (1 : Int32))] [])) _
              refine XS.iconst X32.here hx rfl (hb hby at_103) ?_
              show Steps p.tables e below (T32.setTop (mkF m 104 #[.val (.long x0), .second, .val (.long x1), .second, .val (.int x2), .val (.int (0 : Int32)), .val (.long x1), .second, .val (.ref b10), .val (.ref b12), .val (.int (1 : Int32))] [(.int (1 : Int32))])) _
              refine XS.goto X32.here hx rfl (pc0 := 104) (pc' := 108) rfl (hb hby at_104) (by decide) (by decide) ?_
              exact kk)
            obtain ⟨fs, hr, hrun, hended, hW, hsame⟩ := X32.leave (v := some (.int (1 : Int32))) (fun h => by rw [Bd.returns] at h; cases h)
            refine ⟨_, _, pre33 _ ?_, hrun, hended, _, _, rfl, ?_, ⟨_, rfl⟩, hW, hsame.mono (by decide) (by decide)⟩
            · exact retN X32 hx (t := .boolean) Bd.returns (by simp) (hb hby at_108) hr
            · exact ⟨rfl, N32⟩
        ·
          by_cases hc34 : (127 : Int32) < x2
          ·
            obtain ⟨_, _, ⟨T35, L35, k35, n35⟩, -, X35, ⟨Lc35, hQ35, l35, y35, z35⟩, st35⟩ := Jvm.LawKit.callS X0 hx (y := (⟨"java/lang/Integer", "valueOf", "(I)Ljava/lang/Integer;"⟩ : MethodName)) hown (mvT hZ (hw _ (List.mem_of_getElem? (i := 0) rfl))) (mvT hZ (hw _ (List.mem_of_getElem? (i := 1) rfl))) (mvT hZ (hw _ (List.mem_of_getElem? (i := 2) rfl))) (mvT hZ (hw _ (List.mem_of_getElem? (i := 3) rfl))) (by decide) (backOf (W := 0) (rm8 l Z a0 hw [] x2 h0 n0 Z0 hc8 S_high hc34) hZ (hw _ (List.mem_of_getElem? (i := 3) rfl)) (hw _ (List.mem_of_getElem? (i := 2) rfl)) (by decide) (by decide)) (g := (mkF m 43 #[.val (.long x0), .second, .val (.long x1), .second, .val (.int x2), .val (.int (0 : Int32)), .val (.long x1), .second, .unset, .unset, .unset] [(.int x2)])) rfl (by rw [hml]; rfl) (argsL := [(.int x2)]) (rest := []) (lenOf pd_2 rfl) rfl (by show 2 * 0 + _ ≤ _; exact Nat.le_of_eq rfl) (hb hby at_43) (fun _ _ => ⟨rfl, e0, (by decide : 0 + 1 ≤ _), (by decide : 0 + 1 ≤ _)⟩)
            dsimp only [Pt.U, Pt.locs, Pt.cells, Pt.slots] at X35 l35 y35 z35 st35 hQ35
            subst l35 y35 z35
            obtain ⟨br35, rfl, N35q, h36, b36, g36, E36, A36, F36_value, h37, W37, e35, rfl⟩ := hQ35
            have N35 := Fr.app N0 N35q
            have G36 : n0 ≤ b36 := (Nat.le_trans Z0 (Nat.le_of_eq g36.symm))
            have Z36 : n0 ≤ h36.size := Nat.le_trans Z0 E36.1
            have Z37 : n0 ≤ h37.size := Nat.le_trans Z36 (Nat.le_of_eq W37.size.symm)
            have Fw37 := Fld.same W37 F36_value
            obtain ⟨T38, h38, X38, e38, E38, A38, D38, -, st38⟩ := newO X35 hx hZ hown (hw _ (List.mem_of_getElem? (i := 7) rfl)) (hw _ (List.mem_of_getElem? (i := 8) rfl)) (hw _ (List.mem_of_getElem? (i := 9) rfl)) e35 (g := (mkF m 48 #[.val (.long x0), .second, .val (.long x1), .second, .val (.int x2), .val (.int (0 : Int32)), .val (.long x1), .second, .val (.ref b36), .unset, .unset] [])) rfl (hb hby at_48) (by decide) (by decide)
            obtain ⟨b38, g38⟩ : ∃ z, z = h37.size := ⟨_, rfl⟩
            rw [← g38] at A38 D38 st38
            have F38_connection : Fld Z h38 b38 "com/example/grantd/grantd/front/Places$Waiting" "connection" "Ljava/lang/Object;" .null := D38 (Or.inr (hw _ (List.mem_of_getElem? (i := 22) rfl))) (ty := (.object "java/lang/Object")) (by decide)
            have F38_closableFrom : Fld Z h38 b38 "com/example/grantd/grantd/front/Places$Waiting" "closableFrom" "J" (.long (0 : Int64)) := D38 (Or.inr (hw _ (List.mem_of_getElem? (i := 24) rfl))) (ty := .long) (by decide)
            have F38_firstServed : Fld Z h38 b38 "com/example/grantd/grantd/front/Places$Waiting" "firstServed" "J" (.long (0 : Int64)) := D38 (Or.inr (hw _ (List.mem_of_getElem? (i := 26) rfl))) (ty := .long) (by decide)
            have F38_holdsHead : Fld Z h38 b38 "com/example/grantd/grantd/front/Places$Waiting" "holdsHead" "Z" (.int (0 : Int32)) := D38 (Or.inr (hw _ (List.mem_of_getElem? (i := 28) rfl))) (ty := .boolean) (by decide)
            have G38 : n0 ≤ b38 := (Nat.le_trans Z37 (Nat.le_of_eq g38.symm))
            have Z38 : n0 ≤ h38.size := Nat.le_trans Z37 E38.1
            obtain ⟨_, _, ⟨T39, L39, k39, n39⟩, -, X39, ⟨Lc39, hQ39, l39, y39, z39⟩, st39⟩ := X38.specialBack hx (y := (⟨"com/example/grantd/grantd/front/Places$Waiting", "<init>", "(Ljava/lang/Object;JJZ)V"⟩ : MethodName)) rfl hown (mvT hZ (hw _ (List.mem_of_getElem? (i := 10) rfl))) (mvT hZ (hw _ (List.mem_of_getElem? (i := 11) rfl))) (mvT hZ (hw _ (List.mem_of_getElem? (i := 12) rfl))) (by decide) (backOf (W := 1) (rm5 l Z a0 hw [] b38 b36 x0 x1 h38 n0 Z38 A38 F38_connection G38 F38_closableFrom F38_firstServed F38_holdsHead) hZ (hw _ (List.mem_of_getElem? (i := 12) rfl)) (hw _ (List.mem_of_getElem? (i := 9) rfl)) (by decide) (by decide)) (g := (mkF m 59 #[.val (.long x0), .second, .val (.long x1), .second, .val (.int x2), .val (.int (0 : Int32)), .val (.long x1), .second, .val (.ref b36), .unset, .unset] [(.int (0 : Int32)), (.long x1), (.long x0), (.ref b36), (.ref b38), (.ref b38)])) rfl (by rw [hml]; rfl) (Steps.refl _) (a := b38) (argsL := [(.ref b36), (.long x0), (.long x1), (.int (0 : Int32))]) (rest := [(.ref b38)]) (lenOf pd_3 rfl) rfl (by show 2 * 0 + _ ≤ _; exact Nat.le_of_eq rfl) (hb hby at_59) (fun _ _ => ⟨rfl, e38, (by decide : 2 + 0 ≤ _), (by decide : 5 + 0 ≤ _)⟩)
            dsimp only [Pt.U, Pt.locs, Pt.cells, Pt.slots] at X39 l39 y39 z39 st39 hQ39
            subst l39 y39 z39
            obtain ⟨rfl, N39q, h40, W40, h41, W41, h42, W42, h43, W43, e39⟩ := hQ39
            have N39 := Fr.app N35 N39q
            have Z40 : n0 ≤ h40.size := Nat.le_trans Z38 (Nat.le_of_eq W40.size.symm)
            have Fw40 := Fld.same W40 F38_connection
            have f44 : Exa Z h40 b38 "com/example/grantd/grantd/front/Places$Waiting" := (A38.wr W40)
            have f45 : Fld Z h40 b38 "com/example/grantd/grantd/front/Places$Waiting" "closableFrom" "J" (.long (0 : Int64)) := (F38_closableFrom.other W40 (Or.inr (slot_ne (Or.inr (hw _ (List.mem_of_getElem? (i := 24) rfl))) (Or.inr (hw _ (List.mem_of_getElem? (i := 22) rfl))) (by decide) (t := .long) (t' := (.object "java/lang/Object")) (by decide) (by decide))))
            have Z41 : n0 ≤ h41.size := Nat.le_trans Z40 (Nat.le_of_eq W41.size.symm)
            have Fw41 := Fld.same W41 f45
            have f46 : Exa Z h41 b38 "com/example/grantd/grantd/front/Places$Waiting" := (f44.wr W41)
            have f47 : Fld Z h41 b38 "com/example/grantd/grantd/front/Places$Waiting" "firstServed" "J" (.long (0 : Int64)) := ((F38_firstServed.other W40 (Or.inr (slot_ne (Or.inr (hw _ (List.mem_of_getElem? (i := 26) rfl))) (Or.inr (hw _ (List.mem_of_getElem? (i := 22) rfl))) (by decide) (t := .long) (t' := (.object "java/lang/Object")) (by decide) (by decide)))).other W41 (Or.inr (slot_ne (Or.inr (hw _ (List.mem_of_getElem? (i := 26) rfl))) (Or.inr (hw _ (List.mem_of_getElem? (i := 24) rfl))) (by decide) (t := .long) (t' := .long) (by decide) (by decide))))
            have Z42 : n0 ≤ h42.size := Nat.le_trans Z41 (Nat.le_of_eq W42.size.symm)
            have Fw42 := Fld.same W42 f47
            have f48 : Exa Z h42 b38 "com/example/grantd/grantd/front/Places$Waiting" := (f46.wr W42)
            have f49 : Fld Z h42 b38 "com/example/grantd/grantd/front/Places$Waiting" "holdsHead" "Z" (.int (0 : Int32)) := (((F38_holdsHead.other W40 (Or.inr (slot_ne (Or.inr (hw _ (List.mem_of_getElem? (i := 28) rfl))) (Or.inr (hw _ (List.mem_of_getElem? (i := 22) rfl))) (by decide) (t := .boolean) (t' := (.object "java/lang/Object")) (by decide) (by decide)))).other W41 (Or.inr (slot_ne (Or.inr (hw _ (List.mem_of_getElem? (i := 28) rfl))) (Or.inr (hw _ (List.mem_of_getElem? (i := 24) rfl))) (by decide) (t := .boolean) (t' := .long) (by decide) (by decide)))).other W42 (Or.inr (slot_ne (Or.inr (hw _ (List.mem_of_getElem? (i := 28) rfl))) (Or.inr (hw _ (List.mem_of_getElem? (i := 26) rfl))) (by decide) (t := .boolean) (t' := .long) (by decide) (by decide))))
            have Z43 : n0 ≤ h43.size := Nat.le_trans Z42 (Nat.le_of_eq W43.size.symm)
            have Fw43 := Fld.same W43 f49
            have pre50 : ∀ t, Steps p.tables e below (T39.setTop (mkF m 81 #[.val (.long x0), .second, .val (.long x1), .second, .val (.int x2), .val (.int (0 : Int32)), .val (.long x1), .second, .val (.ref b36), .val (.ref b38), .unset] [(.int (lcmpW x1 (9223372036854775807 : Int64)))])) t → Steps p.tables e below (s₁.setTop (entryFrame m #[(.long x0), (.long x1), (.int x2)] maxLocals)) t := fun t kk => pre7 t (by
              show Steps p.tables e below (s₁.setTop (mkF m 43 #[.val (.long x0), .second, .val (.long x1), .second, .val (.int x2), .val (.int (0 : Int32)), .val (.long x1), .second, .unset, .unset, .unset] [(.int x2)])) _
              refine st35 _ ?_
              show Steps p.tables e below (T35.setTop (mkF m 46 #[.val (.long x0), .second, .val (.long x1), .second, .val (.int x2), .val (.int (0 : Int32)), .val (.long x1), .second, .unset, .unset, .unset] [(.ref b36)])) _
              refine XS.astore X35.here hx rfl (hb hby at_46) rfl rfl (l' := #[.val (.long x0), .second, .val (.long x1), .second, .val (.int x2), .val (.int (0 : Int32)), .val (.long x1), .second, .val (.ref b36), .unset, .unset]) rfl ?_
              show Steps p.tables e below (T35.setTop (mkF m 48 #[.val (.long x0), .second, .val (.long x1), .second, .val (.int x2), .val (.int (0 : Int32)), .val (.long x1), .second, .val (.ref b36), .unset, .unset] [])) _
              refine st38 _ ?_
              show Steps p.tables e below (T38.setTop (mkF m 51 #[.val (.long x0), .second, .val (.long x1), .second, .val (.int x2), .val (.int (0 : Int32)), .val (.long x1), .second, .val (.ref b36), .unset, .unset] [(.ref b38)])) _
              refine XS.dup X38.here hx rfl (hb hby at_51) rfl rfl ?_
              show Steps p.tables e below (T38.setTop (mkF m 52 #[.val (.long x0), .second, .val (.long x1), .second, .val (.int x2), .val (.int (0 : Int32)), .val (.long x1), .second, .val (.ref b36), .unset, .unset] [(.ref b38), (.ref b38)])) _
              refine XS.aload X38.here hx rfl (hb hby at_52) rfl rfl ?_
              show Steps p.tables e below (T38.setTop (mkF m 54 #[.val (.long x0), .second, .val (.long x1), .second, .val (.int x2), .val (.int (0 : Int32)), .val (.long x1), .second, .val (.ref b36), .unset, .unset] [(.ref b36), (.ref b38), (.ref b38)])) _
              refine XS.lloadN X38.here hx rfl (hb hby at_54) rfl ?_
              show Steps p.tables e below (T38.setTop (mkF m 55 #[.val (.long x0), .second, .val (.long x1), .second, .val (.int x2), .val (.int (0 : Int32)), .val (.long x1), .second, .val (.ref b36), .unset, .unset] [(.long x0), (.ref b36), (.ref b38), (.ref b38)])) _
              refine XS.lload X38.here hx rfl (hb hby at_55) rfl ?_
              show Steps p.tables e below (T38.setTop (mkF m 57 #[.val (.long x0), .second, .val (.long x1), .second, .val (.int x2), .val (.int (0 : Int32)), .val (.long x1), .second, .val (.ref b36), .unset, .unset] [(.long x1), (.long x0), (.ref b36), (.ref b38), (.ref b38)])) _
              refine XS.iload X38.here hx rfl (hb hby at_57) rfl ?_
              show Steps p.tables e below (T38.setTop (mkF m 59 #[.val (.long x0), .second, .val (.long x1), .second, .val (.int x2), .val (.int (0 : Int32)), .val (.long x1), .second, .val (.ref b36), .unset, .unset] [(.int (0 : Int32)), (.long x1), (.long x0), (.ref b36), (.ref b38), (.ref b38)])) _
              refine st39.trans ?_
              show Steps p.tables e below (T39.setTop (mkF m 62 #[.val (.long x0), .second, .val (.long x1), .second, .val (.int x2), .val (.int (0 : Int32)), .val (.long x1), .second, .val (.ref b36), .unset, .unset] [(.ref b38)])) _
              refine XS.astore X39.here hx rfl (hb hby at_62) rfl rfl (l' := #[.val (.long x0), .second, .val (.long x1), .second, .val (.int x2), .val (.int (0 : Int32)), .val (.long x1), .second, .val (.ref b36), .val (.ref b38), .unset]) rfl ?_
              show Steps p.tables e below (T39.setTop (mkF m 64 #[.val (.long x0), .second, .val (.long x1), .second, .val (.int x2), .val (.int (0 : Int32)), .val (.long x1), .second, .val (.ref b36), .val (.ref b38), .unset] [])) _
              refine XS.iload X39.here hx rfl (hb hby at_64) rfl ?_
              show Steps p.tables e below (T39.setTop (mkF m 66 #[.val (.long x0), .second, .val (.long x1), .second, .val (.int x2), .val (.int (0 : Int32)), .val (.long x1), .second, .val (.ref b36), .val (.ref b38), .unset] [(.int (0 : Int32))])) _
              refine XS.ifYes X39.here hx rfl (pc0 := 66) (pc' := 75) rfl (hb hby at_66) rfl ((if0 _ _).trans (teq ((by decide) : (0 : Int32) = (0 : Int32))).1) (by decide) (by decide) ?_
              show Steps p.tables e below (T39.setTop (mkF m 75 #[.val (.long x0), .second, .val (.long x1), .second, .val (.int x2), .val (.int (0 : Int32)), .val (.long x1), .second, .val (.ref b36), .val (.ref b38), .unset] [])) _
              refine XS.lload X39.here hx rfl (hb hby at_75) rfl ?_
              show Steps p.tables e below (T39.setTop (mkF m 77 #[.val (.long x0), .second, .val (.long x1), .second, .val (.int x2), .val (.int (0 : Int32)), .val (.long x1), .second, .val (.ref b36), .val (.ref b38), .unset] [(.long x1)])) _
              refine X39.ldc2Long hx hown (mvT hZ (hw _ (List.mem_of_getElem? (i := 29) rfl))) (g := (mkF m 77 #[.val (.long x0), .second, .val (.long x1), .second, .val (.int x2), .val (.int (0 : Int32)), .val (.long x1), .second, .val (.ref b36), .val (.ref b38), .unset] [(.long x1)])) rfl (hb hby at_77) _ ?_
              show Steps p.tables e below (T39.setTop (mkF m 80 #[.val (.long x0), .second, .val (.long x1), .second, .val (.int x2), .val (.int (0 : Int32)), .val (.long x1), .second, .val (.ref b36), .val (.ref b38), .unset] [(.long (9223372036854775807 : Int64)), (.long x1)])) _
              refine XS.lcmp X39.here hx rfl (hb hby at_80) rfl ?_
              exact kk)
            by_cases hc51 : (lcmpW x1 (9223372036854775807 : Int64)) = (0 : Int32)
            ·
              have f52 : Exa Z h43 b38 "com/example/grantd/grantd/front/Places$Waiting" := (f48.wr W43)
              have f53 : Fld Z h43 b38 "com/example/grantd/grantd/front/Places$Waiting" "firstServed" "J" (.long x1) := (Fw42.other W43 (Or.inr (slot_ne (Or.inr (hw _ (List.mem_of_getElem? (i := 26) rfl))) (Or.inr (hw _ (List.mem_of_getElem? (i := 28) rfl))) (by decide) (t := .long) (t' := .boolean) (by decide) (by decide))))
              obtain ⟨cq54, kq54, q54a, q54b, q54c⟩ := isOf hZ e39 f52
              obtain ⟨_, _, ⟨T54, L54, k54, n54⟩, -, X54, ⟨Lc54, hQ54, l54, y54, z54⟩, st54⟩ := X39.virtualBack hx (y := (⟨"com/example/grantd/grantd/front/Places$Waiting", "isBetweenRequests", "()Z"⟩ : MethodName)) (z := (⟨"com/example/grantd/grantd/front/Places$Waiting", "isBetweenRequests", "()Z"⟩ : MethodName)) hown (mvT hZ (hw _ (List.mem_of_getElem? (i := 30) rfl))) (mvT hZ (hw _ (List.mem_of_getElem? (i := 31) rfl))) (notFace_of_selects (args := #[]) (mvT hZ (hw _ (List.mem_of_getElem? (i := 33) rfl)))) (mvT hZ (hw _ (List.mem_of_getElem? (i := 33) rfl))) (mvT hZ (hw _ (List.mem_of_getElem? (i := 32) rfl))) (by decide) (backOf (W := 0) (rm6 l Z a0 hw [] b38 x1 h43 n0 Z43 f53 hc51) hZ (hw _ (List.mem_of_getElem? (i := 34) rfl)) (hw _ (List.mem_of_getElem? (i := 9) rfl)) (by decide) (by decide)) q54a q54c (g := (mkF m 95 #[.val (.long x0), .second, .val (.long x1), .second, .val (.int x2), .val (.int (0 : Int32)), .val (.long x1), .second, .val (.ref b36), .val (.ref b38), .val (.int (0 : Int32))] [(.ref b38)])) rfl (by rw [hml]; rfl) (Steps.refl _) (argsL := []) (rest := []) (lenOf pd_4 rfl) rfl (by show 2 * 0 + _ ≤ _; exact Nat.le_of_eq rfl) (hb hby at_95) (fun _ _ => ⟨rfl, e39, (by decide : 2 + 0 ≤ _), (by decide : 5 + 0 ≤ _)⟩)
              dsimp only [Pt.U, Pt.locs, Pt.cells, Pt.slots] at X54 l54 y54 z54 st54 hQ54
              subst l54 y54 z54
              obtain ⟨rfl, N54q, e54⟩ := hQ54
              have N54 := Fr.app N39 N54q
              have pre55 : ∀ t, Steps p.tables e below (T54.setTop (mkF m 108 #[.val (.long x0), .second, .val (.long x1), .second, .val (.int x2), .val (.int (0 : Int32)), .val (.long x1), .second, .val (.ref b36), .val (.ref b38), .val (.int (0 : Int32))] [(.int (1 : Int32))])) t → Steps p.tables e below (s₁.setTop (entryFrame m #[(.long x0), (.long x1), (.int x2)] maxLocals)) t := fun t kk => pre50 t (by
                show Steps p.tables e below (T39.setTop (mkF m 81 #[.val (.long x0), .second, .val (.long x1), .second, .val (.int x2), .val (.int (0 : Int32)), .val (.long x1), .second, .val (.ref b36), .val (.ref b38), .unset] [(.int (lcmpW x1 (9223372036854775807 : Int64)))])) _
                refine XS.ifNo X39.here hx rfl (hb hby at_81) rfl ((if0 _ _).trans (teq (hc51 : (lcmpW x1 (9223372036854775807 : Int64)) = (0 : Int32))).2) ?_
                show Steps p.tables e below (T39.setTop (mkF m 84 #[.val (.long x0), .second, .val (.long x1), .second, .val (.int x2), .val (.int (0 : Int32)), .val (.long x1), .second, .val (.ref b36), .val (.ref b38), .unset] [])) _
                refine XS.iconst X39.here hx rfl (hb hby at_84) ?_
                show Steps p.tables e below (T39.setTop (mkF m 85 #[.val (.long x0), .second, .val (.long x1), .second, .val (.int x2), .val (.int (0 : Int32)), .val (.long x1), .second, .val (.ref b36), .val (.ref b38), .unset] [(.int (0 : Int32))])) _
                refine XS.istore X39.here hx rfl (hb hby at_85) rfl (l' := #[.val (.long x0), .second, .val (.long x1), .second, .val (.int x2), .val (.int (0 : Int32)), .val (.long x1), .second, .val (.ref b36), .val (.ref b38), .val (.int (0 : Int32))]) rfl ?_
                show Steps p.tables e below (T39.setTop (mkF m 87 #[.val (.long x0), .second, .val (.long x1), .second, .val (.int x2), .val (.int (0 : Int32)), .val (.long x1), .second, .val (.ref b36), .val (.ref b38), .val (.int (0 : Int32))] [])) _
                refine XS.goto X39.here hx rfl (pc0 := 87) (pc' := 93) rfl (hb hby at_87) (by decide) (by decide) ?_
                show Steps p.tables e below (T39.setTop (mkF m 93 #[.val (.long x0), .second, .val (.long x1), .second, .val (.int x2), .val (.int (0 : Int32)), .val (.long x1), .second, .val (.ref b36), .val (.ref b38), .val (.int (0 : Int32))] [])) _
                refine XS.aload X39.here hx rfl (hb hby at_93) rfl rfl ?_
                show Steps p.tables e below (T39.setTop (mkF m 95 #[.val (.long x0), .second, .val (.long x1), .second, .val (.int x2), .val (.int (0 : Int32)), .val (.long x1), .second, .val (.ref b36), .val (.ref b38), .val (.int (0 : Int32))] [(.ref b38)])) _
                refine st54.trans ?_
                show Steps p.tables e below (T54.setTop (mkF m 98 #[.val (.long x0), .second, .val (.long x1), .second, .val (.int x2), .val (.int (0 : Int32)), .val (.long x1), .second, .val (.ref b36), .val (.ref b38), .val (.int (0 : Int32))] [(.int (0 : Int32))])) _
                refine XS.iload X54.here hx rfl (hb hby at_98) rfl ?_
                show Steps p.tables e below (T54.setTop (mkF m 100 #[.val (.long x0), .second, .val (.long x1), .second, .val (.int x2), .val (.int (0 : Int32)), .val (.long x1), .second, .val (.ref b36), .val (.ref b38), .val (.int (0 : Int32))] [(.int (0 : Int32)), (.int (0 : Int32))])) _
                refine XS.icmpNo X54.here hx rfl (hb hby at_100) rfl (teq ((by decide) : (0 : Int32) = (0 : Int32))).2 ?_
                show Steps p.tables e below (T54.setTop (mkF m 103 #[.val (.long x0), .second, .val (.long x1), .second, .val (.int x2), .val (.int (0 : Int32)), .val (.long x1), .second, .val (.ref b36), .val (.ref b38), .val (.int (0 : Int32))] [])) _
                refine XS.iconst X54.here hx rfl (hb hby at_103) ?_
                show Steps p.tables e below (T54.setTop (mkF m 104 #[.val (.long x0), .second, .val (.long x1), .second, .val (.int x2), .val (.int (0 : Int32)), .val (.long x1), .second, .val (.ref b36), .val (.ref b38), .val (.int (0 : Int32))] [(.int (1 : Int32))])) _
                refine XS.goto X54.here hx rfl (pc0 := 104) (pc' := 108) rfl (hb hby at_104) (by decide) (by decide) ?_
                exact kk)
              obtain ⟨fs, hr, hrun, hended, hW, hsame⟩ := X54.leave (v := some (.int (1 : Int32))) (fun h => by rw [Bd.returns] at h; cases h)
              refine ⟨_, _, pre55 _ ?_, hrun, hended, _, _, rfl, ?_, ⟨_, rfl⟩, hW, hsame.mono (by decide) (by decide)⟩
              · exact retN X54 hx (t := .boolean) Bd.returns (by simp) (hb hby at_108) hr
              · exact ⟨rfl, N54⟩
            ·
              have f56 : Exa Z h43 b38 "com/example/grantd/grantd/front/Places$Waiting" := (f48.wr W43)
              have f57 : Fld Z h43 b38 "com/example/grantd/grantd/front/Places$Waiting" "firstServed" "J" (.long x1) := (Fw42.other W43 (Or.inr (slot_ne (Or.inr (hw _ (List.mem_of_getElem? (i := 26) rfl))) (Or.inr (hw _ (List.mem_of_getElem? (i := 28) rfl))) (by decide) (t := .long) (t' := .boolean) (by decide) (by decide))))
              obtain ⟨cq58, kq58, q58a, q58b, q58c⟩ := isOf hZ e39 f56
              obtain ⟨_, _, ⟨T58, L58, k58, n58⟩, -, X58, ⟨Lc58, hQ58, l58, y58, z58⟩, st58⟩ := X39.virtualBack hx (y := (⟨"com/example/grantd/grantd/front/Places$Waiting", "isBetweenRequests", "()Z"⟩ : MethodName)) (z := (⟨"com/example/grantd/grantd/front/Places$Waiting", "isBetweenRequests", "()Z"⟩ : MethodName)) hown (mvT hZ (hw _ (List.mem_of_getElem? (i := 30) rfl))) (mvT hZ (hw _ (List.mem_of_getElem? (i := 31) rfl))) (notFace_of_selects (args := #[]) (mvT hZ (hw _ (List.mem_of_getElem? (i := 33) rfl)))) (mvT hZ (hw _ (List.mem_of_getElem? (i := 33) rfl))) (mvT hZ (hw _ (List.mem_of_getElem? (i := 32) rfl))) (by decide) (backOf (W := 0) (rm7 l Z a0 hw [] b38 x1 h43 n0 Z43 f57 hc51 Fw43) hZ (hw _ (List.mem_of_getElem? (i := 34) rfl)) (hw _ (List.mem_of_getElem? (i := 9) rfl)) (by decide) (by decide)) q58a q58c (g := (mkF m 95 #[.val (.long x0), .second, .val (.long x1), .second, .val (.int x2), .val (.int (0 : Int32)), .val (.long x1), .second, .val (.ref b36), .val (.ref b38), .val (.int (1 : Int32))] [(.ref b38)])) rfl (by rw [hml]; rfl) (Steps.refl _) (argsL := []) (rest := []) (lenOf pd_4 rfl) rfl (by show 2 * 0 + _ ≤ _; exact Nat.le_of_eq rfl) (hb hby at_95) (fun _ _ => ⟨rfl, e39, (by decide : 2 + 0 ≤ _), (by decide : 5 + 0 ≤ _)⟩)
              dsimp only [Pt.U, Pt.locs, Pt.cells, Pt.slots] at X58 l58 y58 z58 st58 hQ58
              subst l58 y58 z58
              obtain ⟨rfl, N58q, e58⟩ := hQ58
              have N58 := Fr.app N39 N58q
              have pre59 : ∀ t, Steps p.tables e below (T58.setTop (mkF m 108 #[.val (.long x0), .second, .val (.long x1), .second, .val (.int x2), .val (.int (0 : Int32)), .val (.long x1), .second, .val (.ref b36), .val (.ref b38), .val (.int (1 : Int32))] [(.int (1 : Int32))])) t → Steps p.tables e below (s₁.setTop (entryFrame m #[(.long x0), (.long x1), (.int x2)] maxLocals)) t := fun t kk => pre50 t (by
                show Steps p.tables e below (T39.setTop (mkF m 81 #[.val (.long x0), .second, .val (.long x1), .second, .val (.int x2), .val (.int (0 : Int32)), .val (.long x1), .second, .val (.ref b36), .val (.ref b38), .unset] [(.int (lcmpW x1 (9223372036854775807 : Int64)))])) _
                refine XS.ifYes X39.here hx rfl (pc0 := 81) (pc' := 90) rfl (hb hby at_81) rfl ((if0 _ _).trans (feq (hc51 : ¬ ((lcmpW x1 (9223372036854775807 : Int64)) = (0 : Int32)))).2) (by decide) (by decide) ?_
                show Steps p.tables e below (T39.setTop (mkF m 90 #[.val (.long x0), .second, .val (.long x1), .second, .val (.int x2), .val (.int (0 : Int32)), .val (.long x1), .second, .val (.ref b36), .val (.ref b38), .unset] [])) _
                refine XS.iconst X39.here hx rfl (hb hby at_90) ?_
                show Steps p.tables e below (T39.setTop (mkF m 91 #[.val (.long x0), .second, .val (.long x1), .second, .val (.int x2), .val (.int (0 : Int32)), .val (.long x1), .second, .val (.ref b36), .val (.ref b38), .unset] [(.int (1 : Int32))])) _
                refine XS.istore X39.here hx rfl (hb hby at_91) rfl (l' := #[.val (.long x0), .second, .val (.long x1), .second, .val (.int x2), .val (.int (0 : Int32)), .val (.long x1), .second, .val (.ref b36), .val (.ref b38), .val (.int (1 : Int32))]) rfl ?_
                show Steps p.tables e below (T39.setTop (mkF m 93 #[.val (.long x0), .second, .val (.long x1), .second, .val (.int x2), .val (.int (0 : Int32)), .val (.long x1), .second, .val (.ref b36), .val (.ref b38), .val (.int (1 : Int32))] [])) _
                refine XS.aload X39.here hx rfl (hb hby at_93) rfl rfl ?_
                show Steps p.tables e below (T39.setTop (mkF m 95 #[.val (.long x0), .second, .val (.long x1), .second, .val (.int x2), .val (.int (0 : Int32)), .val (.long x1), .second, .val (.ref b36), .val (.ref b38), .val (.int (1 : Int32))] [(.ref b38)])) _
                refine st58.trans ?_
                show Steps p.tables e below (T58.setTop (mkF m 98 #[.val (.long x0), .second, .val (.long x1), .second, .val (.int x2), .val (.int (0 : Int32)), .val (.long x1), .second, .val (.ref b36), .val (.ref b38), .val (.int (1 : Int32))] [(.int (1 : Int32))])) _
                refine XS.iload X58.here hx rfl (hb hby at_98) rfl ?_
                show Steps p.tables e below (T58.setTop (mkF m 100 #[.val (.long x0), .second, .val (.long x1), .second, .val (.int x2), .val (.int (0 : Int32)), .val (.long x1), .second, .val (.ref b36), .val (.ref b38), .val (.int (1 : Int32))] [(.int (1 : Int32)), (.int (1 : Int32))])) _
                refine XS.icmpNo X58.here hx rfl (hb hby at_100) rfl (teq ((by decide) : (1 : Int32) = (1 : Int32))).2 ?_
                show Steps p.tables e below (T58.setTop (mkF m 103 #[.val (.long x0), .second, .val (.long x1), .second, .val (.int x2), .val (.int (0 : Int32)), .val (.long x1), .second, .val (.ref b36), .val (.ref b38), .val (.int (1 : Int32))] [])) _
                refine XS.iconst X58.here hx rfl (hb hby at_103) ?_
                show Steps p.tables e below (T58.setTop (mkF m 104 #[.val (.long x0), .second, .val (.long x1), .second, .val (.int x2), .val (.int (0 : Int32)), .val (.long x1), .second, .val (.ref b36), .val (.ref b38), .val (.int (1 : Int32))] [(.int (1 : Int32))])) _
                refine XS.goto X58.here hx rfl (pc0 := 104) (pc' := 108) rfl (hb hby at_104) (by decide) (by decide) ?_
                exact kk)
              obtain ⟨fs, hr, hrun, hended, hW, hsame⟩ := X58.leave (v := some (.int (1 : Int32))) (fun h => by rw [Bd.returns] at h; cases h)
              refine ⟨_, _, pre59 _ ?_, hrun, hended, _, _, rfl, ?_, ⟨_, rfl⟩, hW, hsame.mono (by decide) (by decide)⟩
              · exact retN X58 hx (t := .boolean) Bd.returns (by simp) (hb hby at_108) hr
              · exact ⟨rfl, N58⟩
          ·
            obtain ⟨_, _, ⟨T60, L60, k60, n60⟩, -, X60, ⟨Lc60, hQ60, l60, y60, z60⟩, st60⟩ := Jvm.LawKit.callS X0 hx (y := (⟨"java/lang/Integer", "valueOf", "(I)Ljava/lang/Integer;"⟩ : MethodName)) hown (mvT hZ (hw _ (List.mem_of_getElem? (i := 0) rfl))) (mvT hZ (hw _ (List.mem_of_getElem? (i := 1) rfl))) (mvT hZ (hw _ (List.mem_of_getElem? (i := 2) rfl))) (mvT hZ (hw _ (List.mem_of_getElem? (i := 3) rfl))) (by decide) (backOf (W := 0) (rm9 l Z a0 hw [] x2 w_cache k_cache vsC h0 n0 Z0 hc8 S_high hc34 S_cache V_cache X_cache) hZ (hw _ (List.mem_of_getElem? (i := 3) rfl)) (hw _ (List.mem_of_getElem? (i := 2) rfl)) (by decide) (by decide)) (g := (mkF m 43 #[.val (.long x0), .second, .val (.long x1), .second, .val (.int x2), .val (.int (0 : Int32)), .val (.long x1), .second, .unset, .unset, .unset] [(.int x2)])) rfl (by rw [hml]; rfl) (argsL := [(.int x2)]) (rest := []) (lenOf pd_2 rfl) rfl (by show 2 * 0 + _ ≤ _; exact Nat.le_of_eq rfl) (hb hby at_43) (fun _ _ => ⟨rfl, e0, (by decide : 0 + 0 ≤ _), (by decide : 0 + 0 ≤ _)⟩)
            dsimp only [Pt.U, Pt.locs, Pt.cells, Pt.slots] at X60 l60 y60 z60 st60 hQ60
            subst l60 y60 z60
            obtain ⟨b60, rfl, N60q, A60, e60⟩ := hQ60
            have N60 := Fr.app N0 N60q
            obtain ⟨T61, h61, X61, e61, E61, A61, D61, -, st61⟩ := newO X60 hx hZ hown (hw _ (List.mem_of_getElem? (i := 7) rfl)) (hw _ (List.mem_of_getElem? (i := 8) rfl)) (hw _ (List.mem_of_getElem? (i := 9) rfl)) e60 (g := (mkF m 48 #[.val (.long x0), .second, .val (.long x1), .second, .val (.int x2), .val (.int (0 : Int32)), .val (.long x1), .second, .val (.ref b60), .unset, .unset] [])) rfl (hb hby at_48) (by decide) (by decide)
            obtain ⟨b61, g61⟩ : ∃ z, z = h0.size := ⟨_, rfl⟩
            rw [← g61] at A61 D61 st61
            have F61_connection : Fld Z h61 b61 "com/example/grantd/grantd/front/Places$Waiting" "connection" "Ljava/lang/Object;" .null := D61 (Or.inr (hw _ (List.mem_of_getElem? (i := 22) rfl))) (ty := (.object "java/lang/Object")) (by decide)
            have F61_closableFrom : Fld Z h61 b61 "com/example/grantd/grantd/front/Places$Waiting" "closableFrom" "J" (.long (0 : Int64)) := D61 (Or.inr (hw _ (List.mem_of_getElem? (i := 24) rfl))) (ty := .long) (by decide)
            have F61_firstServed : Fld Z h61 b61 "com/example/grantd/grantd/front/Places$Waiting" "firstServed" "J" (.long (0 : Int64)) := D61 (Or.inr (hw _ (List.mem_of_getElem? (i := 26) rfl))) (ty := .long) (by decide)
            have F61_holdsHead : Fld Z h61 b61 "com/example/grantd/grantd/front/Places$Waiting" "holdsHead" "Z" (.int (0 : Int32)) := D61 (Or.inr (hw _ (List.mem_of_getElem? (i := 28) rfl))) (ty := .boolean) (by decide)
            have G61 : n0 ≤ b61 := (Nat.le_trans Z0 (Nat.le_of_eq g61.symm))
            have Z61 : n0 ≤ h61.size := Nat.le_trans Z0 E61.1
            obtain ⟨_, _, ⟨T62, L62, k62, n62⟩, -, X62, ⟨Lc62, hQ62, l62, y62, z62⟩, st62⟩ := X61.specialBack hx (y := (⟨"com/example/grantd/grantd/front/Places$Waiting", "<init>", "(Ljava/lang/Object;JJZ)V"⟩ : MethodName)) rfl hown (mvT hZ (hw _ (List.mem_of_getElem? (i := 10) rfl))) (mvT hZ (hw _ (List.mem_of_getElem? (i := 11) rfl))) (mvT hZ (hw _ (List.mem_of_getElem? (i := 12) rfl))) (by decide) (backOf (W := 1) (rm5 l Z a0 hw [] b61 b60 x0 x1 h61 n0 Z61 A61 F61_connection G61 F61_closableFrom F61_firstServed F61_holdsHead) hZ (hw _ (List.mem_of_getElem? (i := 12) rfl)) (hw _ (List.mem_of_getElem? (i := 9) rfl)) (by decide) (by decide)) (g := (mkF m 59 #[.val (.long x0), .second, .val (.long x1), .second, .val (.int x2), .val (.int (0 : Int32)), .val (.long x1), .second, .val (.ref b60), .unset, .unset] [(.int (0 : Int32)), (.long x1), (.long x0), (.ref b60), (.ref b61), (.ref b61)])) rfl (by rw [hml]; rfl) (Steps.refl _) (a := b61) (argsL := [(.ref b60), (.long x0), (.long x1), (.int (0 : Int32))]) (rest := [(.ref b61)]) (lenOf pd_3 rfl) rfl (by show 2 * 0 + _ ≤ _; exact Nat.le_of_eq rfl) (hb hby at_59) (fun _ _ => ⟨rfl, e61, (by decide : 1 + 0 ≤ _), (by decide : 4 + 0 ≤ _)⟩)
            dsimp only [Pt.U, Pt.locs, Pt.cells, Pt.slots] at X62 l62 y62 z62 st62 hQ62
            subst l62 y62 z62
            obtain ⟨rfl, N62q, h63, W63, h64, W64, h65, W65, h66, W66, e62⟩ := hQ62
            have N62 := Fr.app N60 N62q
            have Z63 : n0 ≤ h63.size := Nat.le_trans Z61 (Nat.le_of_eq W63.size.symm)
            have Fw63 := Fld.same W63 F61_connection
            have f67 : Exa Z h63 b61 "com/example/grantd/grantd/front/Places$Waiting" := (A61.wr W63)
            have f68 : Fld Z h63 b61 "com/example/grantd/grantd/front/Places$Waiting" "closableFrom" "J" (.long (0 : Int64)) := (F61_closableFrom.other W63 (Or.inr (slot_ne (Or.inr (hw _ (List.mem_of_getElem? (i := 24) rfl))) (Or.inr (hw _ (List.mem_of_getElem? (i := 22) rfl))) (by decide) (t := .long) (t' := (.object "java/lang/Object")) (by decide) (by decide))))
            have Z64 : n0 ≤ h64.size := Nat.le_trans Z63 (Nat.le_of_eq W64.size.symm)
            have Fw64 := Fld.same W64 f68
            have f69 : Exa Z h64 b61 "com/example/grantd/grantd/front/Places$Waiting" := (f67.wr W64)
            have f70 : Fld Z h64 b61 "com/example/grantd/grantd/front/Places$Waiting" "firstServed" "J" (.long (0 : Int64)) := ((F61_firstServed.other W63 (Or.inr (slot_ne (Or.inr (hw _ (List.mem_of_getElem? (i := 26) rfl))) (Or.inr (hw _ (List.mem_of_getElem? (i := 22) rfl))) (by decide) (t := .long) (t' := (.object "java/lang/Object")) (by decide) (by decide)))).other W64 (Or.inr (slot_ne (Or.inr (hw _ (List.mem_of_getElem? (i := 26) rfl))) (Or.inr (hw _ (List.mem_of_getElem? (i := 24) rfl))) (by decide) (t := .long) (t' := .long) (by decide) (by decide))))
            have Z65 : n0 ≤ h65.size := Nat.le_trans Z64 (Nat.le_of_eq W65.size.symm)
            have Fw65 := Fld.same W65 f70
            have f71 : Exa Z h65 b61 "com/example/grantd/grantd/front/Places$Waiting" := (f69.wr W65)
            have f72 : Fld Z h65 b61 "com/example/grantd/grantd/front/Places$Waiting" "holdsHead" "Z" (.int (0 : Int32)) := (((F61_holdsHead.other W63 (Or.inr (slot_ne (Or.inr (hw _ (List.mem_of_getElem? (i := 28) rfl))) (Or.inr (hw _ (List.mem_of_getElem? (i := 22) rfl))) (by decide) (t := .boolean) (t' := (.object "java/lang/Object")) (by decide) (by decide)))).other W64 (Or.inr (slot_ne (Or.inr (hw _ (List.mem_of_getElem? (i := 28) rfl))) (Or.inr (hw _ (List.mem_of_getElem? (i := 24) rfl))) (by decide) (t := .boolean) (t' := .long) (by decide) (by decide)))).other W65 (Or.inr (slot_ne (Or.inr (hw _ (List.mem_of_getElem? (i := 28) rfl))) (Or.inr (hw _ (List.mem_of_getElem? (i := 26) rfl))) (by decide) (t := .boolean) (t' := .long) (by decide) (by decide))))
            have Z66 : n0 ≤ h66.size := Nat.le_trans Z65 (Nat.le_of_eq W66.size.symm)
            have Fw66 := Fld.same W66 f72
            have pre73 : ∀ t, Steps p.tables e below (T62.setTop (mkF m 81 #[.val (.long x0), .second, .val (.long x1), .second, .val (.int x2), .val (.int (0 : Int32)), .val (.long x1), .second, .val (.ref b60), .val (.ref b61), .unset] [(.int (lcmpW x1 (9223372036854775807 : Int64)))])) t → Steps p.tables e below (s₁.setTop (entryFrame m #[(.long x0), (.long x1), (.int x2)] maxLocals)) t := fun t kk => pre7 t (by
              show Steps p.tables e below (s₁.setTop (mkF m 43 #[.val (.long x0), .second, .val (.long x1), .second, .val (.int x2), .val (.int (0 : Int32)), .val (.long x1), .second, .unset, .unset, .unset] [(.int x2)])) _
              refine st60 _ ?_
              show Steps p.tables e below (T60.setTop (mkF m 46 #[.val (.long x0), .second, .val (.long x1), .second, .val (.int x2), .val (.int (0 : Int32)), .val (.long x1), .second, .unset, .unset, .unset] [(.ref b60)])) _
              refine XS.astore X60.here hx rfl (hb hby at_46) rfl rfl (l' := #[.val (.long x0), .second, .val (.long x1), .second, .val (.int x2), .val (.int (0 : Int32)), .val (.long x1), .second, .val (.ref b60), .unset, .unset]) rfl ?_
              show Steps p.tables e below (T60.setTop (mkF m 48 #[.val (.long x0), .second, .val (.long x1), .second, .val (.int x2), .val (.int (0 : Int32)), .val (.long x1), .second, .val (.ref b60), .unset, .unset] [])) _
              refine st61 _ ?_
              show Steps p.tables e below (T61.setTop (mkF m 51 #[.val (.long x0), .second, .val (.long x1), .second, .val (.int x2), .val (.int (0 : Int32)), .val (.long x1), .second, .val (.ref b60), .unset, .unset] [(.ref b61)])) _
              refine XS.dup X61.here hx rfl (hb hby at_51) rfl rfl ?_
              show Steps p.tables e below (T61.setTop (mkF m 52 #[.val (.long x0), .second, .val (.long x1), .second, .val (.int x2), .val (.int (0 : Int32)), .val (.long x1), .second, .val (.ref b60), .unset, .unset] [(.ref b61), (.ref b61)])) _
              refine XS.aload X61.here hx rfl (hb hby at_52) rfl rfl ?_
              show Steps p.tables e below (T61.setTop (mkF m 54 #[.val (.long x0), .second, .val (.long x1), .second, .val (.int x2), .val (.int (0 : Int32)), .val (.long x1), .second, .val (.ref b60), .unset, .unset] [(.ref b60), (.ref b61), (.ref b61)])) _
              refine XS.lloadN X61.here hx rfl (hb hby at_54) rfl ?_
              show Steps p.tables e below (T61.setTop (mkF m 55 #[.val (.long x0), .second, .val (.long x1), .second, .val (.int x2), .val (.int (0 : Int32)), .val (.long x1), .second, .val (.ref b60), .unset, .unset] [(.long x0), (.ref b60), (.ref b61), (.ref b61)])) _
              refine XS.lload X61.here hx rfl (hb hby at_55) rfl ?_
              show Steps p.tables e below (T61.setTop (mkF m 57 #[.val (.long x0), .second, .val (.long x1), .second, .val (.int x2), .val (.int (0 : Int32)), .val (.long x1), .second, .val (.ref b60), .unset, .unset] [(.long x1), (.long x0), (.ref b60), (.ref b61), (.ref b61)])) _
              refine XS.iload X61.here hx rfl (hb hby at_57) rfl ?_
              show Steps p.tables e below (T61.setTop (mkF m 59 #[.val (.long x0), .second, .val (.long x1), .second, .val (.int x2), .val (.int (0 : Int32)), .val (.long x1), .second, .val (.ref b60), .unset, .unset] [(.int (0 : Int32)), (.long x1), (.long x0), (.ref b60), (.ref b61), (.ref b61)])) _
              refine st62.trans ?_
              show Steps p.tables e below (T62.setTop (mkF m 62 #[.val (.long x0), .second, .val (.long x1), .second, .val (.int x2), .val (.int (0 : Int32)), .val (.long x1), .second, .val (.ref b60), .unset, .unset] [(.ref b61)])) _
              refine XS.astore X62.here hx rfl (hb hby at_62) rfl rfl (l' := #[.val (.long x0), .second, .val (.long x1), .second, .val (.int x2), .val (.int (0 : Int32)), .val (.long x1), .second, .val (.ref b60), .val (.ref b61), .unset]) rfl ?_
              show Steps p.tables e below (T62.setTop (mkF m 64 #[.val (.long x0), .second, .val (.long x1), .second, .val (.int x2), .val (.int (0 : Int32)), .val (.long x1), .second, .val (.ref b60), .val (.ref b61), .unset] [])) _
              refine XS.iload X62.here hx rfl (hb hby at_64) rfl ?_
              show Steps p.tables e below (T62.setTop (mkF m 66 #[.val (.long x0), .second, .val (.long x1), .second, .val (.int x2), .val (.int (0 : Int32)), .val (.long x1), .second, .val (.ref b60), .val (.ref b61), .unset] [(.int (0 : Int32))])) _
              refine XS.ifYes X62.here hx rfl (pc0 := 66) (pc' := 75) rfl (hb hby at_66) rfl ((if0 _ _).trans (teq ((by decide) : (0 : Int32) = (0 : Int32))).1) (by decide) (by decide) ?_
              show Steps p.tables e below (T62.setTop (mkF m 75 #[.val (.long x0), .second, .val (.long x1), .second, .val (.int x2), .val (.int (0 : Int32)), .val (.long x1), .second, .val (.ref b60), .val (.ref b61), .unset] [])) _
              refine XS.lload X62.here hx rfl (hb hby at_75) rfl ?_
              show Steps p.tables e below (T62.setTop (mkF m 77 #[.val (.long x0), .second, .val (.long x1), .second, .val (.int x2), .val (.int (0 : Int32)), .val (.long x1), .second, .val (.ref b60), .val (.ref b61), .unset] [(.long x1)])) _
              refine X62.ldc2Long hx hown (mvT hZ (hw _ (List.mem_of_getElem? (i := 29) rfl))) (g := (mkF m 77 #[.val (.long x0), .second, .val (.long x1), .second, .val (.int x2), .val (.int (0 : Int32)), .val (.long x1), .second, .val (.ref b60), .val (.ref b61), .unset] [(.long x1)])) rfl (hb hby at_77) _ ?_
              show Steps p.tables e below (T62.setTop (mkF m 80 #[.val (.long x0), .second, .val (.long x1), .second, .val (.int x2), .val (.int (0 : Int32)), .val (.long x1), .second, .val (.ref b60), .val (.ref b61), .unset] [(.long (9223372036854775807 : Int64)), (.long x1)])) _
              refine XS.lcmp X62.here hx rfl (hb hby at_80) rfl ?_
              exact kk)
            by_cases hc74 : (lcmpW x1 (9223372036854775807 : Int64)) = (0 : Int32)
            ·
              have f75 : Exa Z h66 b61 "com/example/grantd/grantd/front/Places$Waiting" := (f71.wr W66)
              have f76 : Fld Z h66 b61 "com/example/grantd/grantd/front/Places$Waiting" "firstServed" "J" (.long x1) := (Fw65.other W66 (Or.inr (slot_ne (Or.inr (hw _ (List.mem_of_getElem? (i := 26) rfl))) (Or.inr (hw _ (List.mem_of_getElem? (i := 28) rfl))) (by decide) (t := .long) (t' := .boolean) (by decide) (by decide))))
              obtain ⟨cq77, kq77, q77a, q77b, q77c⟩ := isOf hZ e62 f75
              obtain ⟨_, _, ⟨T77, L77, k77, n77⟩, -, X77, ⟨Lc77, hQ77, l77, y77, z77⟩, st77⟩ := X62.virtualBack hx (y := (⟨"com/example/grantd/grantd/front/Places$Waiting", "isBetweenRequests", "()Z"⟩ : MethodName)) (z := (⟨"com/example/grantd/grantd/front/Places$Waiting", "isBetweenRequests", "()Z"⟩ : MethodName)) hown (mvT hZ (hw _ (List.mem_of_getElem? (i := 30) rfl))) (mvT hZ (hw _ (List.mem_of_getElem? (i := 31) rfl))) (notFace_of_selects (args := #[]) (mvT hZ (hw _ (List.mem_of_getElem? (i := 33) rfl)))) (mvT hZ (hw _ (List.mem_of_getElem? (i := 33) rfl))) (mvT hZ (hw _ (List.mem_of_getElem? (i := 32) rfl))) (by decide) (backOf (W := 0) (rm6 l Z a0 hw [] b61 x1 h66 n0 Z66 f76 hc74) hZ (hw _ (List.mem_of_getElem? (i := 34) rfl)) (hw _ (List.mem_of_getElem? (i := 9) rfl)) (by decide) (by decide)) q77a q77c (g := (mkF m 95 #[.val (.long x0), .second, .val (.long x1), .second, .val (.int x2), .val (.int (0 : Int32)), .val (.long x1), .second, .val (.ref b60), .val (.ref b61), .val (.int (0 : Int32))] [(.ref b61)])) rfl (by rw [hml]; rfl) (Steps.refl _) (argsL := []) (rest := []) (lenOf pd_4 rfl) rfl (by show 2 * 0 + _ ≤ _; exact Nat.le_of_eq rfl) (hb hby at_95) (fun _ _ => ⟨rfl, e62, (by decide : 1 + 0 ≤ _), (by decide : 4 + 0 ≤ _)⟩)
              dsimp only [Pt.U, Pt.locs, Pt.cells, Pt.slots] at X77 l77 y77 z77 st77 hQ77
              subst l77 y77 z77
              obtain ⟨rfl, N77q, e77⟩ := hQ77
              have N77 := Fr.app N62 N77q
              have pre78 : ∀ t, Steps p.tables e below (T77.setTop (mkF m 108 #[.val (.long x0), .second, .val (.long x1), .second, .val (.int x2), .val (.int (0 : Int32)), .val (.long x1), .second, .val (.ref b60), .val (.ref b61), .val (.int (0 : Int32))] [(.int (1 : Int32))])) t → Steps p.tables e below (s₁.setTop (entryFrame m #[(.long x0), (.long x1), (.int x2)] maxLocals)) t := fun t kk => pre73 t (by
                show Steps p.tables e below (T62.setTop (mkF m 81 #[.val (.long x0), .second, .val (.long x1), .second, .val (.int x2), .val (.int (0 : Int32)), .val (.long x1), .second, .val (.ref b60), .val (.ref b61), .unset] [(.int (lcmpW x1 (9223372036854775807 : Int64)))])) _
                refine XS.ifNo X62.here hx rfl (hb hby at_81) rfl ((if0 _ _).trans (teq (hc74 : (lcmpW x1 (9223372036854775807 : Int64)) = (0 : Int32))).2) ?_
                show Steps p.tables e below (T62.setTop (mkF m 84 #[.val (.long x0), .second, .val (.long x1), .second, .val (.int x2), .val (.int (0 : Int32)), .val (.long x1), .second, .val (.ref b60), .val (.ref b61), .unset] [])) _
                refine XS.iconst X62.here hx rfl (hb hby at_84) ?_
                show Steps p.tables e below (T62.setTop (mkF m 85 #[.val (.long x0), .second, .val (.long x1), .second, .val (.int x2), .val (.int (0 : Int32)), .val (.long x1), .second, .val (.ref b60), .val (.ref b61), .unset] [(.int (0 : Int32))])) _
                refine XS.istore X62.here hx rfl (hb hby at_85) rfl (l' := #[.val (.long x0), .second, .val (.long x1), .second, .val (.int x2), .val (.int (0 : Int32)), .val (.long x1), .second, .val (.ref b60), .val (.ref b61), .val (.int (0 : Int32))]) rfl ?_
                show Steps p.tables e below (T62.setTop (mkF m 87 #[.val (.long x0), .second, .val (.long x1), .second, .val (.int x2), .val (.int (0 : Int32)), .val (.long x1), .second, .val (.ref b60), .val (.ref b61), .val (.int (0 : Int32))] [])) _
                refine XS.goto X62.here hx rfl (pc0 := 87) (pc' := 93) rfl (hb hby at_87) (by decide) (by decide) ?_
                show Steps p.tables e below (T62.setTop (mkF m 93 #[.val (.long x0), .second, .val (.long x1), .second, .val (.int x2), .val (.int (0 : Int32)), .val (.long x1), .second, .val (.ref b60), .val (.ref b61), .val (.int (0 : Int32))] [])) _
                refine XS.aload X62.here hx rfl (hb hby at_93) rfl rfl ?_
                show Steps p.tables e below (T62.setTop (mkF m 95 #[.val (.long x0), .second, .val (.long x1), .second, .val (.int x2), .val (.int (0 : Int32)), .val (.long x1), .second, .val (.ref b60), .val (.ref b61), .val (.int (0 : Int32))] [(.ref b61)])) _
                refine st77.trans ?_
                show Steps p.tables e below (T77.setTop (mkF m 98 #[.val (.long x0), .second, .val (.long x1), .second, .val (.int x2), .val (.int (0 : Int32)), .val (.long x1), .second, .val (.ref b60), .val (.ref b61), .val (.int (0 : Int32))] [(.int (0 : Int32))])) _
                refine XS.iload X77.here hx rfl (hb hby at_98) rfl ?_
                show Steps p.tables e below (T77.setTop (mkF m 100 #[.val (.long x0), .second, .val (.long x1), .second, .val (.int x2), .val (.int (0 : Int32)), .val (.long x1), .second, .val (.ref b60), .val (.ref b61), .val (.int (0 : Int32))] [(.int (0 : Int32)), (.int (0 : Int32))])) _
                refine XS.icmpNo X77.here hx rfl (hb hby at_100) rfl (teq ((by decide) : (0 : Int32) = (0 : Int32))).2 ?_
                show Steps p.tables e below (T77.setTop (mkF m 103 #[.val (.long x0), .second, .val (.long x1), .second, .val (.int x2), .val (.int (0 : Int32)), .val (.long x1), .second, .val (.ref b60), .val (.ref b61), .val (.int (0 : Int32))] [])) _
                refine XS.iconst X77.here hx rfl (hb hby at_103) ?_
                show Steps p.tables e below (T77.setTop (mkF m 104 #[.val (.long x0), .second, .val (.long x1), .second, .val (.int x2), .val (.int (0 : Int32)), .val (.long x1), .second, .val (.ref b60), .val (.ref b61), .val (.int (0 : Int32))] [(.int (1 : Int32))])) _
                refine XS.goto X77.here hx rfl (pc0 := 104) (pc' := 108) rfl (hb hby at_104) (by decide) (by decide) ?_
                exact kk)
              obtain ⟨fs, hr, hrun, hended, hW, hsame⟩ := X77.leave (v := some (.int (1 : Int32))) (fun h => by rw [Bd.returns] at h; cases h)
              refine ⟨_, _, pre78 _ ?_, hrun, hended, _, _, rfl, ?_, ⟨_, rfl⟩, hW, hsame.mono (by decide) (by decide)⟩
              · exact retN X77 hx (t := .boolean) Bd.returns (by simp) (hb hby at_108) hr
              · exact ⟨rfl, N77⟩
            ·
              have f79 : Exa Z h66 b61 "com/example/grantd/grantd/front/Places$Waiting" := (f71.wr W66)
              have f80 : Fld Z h66 b61 "com/example/grantd/grantd/front/Places$Waiting" "firstServed" "J" (.long x1) := (Fw65.other W66 (Or.inr (slot_ne (Or.inr (hw _ (List.mem_of_getElem? (i := 26) rfl))) (Or.inr (hw _ (List.mem_of_getElem? (i := 28) rfl))) (by decide) (t := .long) (t' := .boolean) (by decide) (by decide))))
              obtain ⟨cq81, kq81, q81a, q81b, q81c⟩ := isOf hZ e62 f79
              obtain ⟨_, _, ⟨T81, L81, k81, n81⟩, -, X81, ⟨Lc81, hQ81, l81, y81, z81⟩, st81⟩ := X62.virtualBack hx (y := (⟨"com/example/grantd/grantd/front/Places$Waiting", "isBetweenRequests", "()Z"⟩ : MethodName)) (z := (⟨"com/example/grantd/grantd/front/Places$Waiting", "isBetweenRequests", "()Z"⟩ : MethodName)) hown (mvT hZ (hw _ (List.mem_of_getElem? (i := 30) rfl))) (mvT hZ (hw _ (List.mem_of_getElem? (i := 31) rfl))) (notFace_of_selects (args := #[]) (mvT hZ (hw _ (List.mem_of_getElem? (i := 33) rfl)))) (mvT hZ (hw _ (List.mem_of_getElem? (i := 33) rfl))) (mvT hZ (hw _ (List.mem_of_getElem? (i := 32) rfl))) (by decide) (backOf (W := 0) (rm7 l Z a0 hw [] b61 x1 h66 n0 Z66 f80 hc74 Fw66) hZ (hw _ (List.mem_of_getElem? (i := 34) rfl)) (hw _ (List.mem_of_getElem? (i := 9) rfl)) (by decide) (by decide)) q81a q81c (g := (mkF m 95 #[.val (.long x0), .second, .val (.long x1), .second, .val (.int x2), .val (.int (0 : Int32)), .val (.long x1), .second, .val (.ref b60), .val (.ref b61), .val (.int (1 : Int32))] [(.ref b61)])) rfl (by rw [hml]; rfl) (Steps.refl _) (argsL := []) (rest := []) (lenOf pd_4 rfl) rfl (by show 2 * 0 + _ ≤ _; exact Nat.le_of_eq rfl) (hb hby at_95) (fun _ _ => ⟨rfl, e62, (by decide : 1 + 0 ≤ _), (by decide : 4 + 0 ≤ _)⟩)
              dsimp only [Pt.U, Pt.locs, Pt.cells, Pt.slots] at X81 l81 y81 z81 st81 hQ81
              subst l81 y81 z81
              obtain ⟨rfl, N81q, e81⟩ := hQ81
              have N81 := Fr.app N62 N81q
              have pre82 : ∀ t, Steps p.tables e below (T81.setTop (mkF m 108 #[.val (.long x0), .second, .val (.long x1), .second, .val (.int x2), .val (.int (0 : Int32)), .val (.long x1), .second, .val (.ref b60), .val (.ref b61), .val (.int (1 : Int32))] [(.int (1 : Int32))])) t → Steps p.tables e below (s₁.setTop (entryFrame m #[(.long x0), (.long x1), (.int x2)] maxLocals)) t := fun t kk => pre73 t (by
                show Steps p.tables e below (T62.setTop (mkF m 81 #[.val (.long x0), .second, .val (.long x1), .second, .val (.int x2), .val (.int (0 : Int32)), .val (.long x1), .second, .val (.ref b60), .val (.ref b61), .unset] [(.int (lcmpW x1 (9223372036854775807 : Int64)))])) _
                refine XS.ifYes X62.here hx rfl (pc0 := 81) (pc' := 90) rfl (hb hby at_81) rfl ((if0 _ _).trans (feq (hc74 : ¬ ((lcmpW x1 (9223372036854775807 : Int64)) = (0 : Int32)))).2) (by decide) (by decide) ?_
                show Steps p.tables e below (T62.setTop (mkF m 90 #[.val (.long x0), .second, .val (.long x1), .second, .val (.int x2), .val (.int (0 : Int32)), .val (.long x1), .second, .val (.ref b60), .val (.ref b61), .unset] [])) _
                refine XS.iconst X62.here hx rfl (hb hby at_90) ?_
                show Steps p.tables e below (T62.setTop (mkF m 91 #[.val (.long x0), .second, .val (.long x1), .second, .val (.int x2), .val (.int (0 : Int32)), .val (.long x1), .second, .val (.ref b60), .val (.ref b61), .unset] [(.int (1 : Int32))])) _
                refine XS.istore X62.here hx rfl (hb hby at_91) rfl (l' := #[.val (.long x0), .second, .val (.long x1), .second, .val (.int x2), .val (.int (0 : Int32)), .val (.long x1), .second, .val (.ref b60), .val (.ref b61), .val (.int (1 : Int32))]) rfl ?_
                show Steps p.tables e below (T62.setTop (mkF m 93 #[.val (.long x0), .second, .val (.long x1), .second, .val (.int x2), .val (.int (0 : Int32)), .val (.long x1), .second, .val (.ref b60), .val (.ref b61), .val (.int (1 : Int32))] [])) _
                refine XS.aload X62.here hx rfl (hb hby at_93) rfl rfl ?_
                show Steps p.tables e below (T62.setTop (mkF m 95 #[.val (.long x0), .second, .val (.long x1), .second, .val (.int x2), .val (.int (0 : Int32)), .val (.long x1), .second, .val (.ref b60), .val (.ref b61), .val (.int (1 : Int32))] [(.ref b61)])) _
                refine st81.trans ?_
                show Steps p.tables e below (T81.setTop (mkF m 98 #[.val (.long x0), .second, .val (.long x1), .second, .val (.int x2), .val (.int (0 : Int32)), .val (.long x1), .second, .val (.ref b60), .val (.ref b61), .val (.int (1 : Int32))] [(.int (1 : Int32))])) _
                refine XS.iload X81.here hx rfl (hb hby at_98) rfl ?_
                show Steps p.tables e below (T81.setTop (mkF m 100 #[.val (.long x0), .second, .val (.long x1), .second, .val (.int x2), .val (.int (0 : Int32)), .val (.long x1), .second, .val (.ref b60), .val (.ref b61), .val (.int (1 : Int32))] [(.int (1 : Int32)), (.int (1 : Int32))])) _
                refine XS.icmpNo X81.here hx rfl (hb hby at_100) rfl (teq ((by decide) : (1 : Int32) = (1 : Int32))).2 ?_
                show Steps p.tables e below (T81.setTop (mkF m 103 #[.val (.long x0), .second, .val (.long x1), .second, .val (.int x2), .val (.int (0 : Int32)), .val (.long x1), .second, .val (.ref b60), .val (.ref b61), .val (.int (1 : Int32))] [])) _
                refine XS.iconst X81.here hx rfl (hb hby at_103) ?_
                show Steps p.tables e below (T81.setTop (mkF m 104 #[.val (.long x0), .second, .val (.long x1), .second, .val (.int x2), .val (.int (0 : Int32)), .val (.long x1), .second, .val (.ref b60), .val (.ref b61), .val (.int (1 : Int32))] [(.int (1 : Int32))])) _
                refine XS.goto X81.here hx rfl (pc0 := 104) (pc' := 108) rfl (hb hby at_104) (by decide) (by decide) ?_
                exact kk)
              obtain ⟨fs, hr, hrun, hended, hW, hsame⟩ := X81.leave (v := some (.int (1 : Int32))) (fun h => by rw [Bd.returns] at h; cases h)
              refine ⟨_, _, pre82 _ ?_, hrun, hended, _, _, rfl, ?_, ⟨_, rfl⟩, hW, hsame.mono (by decide) (by decide)⟩
              · exact retN X81 hx (t := .boolean) Bd.returns (by simp) (hb hby at_108) hr
              · exact ⟨rfl, N81⟩
      ·
        obtain ⟨T83, h83, X83, e83, E83, A83, D83, -, st83⟩ := newO X0 hx hZ hown (hw _ (List.mem_of_getElem? (i := 7) rfl)) (hw _ (List.mem_of_getElem? (i := 8) rfl)) (hw _ (List.mem_of_getElem? (i := 9) rfl)) e0 (g := (mkF m 48 #[.val (.long x0), .second, .val (.long x1), .second, .val (.int x2), .val (.int (0 : Int32)), .val (.long x1), .second, .val .null, .unset, .unset] [])) rfl (hb hby at_48) (by decide) (by decide)
        obtain ⟨b83, g83⟩ : ∃ z, z = h0.size := ⟨_, rfl⟩
        rw [← g83] at A83 D83 st83
        have F83_connection : Fld Z h83 b83 "com/example/grantd/grantd/front/Places$Waiting" "connection" "Ljava/lang/Object;" .null := D83 (Or.inr (hw _ (List.mem_of_getElem? (i := 22) rfl))) (ty := (.object "java/lang/Object")) (by decide)
        have F83_closableFrom : Fld Z h83 b83 "com/example/grantd/grantd/front/Places$Waiting" "closableFrom" "J" (.long (0 : Int64)) := D83 (Or.inr (hw _ (List.mem_of_getElem? (i := 24) rfl))) (ty := .long) (by decide)
        have F83_firstServed : Fld Z h83 b83 "com/example/grantd/grantd/front/Places$Waiting" "firstServed" "J" (.long (0 : Int64)) := D83 (Or.inr (hw _ (List.mem_of_getElem? (i := 26) rfl))) (ty := .long) (by decide)
        have F83_holdsHead : Fld Z h83 b83 "com/example/grantd/grantd/front/Places$Waiting" "holdsHead" "Z" (.int (0 : Int32)) := D83 (Or.inr (hw _ (List.mem_of_getElem? (i := 28) rfl))) (ty := .boolean) (by decide)
        have G83 : n0 ≤ b83 := (Nat.le_trans Z0 (Nat.le_of_eq g83.symm))
        have Z83 : n0 ≤ h83.size := Nat.le_trans Z0 E83.1
        obtain ⟨_, _, ⟨T84, L84, k84, n84⟩, -, X84, ⟨Lc84, hQ84, l84, y84, z84⟩, st84⟩ := X83.specialBack hx (y := (⟨"com/example/grantd/grantd/front/Places$Waiting", "<init>", "(Ljava/lang/Object;JJZ)V"⟩ : MethodName)) rfl hown (mvT hZ (hw _ (List.mem_of_getElem? (i := 10) rfl))) (mvT hZ (hw _ (List.mem_of_getElem? (i := 11) rfl))) (mvT hZ (hw _ (List.mem_of_getElem? (i := 12) rfl))) (by decide) (backOf (W := 1) (rm10 l Z a0 hw [] b83 x0 x1 h83 n0 Z83 A83 F83_connection G83 F83_closableFrom F83_firstServed F83_holdsHead) hZ (hw _ (List.mem_of_getElem? (i := 12) rfl)) (hw _ (List.mem_of_getElem? (i := 9) rfl)) (by decide) (by decide)) (g := (mkF m 59 #[.val (.long x0), .second, .val (.long x1), .second, .val (.int x2), .val (.int (0 : Int32)), .val (.long x1), .second, .val .null, .unset, .unset] [(.int (0 : Int32)), (.long x1), (.long x0), .null, (.ref b83), (.ref b83)])) rfl (by rw [hml]; rfl) (Steps.refl _) (a := b83) (argsL := [.null, (.long x0), (.long x1), (.int (0 : Int32))]) (rest := [(.ref b83)]) (lenOf pd_3 rfl) rfl (by show 2 * 0 + _ ≤ _; exact Nat.le_of_eq rfl) (hb hby at_59) (fun _ _ => ⟨rfl, e83, (by decide : 1 + 0 ≤ _), (by decide : 4 + 0 ≤ _)⟩)
        dsimp only [Pt.U, Pt.locs, Pt.cells, Pt.slots] at X84 l84 y84 z84 st84 hQ84
        subst l84 y84 z84
        obtain ⟨rfl, N84q, h85, W85, h86, W86, h87, W87, h88, W88, e84⟩ := hQ84
        have N84 := Fr.app N0 N84q
        have Z85 : n0 ≤ h85.size := Nat.le_trans Z83 (Nat.le_of_eq W85.size.symm)
        have Fw85 := Fld.same W85 F83_connection
        have f89 : Exa Z h85 b83 "com/example/grantd/grantd/front/Places$Waiting" := (A83.wr W85)
        have f90 : Fld Z h85 b83 "com/example/grantd/grantd/front/Places$Waiting" "closableFrom" "J" (.long (0 : Int64)) := (F83_closableFrom.other W85 (Or.inr (slot_ne (Or.inr (hw _ (List.mem_of_getElem? (i := 24) rfl))) (Or.inr (hw _ (List.mem_of_getElem? (i := 22) rfl))) (by decide) (t := .long) (t' := (.object "java/lang/Object")) (by decide) (by decide))))
        have Z86 : n0 ≤ h86.size := Nat.le_trans Z85 (Nat.le_of_eq W86.size.symm)
        have Fw86 := Fld.same W86 f90
        have f91 : Exa Z h86 b83 "com/example/grantd/grantd/front/Places$Waiting" := (f89.wr W86)
        have f92 : Fld Z h86 b83 "com/example/grantd/grantd/front/Places$Waiting" "firstServed" "J" (.long (0 : Int64)) := ((F83_firstServed.other W85 (Or.inr (slot_ne (Or.inr (hw _ (List.mem_of_getElem? (i := 26) rfl))) (Or.inr (hw _ (List.mem_of_getElem? (i := 22) rfl))) (by decide) (t := .long) (t' := (.object "java/lang/Object")) (by decide) (by decide)))).other W86 (Or.inr (slot_ne (Or.inr (hw _ (List.mem_of_getElem? (i := 26) rfl))) (Or.inr (hw _ (List.mem_of_getElem? (i := 24) rfl))) (by decide) (t := .long) (t' := .long) (by decide) (by decide))))
        have Z87 : n0 ≤ h87.size := Nat.le_trans Z86 (Nat.le_of_eq W87.size.symm)
        have Fw87 := Fld.same W87 f92
        have f93 : Exa Z h87 b83 "com/example/grantd/grantd/front/Places$Waiting" := (f91.wr W87)
        have f94 : Fld Z h87 b83 "com/example/grantd/grantd/front/Places$Waiting" "holdsHead" "Z" (.int (0 : Int32)) := (((F83_holdsHead.other W85 (Or.inr (slot_ne (Or.inr (hw _ (List.mem_of_getElem? (i := 28) rfl))) (Or.inr (hw _ (List.mem_of_getElem? (i := 22) rfl))) (by decide) (t := .boolean) (t' := (.object "java/lang/Object")) (by decide) (by decide)))).other W86 (Or.inr (slot_ne (Or.inr (hw _ (List.mem_of_getElem? (i := 28) rfl))) (Or.inr (hw _ (List.mem_of_getElem? (i := 24) rfl))) (by decide) (t := .boolean) (t' := .long) (by decide) (by decide)))).other W87 (Or.inr (slot_ne (Or.inr (hw _ (List.mem_of_getElem? (i := 28) rfl))) (Or.inr (hw _ (List.mem_of_getElem? (i := 26) rfl))) (by decide) (t := .boolean) (t' := .long) (by decide) (by decide))))
        have Z88 : n0 ≤ h88.size := Nat.le_trans Z87 (Nat.le_of_eq W88.size.symm)
        have Fw88 := Fld.same W88 f94
        have pre95 : ∀ t, Steps p.tables e below (T84.setTop (mkF m 81 #[.val (.long x0), .second, .val (.long x1), .second, .val (.int x2), .val (.int (0 : Int32)), .val (.long x1), .second, .val .null, .val (.ref b83), .unset] [(.int (lcmpW x1 (9223372036854775807 : Int64)))])) t → Steps p.tables e below (s₁.setTop (entryFrame m #[(.long x0), (.long x1), (.int x2)] maxLocals)) t := fun t kk => pre5 t (by
          show Steps p.tables e below (s₁.setTop (mkF m 34 #[.val (.long x0), .second, .val (.long x1), .second, .val (.int x2), .val (.int (0 : Int32)), .val (.long x1), .second, .unset, .unset, .unset] [(.int (x2 &&& (4 : Int32)))])) _
          refine XS.ifNo X0.here hx rfl (hb hby at_34) rfl ((if0 _ _).trans (feq (hc6 : ¬ ((x2 &&& (4 : Int32)) = (0 : Int32)))).1) ?_
          show Steps p.tables e below (s₁.setTop (mkF m 37 #[.val (.long x0), .second, .val (.long x1), .second, .val (.int x2), .val (.int (0 : Int32)), .val (.long x1), .second, .unset, .unset, .unset] [])) _
          refine XS.aconstNull X0.here hx rfl (hb hby at_37) ?_
          show Steps p.tables e below (s₁.setTop (mkF m 38 #[.val (.long x0), .second, .val (.long x1), .second, .val (.int x2), .val (.int (0 : Int32)), .val (.long x1), .second, .unset, .unset, .unset] [.null])) _
          refine XS.goto X0.here hx rfl (pc0 := 38) (pc' := 46) rfl (hb hby at_38) (by decide) (by decide) ?_
          show Steps p.tables e below (s₁.setTop (mkF m 46 #[.val (.long x0), .second, .val (.long x1), .second, .val (.int x2), .val (.int (0 : Int32)), .val (.long x1), .second, .unset, .unset, .unset] [.null])) _
          refine XS.astore X0.here hx rfl (hb hby at_46) rfl rfl (l' := #[.val (.long x0), .second, .val (.long x1), .second, .val (.int x2), .val (.int (0 : Int32)), .val (.long x1), .second, .val .null, .unset, .unset]) rfl ?_
          show Steps p.tables e below (s₁.setTop (mkF m 48 #[.val (.long x0), .second, .val (.long x1), .second, .val (.int x2), .val (.int (0 : Int32)), .val (.long x1), .second, .val .null, .unset, .unset] [])) _
          refine st83 _ ?_
          show Steps p.tables e below (T83.setTop (mkF m 51 #[.val (.long x0), .second, .val (.long x1), .second, .val (.int x2), .val (.int (0 : Int32)), .val (.long x1), .second, .val .null, .unset, .unset] [(.ref b83)])) _
          refine XS.dup X83.here hx rfl (hb hby at_51) rfl rfl ?_
          show Steps p.tables e below (T83.setTop (mkF m 52 #[.val (.long x0), .second, .val (.long x1), .second, .val (.int x2), .val (.int (0 : Int32)), .val (.long x1), .second, .val .null, .unset, .unset] [(.ref b83), (.ref b83)])) _
          refine XS.aload X83.here hx rfl (hb hby at_52) rfl rfl ?_
          show Steps p.tables e below (T83.setTop (mkF m 54 #[.val (.long x0), .second, .val (.long x1), .second, .val (.int x2), .val (.int (0 : Int32)), .val (.long x1), .second, .val .null, .unset, .unset] [.null, (.ref b83), (.ref b83)])) _
          refine XS.lloadN X83.here hx rfl (hb hby at_54) rfl ?_
          show Steps p.tables e below (T83.setTop (mkF m 55 #[.val (.long x0), .second, .val (.long x1), .second, .val (.int x2), .val (.int (0 : Int32)), .val (.long x1), .second, .val .null, .unset, .unset] [(.long x0), .null, (.ref b83), (.ref b83)])) _
          refine XS.lload X83.here hx rfl (hb hby at_55) rfl ?_
          show Steps p.tables e below (T83.setTop (mkF m 57 #[.val (.long x0), .second, .val (.long x1), .second, .val (.int x2), .val (.int (0 : Int32)), .val (.long x1), .second, .val .null, .unset, .unset] [(.long x1), (.long x0), .null, (.ref b83), (.ref b83)])) _
          refine XS.iload X83.here hx rfl (hb hby at_57) rfl ?_
          show Steps p.tables e below (T83.setTop (mkF m 59 #[.val (.long x0), .second, .val (.long x1), .second, .val (.int x2), .val (.int (0 : Int32)), .val (.long x1), .second, .val .null, .unset, .unset] [(.int (0 : Int32)), (.long x1), (.long x0), .null, (.ref b83), (.ref b83)])) _
          refine st84.trans ?_
          show Steps p.tables e below (T84.setTop (mkF m 62 #[.val (.long x0), .second, .val (.long x1), .second, .val (.int x2), .val (.int (0 : Int32)), .val (.long x1), .second, .val .null, .unset, .unset] [(.ref b83)])) _
          refine XS.astore X84.here hx rfl (hb hby at_62) rfl rfl (l' := #[.val (.long x0), .second, .val (.long x1), .second, .val (.int x2), .val (.int (0 : Int32)), .val (.long x1), .second, .val .null, .val (.ref b83), .unset]) rfl ?_
          show Steps p.tables e below (T84.setTop (mkF m 64 #[.val (.long x0), .second, .val (.long x1), .second, .val (.int x2), .val (.int (0 : Int32)), .val (.long x1), .second, .val .null, .val (.ref b83), .unset] [])) _
          refine XS.iload X84.here hx rfl (hb hby at_64) rfl ?_
          show Steps p.tables e below (T84.setTop (mkF m 66 #[.val (.long x0), .second, .val (.long x1), .second, .val (.int x2), .val (.int (0 : Int32)), .val (.long x1), .second, .val .null, .val (.ref b83), .unset] [(.int (0 : Int32))])) _
          refine XS.ifYes X84.here hx rfl (pc0 := 66) (pc' := 75) rfl (hb hby at_66) rfl ((if0 _ _).trans (teq ((by decide) : (0 : Int32) = (0 : Int32))).1) (by decide) (by decide) ?_
          show Steps p.tables e below (T84.setTop (mkF m 75 #[.val (.long x0), .second, .val (.long x1), .second, .val (.int x2), .val (.int (0 : Int32)), .val (.long x1), .second, .val .null, .val (.ref b83), .unset] [])) _
          refine XS.lload X84.here hx rfl (hb hby at_75) rfl ?_
          show Steps p.tables e below (T84.setTop (mkF m 77 #[.val (.long x0), .second, .val (.long x1), .second, .val (.int x2), .val (.int (0 : Int32)), .val (.long x1), .second, .val .null, .val (.ref b83), .unset] [(.long x1)])) _
          refine X84.ldc2Long hx hown (mvT hZ (hw _ (List.mem_of_getElem? (i := 29) rfl))) (g := (mkF m 77 #[.val (.long x0), .second, .val (.long x1), .second, .val (.int x2), .val (.int (0 : Int32)), .val (.long x1), .second, .val .null, .val (.ref b83), .unset] [(.long x1)])) rfl (hb hby at_77) _ ?_
          show Steps p.tables e below (T84.setTop (mkF m 80 #[.val (.long x0), .second, .val (.long x1), .second, .val (.int x2), .val (.int (0 : Int32)), .val (.long x1), .second, .val .null, .val (.ref b83), .unset] [(.long (9223372036854775807 : Int64)), (.long x1)])) _
          refine XS.lcmp X84.here hx rfl (hb hby at_80) rfl ?_
          exact kk)
        by_cases hc96 : (lcmpW x1 (9223372036854775807 : Int64)) = (0 : Int32)
        ·
          have f97 : Exa Z h88 b83 "com/example/grantd/grantd/front/Places$Waiting" := (f93.wr W88)
          have f98 : Fld Z h88 b83 "com/example/grantd/grantd/front/Places$Waiting" "firstServed" "J" (.long x1) := (Fw87.other W88 (Or.inr (slot_ne (Or.inr (hw _ (List.mem_of_getElem? (i := 26) rfl))) (Or.inr (hw _ (List.mem_of_getElem? (i := 28) rfl))) (by decide) (t := .long) (t' := .boolean) (by decide) (by decide))))
          obtain ⟨cq99, kq99, q99a, q99b, q99c⟩ := isOf hZ e84 f97
          obtain ⟨_, _, ⟨T99, L99, k99, n99⟩, -, X99, ⟨Lc99, hQ99, l99, y99, z99⟩, st99⟩ := X84.virtualBack hx (y := (⟨"com/example/grantd/grantd/front/Places$Waiting", "isBetweenRequests", "()Z"⟩ : MethodName)) (z := (⟨"com/example/grantd/grantd/front/Places$Waiting", "isBetweenRequests", "()Z"⟩ : MethodName)) hown (mvT hZ (hw _ (List.mem_of_getElem? (i := 30) rfl))) (mvT hZ (hw _ (List.mem_of_getElem? (i := 31) rfl))) (notFace_of_selects (args := #[]) (mvT hZ (hw _ (List.mem_of_getElem? (i := 33) rfl)))) (mvT hZ (hw _ (List.mem_of_getElem? (i := 33) rfl))) (mvT hZ (hw _ (List.mem_of_getElem? (i := 32) rfl))) (by decide) (backOf (W := 0) (rm6 l Z a0 hw [] b83 x1 h88 n0 Z88 f98 hc96) hZ (hw _ (List.mem_of_getElem? (i := 34) rfl)) (hw _ (List.mem_of_getElem? (i := 9) rfl)) (by decide) (by decide)) q99a q99c (g := (mkF m 95 #[.val (.long x0), .second, .val (.long x1), .second, .val (.int x2), .val (.int (0 : Int32)), .val (.long x1), .second, .val .null, .val (.ref b83), .val (.int (0 : Int32))] [(.ref b83)])) rfl (by rw [hml]; rfl) (Steps.refl _) (argsL := []) (rest := []) (lenOf pd_4 rfl) rfl (by show 2 * 0 + _ ≤ _; exact Nat.le_of_eq rfl) (hb hby at_95) (fun _ _ => ⟨rfl, e84, (by decide : 1 + 0 ≤ _), (by decide : 4 + 0 ≤ _)⟩)
          dsimp only [Pt.U, Pt.locs, Pt.cells, Pt.slots] at X99 l99 y99 z99 st99 hQ99
          subst l99 y99 z99
          obtain ⟨rfl, N99q, e99⟩ := hQ99
          have N99 := Fr.app N84 N99q
          have pre100 : ∀ t, Steps p.tables e below (T99.setTop (mkF m 108 #[.val (.long x0), .second, .val (.long x1), .second, .val (.int x2), .val (.int (0 : Int32)), .val (.long x1), .second, .val .null, .val (.ref b83), .val (.int (0 : Int32))] [(.int (1 : Int32))])) t → Steps p.tables e below (s₁.setTop (entryFrame m #[(.long x0), (.long x1), (.int x2)] maxLocals)) t := fun t kk => pre95 t (by
            show Steps p.tables e below (T84.setTop (mkF m 81 #[.val (.long x0), .second, .val (.long x1), .second, .val (.int x2), .val (.int (0 : Int32)), .val (.long x1), .second, .val .null, .val (.ref b83), .unset] [(.int (lcmpW x1 (9223372036854775807 : Int64)))])) _
            refine XS.ifNo X84.here hx rfl (hb hby at_81) rfl ((if0 _ _).trans (teq (hc96 : (lcmpW x1 (9223372036854775807 : Int64)) = (0 : Int32))).2) ?_
            show Steps p.tables e below (T84.setTop (mkF m 84 #[.val (.long x0), .second, .val (.long x1), .second, .val (.int x2), .val (.int (0 : Int32)), .val (.long x1), .second, .val .null, .val (.ref b83), .unset] [])) _
            refine XS.iconst X84.here hx rfl (hb hby at_84) ?_
            show Steps p.tables e below (T84.setTop (mkF m 85 #[.val (.long x0), .second, .val (.long x1), .second, .val (.int x2), .val (.int (0 : Int32)), .val (.long x1), .second, .val .null, .val (.ref b83), .unset] [(.int (0 : Int32))])) _
            refine XS.istore X84.here hx rfl (hb hby at_85) rfl (l' := #[.val (.long x0), .second, .val (.long x1), .second, .val (.int x2), .val (.int (0 : Int32)), .val (.long x1), .second, .val .null, .val (.ref b83), .val (.int (0 : Int32))]) rfl ?_
            show Steps p.tables e below (T84.setTop (mkF m 87 #[.val (.long x0), .second, .val (.long x1), .second, .val (.int x2), .val (.int (0 : Int32)), .val (.long x1), .second, .val .null, .val (.ref b83), .val (.int (0 : Int32))] [])) _
            refine XS.goto X84.here hx rfl (pc0 := 87) (pc' := 93) rfl (hb hby at_87) (by decide) (by decide) ?_
            show Steps p.tables e below (T84.setTop (mkF m 93 #[.val (.long x0), .second, .val (.long x1), .second, .val (.int x2), .val (.int (0 : Int32)), .val (.long x1), .second, .val .null, .val (.ref b83), .val (.int (0 : Int32))] [])) _
            refine XS.aload X84.here hx rfl (hb hby at_93) rfl rfl ?_
            show Steps p.tables e below (T84.setTop (mkF m 95 #[.val (.long x0), .second, .val (.long x1), .second, .val (.int x2), .val (.int (0 : Int32)), .val (.long x1), .second, .val .null, .val (.ref b83), .val (.int (0 : Int32))] [(.ref b83)])) _
            refine st99.trans ?_
            show Steps p.tables e below (T99.setTop (mkF m 98 #[.val (.long x0), .second, .val (.long x1), .second, .val (.int x2), .val (.int (0 : Int32)), .val (.long x1), .second, .val .null, .val (.ref b83), .val (.int (0 : Int32))] [(.int (0 : Int32))])) _
            refine XS.iload X99.here hx rfl (hb hby at_98) rfl ?_
            show Steps p.tables e below (T99.setTop (mkF m 100 #[.val (.long x0), .second, .val (.long x1), .second, .val (.int x2), .val (.int (0 : Int32)), .val (.long x1), .second, .val .null, .val (.ref b83), .val (.int (0 : Int32))] [(.int (0 : Int32)), (.int (0 : Int32))])) _
            refine XS.icmpNo X99.here hx rfl (hb hby at_100) rfl (teq ((by decide) : (0 : Int32) = (0 : Int32))).2 ?_
            show Steps p.tables e below (T99.setTop (mkF m 103 #[.val (.long x0), .second, .val (.long x1), .second, .val (.int x2), .val (.int (0 : Int32)), .val (.long x1), .second, .val .null, .val (.ref b83), .val (.int (0 : Int32))] [])) _
            refine XS.iconst X99.here hx rfl (hb hby at_103) ?_
            show Steps p.tables e below (T99.setTop (mkF m 104 #[.val (.long x0), .second, .val (.long x1), .second, .val (.int x2), .val (.int (0 : Int32)), .val (.long x1), .second, .val .null, .val (.ref b83), .val (.int (0 : Int32))] [(.int (1 : Int32))])) _
            refine XS.goto X99.here hx rfl (pc0 := 104) (pc' := 108) rfl (hb hby at_104) (by decide) (by decide) ?_
            exact kk)
          obtain ⟨fs, hr, hrun, hended, hW, hsame⟩ := X99.leave (v := some (.int (1 : Int32))) (fun h => by rw [Bd.returns] at h; cases h)
          refine ⟨_, _, pre100 _ ?_, hrun, hended, _, _, rfl, ?_, ⟨_, rfl⟩, hW, hsame.mono (by decide) (by decide)⟩
          · exact retN X99 hx (t := .boolean) Bd.returns (by simp) (hb hby at_108) hr
          · exact ⟨rfl, N99⟩
        ·
          have f101 : Exa Z h88 b83 "com/example/grantd/grantd/front/Places$Waiting" := (f93.wr W88)
          have f102 : Fld Z h88 b83 "com/example/grantd/grantd/front/Places$Waiting" "firstServed" "J" (.long x1) := (Fw87.other W88 (Or.inr (slot_ne (Or.inr (hw _ (List.mem_of_getElem? (i := 26) rfl))) (Or.inr (hw _ (List.mem_of_getElem? (i := 28) rfl))) (by decide) (t := .long) (t' := .boolean) (by decide) (by decide))))
          obtain ⟨cq103, kq103, q103a, q103b, q103c⟩ := isOf hZ e84 f101
          obtain ⟨_, _, ⟨T103, L103, k103, n103⟩, -, X103, ⟨Lc103, hQ103, l103, y103, z103⟩, st103⟩ := X84.virtualBack hx (y := (⟨"com/example/grantd/grantd/front/Places$Waiting", "isBetweenRequests", "()Z"⟩ : MethodName)) (z := (⟨"com/example/grantd/grantd/front/Places$Waiting", "isBetweenRequests", "()Z"⟩ : MethodName)) hown (mvT hZ (hw _ (List.mem_of_getElem? (i := 30) rfl))) (mvT hZ (hw _ (List.mem_of_getElem? (i := 31) rfl))) (notFace_of_selects (args := #[]) (mvT hZ (hw _ (List.mem_of_getElem? (i := 33) rfl)))) (mvT hZ (hw _ (List.mem_of_getElem? (i := 33) rfl))) (mvT hZ (hw _ (List.mem_of_getElem? (i := 32) rfl))) (by decide) (backOf (W := 0) (rm7 l Z a0 hw [] b83 x1 h88 n0 Z88 f102 hc96 Fw88) hZ (hw _ (List.mem_of_getElem? (i := 34) rfl)) (hw _ (List.mem_of_getElem? (i := 9) rfl)) (by decide) (by decide)) q103a q103c (g := (mkF m 95 #[.val (.long x0), .second, .val (.long x1), .second, .val (.int x2), .val (.int (0 : Int32)), .val (.long x1), .second, .val .null, .val (.ref b83), .val (.int (1 : Int32))] [(.ref b83)])) rfl (by rw [hml]; rfl) (Steps.refl _) (argsL := []) (rest := []) (lenOf pd_4 rfl) rfl (by show 2 * 0 + _ ≤ _; exact Nat.le_of_eq rfl) (hb hby at_95) (fun _ _ => ⟨rfl, e84, (by decide : 1 + 0 ≤ _), (by decide : 4 + 0 ≤ _)⟩)
          dsimp only [Pt.U, Pt.locs, Pt.cells, Pt.slots] at X103 l103 y103 z103 st103 hQ103
          subst l103 y103 z103
          obtain ⟨rfl, N103q, e103⟩ := hQ103
          have N103 := Fr.app N84 N103q
          have pre104 : ∀ t, Steps p.tables e below (T103.setTop (mkF m 108 #[.val (.long x0), .second, .val (.long x1), .second, .val (.int x2), .val (.int (0 : Int32)), .val (.long x1), .second, .val .null, .val (.ref b83), .val (.int (1 : Int32))] [(.int (1 : Int32))])) t → Steps p.tables e below (s₁.setTop (entryFrame m #[(.long x0), (.long x1), (.int x2)] maxLocals)) t := fun t kk => pre95 t (by
            show Steps p.tables e below (T84.setTop (mkF m 81 #[.val (.long x0), .second, .val (.long x1), .second, .val (.int x2), .val (.int (0 : Int32)), .val (.long x1), .second, .val .null, .val (.ref b83), .unset] [(.int (lcmpW x1 (9223372036854775807 : Int64)))])) _
            refine XS.ifYes X84.here hx rfl (pc0 := 81) (pc' := 90) rfl (hb hby at_81) rfl ((if0 _ _).trans (feq (hc96 : ¬ ((lcmpW x1 (9223372036854775807 : Int64)) = (0 : Int32)))).2) (by decide) (by decide) ?_
            show Steps p.tables e below (T84.setTop (mkF m 90 #[.val (.long x0), .second, .val (.long x1), .second, .val (.int x2), .val (.int (0 : Int32)), .val (.long x1), .second, .val .null, .val (.ref b83), .unset] [])) _
            refine XS.iconst X84.here hx rfl (hb hby at_90) ?_
            show Steps p.tables e below (T84.setTop (mkF m 91 #[.val (.long x0), .second, .val (.long x1), .second, .val (.int x2), .val (.int (0 : Int32)), .val (.long x1), .second, .val .null, .val (.ref b83), .unset] [(.int (1 : Int32))])) _
            refine XS.istore X84.here hx rfl (hb hby at_91) rfl (l' := #[.val (.long x0), .second, .val (.long x1), .second, .val (.int x2), .val (.int (0 : Int32)), .val (.long x1), .second, .val .null, .val (.ref b83), .val (.int (1 : Int32))]) rfl ?_
            show Steps p.tables e below (T84.setTop (mkF m 93 #[.val (.long x0), .second, .val (.long x1), .second, .val (.int x2), .val (.int (0 : Int32)), .val (.long x1), .second, .val .null, .val (.ref b83), .val (.int (1 : Int32))] [])) _
            refine XS.aload X84.here hx rfl (hb hby at_93) rfl rfl ?_
            show Steps p.tables e below (T84.setTop (mkF m 95 #[.val (.long x0), .second, .val (.long x1), .second, .val (.int x2), .val (.int (0 : Int32)), .val (.long x1), .second, .val .null, .val (.ref b83), .val (.int (1 : Int32))] [(.ref b83)])) _
            refine st103.trans ?_
            show Steps p.tables e below (T103.setTop (mkF m 98 #[.val (.long x0), .second, .val (.long x1), .second, .val (.int x2), .val (.int (0 : Int32)), .val (.long x1), .second, .val .null, .val (.ref b83), .val (.int (1 : Int32))] [(.int (1 : Int32))])) _
            refine XS.iload X103.here hx rfl (hb hby at_98) rfl ?_
            show Steps p.tables e below (T103.setTop (mkF m 100 #[.val (.long x0), .second, .val (.long x1), .second, .val (.int x2), .val (.int (0 : Int32)), .val (.long x1), .second, .val .null, .val (.ref b83), .val (.int (1 : Int32))] [(.int (1 : Int32)), (.int (1 : Int32))])) _
            refine XS.icmpNo X103.here hx rfl (hb hby at_100) rfl (teq ((by decide) : (1 : Int32) = (1 : Int32))).2 ?_
            show Steps p.tables e below (T103.setTop (mkF m 103 #[.val (.long x0), .second, .val (.long x1), .second, .val (.int x2), .val (.int (0 : Int32)), .val (.long x1), .second, .val .null, .val (.ref b83), .val (.int (1 : Int32))] [])) _
            refine XS.iconst X103.here hx rfl (hb hby at_103) ?_
            show Steps p.tables e below (T103.setTop (mkF m 104 #[.val (.long x0), .second, .val (.long x1), .second, .val (.int x2), .val (.int (0 : Int32)), .val (.long x1), .second, .val .null, .val (.ref b83), .val (.int (1 : Int32))] [(.int (1 : Int32))])) _
            refine XS.goto X103.here hx rfl (pc0 := 104) (pc' := 108) rfl (hb hby at_104) (by decide) (by decide) ?_
            exact kk)
          obtain ⟨fs, hr, hrun, hended, hW, hsame⟩ := X103.leave (v := some (.int (1 : Int32))) (fun h => by rw [Bd.returns] at h; cases h)
          refine ⟨_, _, pre104 _ ?_, hrun, hended, _, _, rfl, ?_, ⟨_, rfl⟩, hW, hsame.mono (by decide) (by decide)⟩
          · exact retN X103 hx (t := .boolean) Bd.returns (by simp) (hb hby at_108) hr
          · exact ⟨rfl, N103⟩
    ·
      have pre105 : ∀ t, Steps p.tables e below (s₁.setTop (mkF m 34 #[.val (.long x0), .second, .val (.long x1), .second, .val (.int x2), .val (.int (0 : Int32)), .val (.long (9223372036854775807 : Int64)), .second, .unset, .unset, .unset] [(.int (x2 &&& (4 : Int32)))])) t → Steps p.tables e below (s₁.setTop (entryFrame m #[(.long x0), (.long x1), (.int x2)] maxLocals)) t := fun t kk => pre3 t (by
        show Steps p.tables e below (s₁.setTop (mkF m 18 #[.val (.long x0), .second, .val (.long x1), .second, .val (.int x2), .val (.int (0 : Int32)), .unset, .unset, .unset, .unset, .unset] [(.int (x2 &&& (2 : Int32)))])) _
        refine XS.ifNo X0.here hx rfl (hb hby at_18) rfl ((if0 _ _).trans (feq (hc4 : ¬ ((x2 &&& (2 : Int32)) = (0 : Int32)))).1) ?_
        show Steps p.tables e below (s₁.setTop (mkF m 21 #[.val (.long x0), .second, .val (.long x1), .second, .val (.int x2), .val (.int (0 : Int32)), .unset, .unset, .unset, .unset, .unset] [])) _
        refine X0.ldc2Long hx hown (mvT hZ (hw _ (List.mem_of_getElem? (i := 29) rfl))) (g := (mkF m 21 #[.val (.long x0), .second, .val (.long x1), .second, .val (.int x2), .val (.int (0 : Int32)), .unset, .unset, .unset, .unset, .unset] [])) rfl (hb hby at_21) _ ?_
        show Steps p.tables e below (s₁.setTop (mkF m 24 #[.val (.long x0), .second, .val (.long x1), .second, .val (.int x2), .val (.int (0 : Int32)), .unset, .unset, .unset, .unset, .unset] [(.long (9223372036854775807 : Int64))])) _
        refine XS.goto X0.here hx rfl (pc0 := 24) (pc' := 28) rfl (hb hby at_24) (by decide) (by decide) ?_
        show Steps p.tables e below (s₁.setTop (mkF m 28 #[.val (.long x0), .second, .val (.long x1), .second, .val (.int x2), .val (.int (0 : Int32)), .unset, .unset, .unset, .unset, .unset] [(.long (9223372036854775807 : Int64))])) _
        refine XS.lstore X0.here hx rfl (hb hby at_28) rfl (l' := #[.val (.long x0), .second, .val (.long x1), .second, .val (.int x2), .val (.int (0 : Int32)), .val (.long (9223372036854775807 : Int64)), .second, .unset, .unset, .unset]) rfl ?_
        show Steps p.tables e below (s₁.setTop (mkF m 30 #[.val (.long x0), .second, .val (.long x1), .second, .val (.int x2), .val (.int (0 : Int32)), .val (.long (9223372036854775807 : Int64)), .second, .unset, .unset, .unset] [])) _
        refine XS.iload X0.here hx rfl (hb hby at_30) rfl ?_
        show Steps p.tables e below (s₁.setTop (mkF m 32 #[.val (.long x0), .second, .val (.long x1), .second, .val (.int x2), .val (.int (0 : Int32)), .val (.long (9223372036854775807 : Int64)), .second, .unset, .unset, .unset] [(.int x2)])) _
        refine XS.iconst X0.here hx rfl (hb hby at_32) ?_
        show Steps p.tables e below (s₁.setTop (mkF m 33 #[.val (.long x0), .second, .val (.long x1), .second, .val (.int x2), .val (.int (0 : Int32)), .val (.long (9223372036854775807 : Int64)), .second, .unset, .unset, .unset] [(.int (4 : Int32)), (.int x2)])) _
        refine XS.iand X0.here hx rfl (hb hby at_33) rfl ?_
        exact kk)
      by_cases hc106 : (x2 &&& (4 : Int32)) = (0 : Int32)
      ·
        have pre107 : ∀ t, Steps p.tables e below (s₁.setTop (mkF m 43 #[.val (.long x0), .second, .val (.long x1), .second, .val (.int x2), .val (.int (0 : Int32)), .val (.long (9223372036854775807 : Int64)), .second, .unset, .unset, .unset] [(.int x2)])) t → Steps p.tables e below (s₁.setTop (entryFrame m #[(.long x0), (.long x1), (.int x2)] maxLocals)) t := fun t kk => pre105 t (by
          show Steps p.tables e below (s₁.setTop (mkF m 34 #[.val (.long x0), .second, .val (.long x1), .second, .val (.int x2), .val (.int (0 : Int32)), .val (.long (9223372036854775807 : Int64)), .second, .unset, .unset, .unset] [(.int (x2 &&& (4 : Int32)))])) _
          refine XS.ifYes X0.here hx rfl (pc0 := 34) (pc' := 41) rfl (hb hby at_34) rfl ((if0 _ _).trans (teq (hc106 : (x2 &&& (4 : Int32)) = (0 : Int32))).1) (by decide) (by decide) ?_
          show Steps p.tables e below (s₁.setTop (mkF m 41 #[.val (.long x0), .second, .val (.long x1), .second, .val (.int x2), .val (.int (0 : Int32)), .val (.long (9223372036854775807 : Int64)), .second, .unset, .unset, .unset] [])) _
          refine XS.iload X0.here hx rfl (hb hby at_41) rfl ?_
          exact kk)
        by_cases hc108 : x2 < (-128 : Int32)
        ·
          obtain ⟨_, _, ⟨T109, L109, k109, n109⟩, -, X109, ⟨Lc109, hQ109, l109, y109, z109⟩, st109⟩ := Jvm.LawKit.callS X0 hx (y := (⟨"java/lang/Integer", "valueOf", "(I)Ljava/lang/Integer;"⟩ : MethodName)) hown (mvT hZ (hw _ (List.mem_of_getElem? (i := 0) rfl))) (mvT hZ (hw _ (List.mem_of_getElem? (i := 1) rfl))) (mvT hZ (hw _ (List.mem_of_getElem? (i := 2) rfl))) (mvT hZ (hw _ (List.mem_of_getElem? (i := 3) rfl))) (by decide) (backOf (W := 0) (rm3 l Z a0 hw [] x2 h0 n0 Z0 hc108) hZ (hw _ (List.mem_of_getElem? (i := 3) rfl)) (hw _ (List.mem_of_getElem? (i := 2) rfl)) (by decide) (by decide)) (g := (mkF m 43 #[.val (.long x0), .second, .val (.long x1), .second, .val (.int x2), .val (.int (0 : Int32)), .val (.long (9223372036854775807 : Int64)), .second, .unset, .unset, .unset] [(.int x2)])) rfl (by rw [hml]; rfl) (argsL := [(.int x2)]) (rest := []) (lenOf pd_2 rfl) rfl (by show 2 * 0 + _ ≤ _; exact Nat.le_of_eq rfl) (hb hby at_43) (fun _ _ => ⟨rfl, e0, (by decide : 0 + 1 ≤ _), (by decide : 0 + 1 ≤ _)⟩)
          dsimp only [Pt.U, Pt.locs, Pt.cells, Pt.slots] at X109 l109 y109 z109 st109 hQ109
          subst l109 y109 z109
          obtain ⟨br109, rfl, N109q, h110, b110, g110, E110, A110, F110_value, h111, W111, e109, rfl⟩ := hQ109
          have N109 := Fr.app N0 N109q
          have G110 : n0 ≤ b110 := (Nat.le_trans Z0 (Nat.le_of_eq g110.symm))
          have Z110 : n0 ≤ h110.size := Nat.le_trans Z0 E110.1
          have Z111 : n0 ≤ h111.size := Nat.le_trans Z110 (Nat.le_of_eq W111.size.symm)
          have Fw111 := Fld.same W111 F110_value
          obtain ⟨T112, h112, X112, e112, E112, A112, D112, -, st112⟩ := newO X109 hx hZ hown (hw _ (List.mem_of_getElem? (i := 7) rfl)) (hw _ (List.mem_of_getElem? (i := 8) rfl)) (hw _ (List.mem_of_getElem? (i := 9) rfl)) e109 (g := (mkF m 48 #[.val (.long x0), .second, .val (.long x1), .second, .val (.int x2), .val (.int (0 : Int32)), .val (.long (9223372036854775807 : Int64)), .second, .val (.ref b110), .unset, .unset] [])) rfl (hb hby at_48) (by decide) (by decide)
          obtain ⟨b112, g112⟩ : ∃ z, z = h111.size := ⟨_, rfl⟩
          rw [← g112] at A112 D112 st112
          have F112_connection : Fld Z h112 b112 "com/example/grantd/grantd/front/Places$Waiting" "connection" "Ljava/lang/Object;" .null := D112 (Or.inr (hw _ (List.mem_of_getElem? (i := 22) rfl))) (ty := (.object "java/lang/Object")) (by decide)
          have F112_closableFrom : Fld Z h112 b112 "com/example/grantd/grantd/front/Places$Waiting" "closableFrom" "J" (.long (0 : Int64)) := D112 (Or.inr (hw _ (List.mem_of_getElem? (i := 24) rfl))) (ty := .long) (by decide)
          have F112_firstServed : Fld Z h112 b112 "com/example/grantd/grantd/front/Places$Waiting" "firstServed" "J" (.long (0 : Int64)) := D112 (Or.inr (hw _ (List.mem_of_getElem? (i := 26) rfl))) (ty := .long) (by decide)
          have F112_holdsHead : Fld Z h112 b112 "com/example/grantd/grantd/front/Places$Waiting" "holdsHead" "Z" (.int (0 : Int32)) := D112 (Or.inr (hw _ (List.mem_of_getElem? (i := 28) rfl))) (ty := .boolean) (by decide)
          have G112 : n0 ≤ b112 := (Nat.le_trans Z111 (Nat.le_of_eq g112.symm))
          have Z112 : n0 ≤ h112.size := Nat.le_trans Z111 E112.1
          obtain ⟨_, _, ⟨T113, L113, k113, n113⟩, -, X113, ⟨Lc113, hQ113, l113, y113, z113⟩, st113⟩ := X112.specialBack hx (y := (⟨"com/example/grantd/grantd/front/Places$Waiting", "<init>", "(Ljava/lang/Object;JJZ)V"⟩ : MethodName)) rfl hown (mvT hZ (hw _ (List.mem_of_getElem? (i := 10) rfl))) (mvT hZ (hw _ (List.mem_of_getElem? (i := 11) rfl))) (mvT hZ (hw _ (List.mem_of_getElem? (i := 12) rfl))) (by decide) (backOf (W := 1) (rm11 l Z a0 hw [] b112 b110 x0 h112 n0 Z112 A112 F112_connection G112 F112_closableFrom F112_firstServed F112_holdsHead) hZ (hw _ (List.mem_of_getElem? (i := 12) rfl)) (hw _ (List.mem_of_getElem? (i := 9) rfl)) (by decide) (by decide)) (g := (mkF m 59 #[.val (.long x0), .second, .val (.long x1), .second, .val (.int x2), .val (.int (0 : Int32)), .val (.long (9223372036854775807 : Int64)), .second, .val (.ref b110), .unset, .unset] [(.int (0 : Int32)), (.long (9223372036854775807 : Int64)), (.long x0), (.ref b110), (.ref b112), (.ref b112)])) rfl (by rw [hml]; rfl) (Steps.refl _) (a := b112) (argsL := [(.ref b110), (.long x0), (.long (9223372036854775807 : Int64)), (.int (0 : Int32))]) (rest := [(.ref b112)]) (lenOf pd_3 rfl) rfl (by show 2 * 0 + _ ≤ _; exact Nat.le_of_eq rfl) (hb hby at_59) (fun _ _ => ⟨rfl, e112, (by decide : 2 + 0 ≤ _), (by decide : 5 + 0 ≤ _)⟩)
          dsimp only [Pt.U, Pt.locs, Pt.cells, Pt.slots] at X113 l113 y113 z113 st113 hQ113
          subst l113 y113 z113
          obtain ⟨rfl, N113q, h114, W114, h115, W115, h116, W116, h117, W117, e113⟩ := hQ113
          have N113 := Fr.app N109 N113q
          have Z114 : n0 ≤ h114.size := Nat.le_trans Z112 (Nat.le_of_eq W114.size.symm)
          have Fw114 := Fld.same W114 F112_connection
          have f118 : Exa Z h114 b112 "com/example/grantd/grantd/front/Places$Waiting" := (A112.wr W114)
          have f119 : Fld Z h114 b112 "com/example/grantd/grantd/front/Places$Waiting" "closableFrom" "J" (.long (0 : Int64)) := (F112_closableFrom.other W114 (Or.inr (slot_ne (Or.inr (hw _ (List.mem_of_getElem? (i := 24) rfl))) (Or.inr (hw _ (List.mem_of_getElem? (i := 22) rfl))) (by decide) (t := .long) (t' := (.object "java/lang/Object")) (by decide) (by decide))))
          have Z115 : n0 ≤ h115.size := Nat.le_trans Z114 (Nat.le_of_eq W115.size.symm)
          have Fw115 := Fld.same W115 f119
          have f120 : Exa Z h115 b112 "com/example/grantd/grantd/front/Places$Waiting" := (f118.wr W115)
          have f121 : Fld Z h115 b112 "com/example/grantd/grantd/front/Places$Waiting" "firstServed" "J" (.long (0 : Int64)) := ((F112_firstServed.other W114 (Or.inr (slot_ne (Or.inr (hw _ (List.mem_of_getElem? (i := 26) rfl))) (Or.inr (hw _ (List.mem_of_getElem? (i := 22) rfl))) (by decide) (t := .long) (t' := (.object "java/lang/Object")) (by decide) (by decide)))).other W115 (Or.inr (slot_ne (Or.inr (hw _ (List.mem_of_getElem? (i := 26) rfl))) (Or.inr (hw _ (List.mem_of_getElem? (i := 24) rfl))) (by decide) (t := .long) (t' := .long) (by decide) (by decide))))
          have Z116 : n0 ≤ h116.size := Nat.le_trans Z115 (Nat.le_of_eq W116.size.symm)
          have Fw116 := Fld.same W116 f121
          have f122 : Exa Z h116 b112 "com/example/grantd/grantd/front/Places$Waiting" := (f120.wr W116)
          have f123 : Fld Z h116 b112 "com/example/grantd/grantd/front/Places$Waiting" "holdsHead" "Z" (.int (0 : Int32)) := (((F112_holdsHead.other W114 (Or.inr (slot_ne (Or.inr (hw _ (List.mem_of_getElem? (i := 28) rfl))) (Or.inr (hw _ (List.mem_of_getElem? (i := 22) rfl))) (by decide) (t := .boolean) (t' := (.object "java/lang/Object")) (by decide) (by decide)))).other W115 (Or.inr (slot_ne (Or.inr (hw _ (List.mem_of_getElem? (i := 28) rfl))) (Or.inr (hw _ (List.mem_of_getElem? (i := 24) rfl))) (by decide) (t := .boolean) (t' := .long) (by decide) (by decide)))).other W116 (Or.inr (slot_ne (Or.inr (hw _ (List.mem_of_getElem? (i := 28) rfl))) (Or.inr (hw _ (List.mem_of_getElem? (i := 26) rfl))) (by decide) (t := .boolean) (t' := .long) (by decide) (by decide))))
          have Z117 : n0 ≤ h117.size := Nat.le_trans Z116 (Nat.le_of_eq W117.size.symm)
          have Fw117 := Fld.same W117 f123
          have f124 : Exa Z h117 b112 "com/example/grantd/grantd/front/Places$Waiting" := (f122.wr W117)
          have f125 : Fld Z h117 b112 "com/example/grantd/grantd/front/Places$Waiting" "firstServed" "J" (.long (9223372036854775807 : Int64)) := (Fw116.other W117 (Or.inr (slot_ne (Or.inr (hw _ (List.mem_of_getElem? (i := 26) rfl))) (Or.inr (hw _ (List.mem_of_getElem? (i := 28) rfl))) (by decide) (t := .long) (t' := .boolean) (by decide) (by decide))))
          obtain ⟨cq126, kq126, q126a, q126b, q126c⟩ := isOf hZ e113 f124
          obtain ⟨_, _, ⟨T126, L126, k126, n126⟩, -, X126, ⟨Lc126, hQ126, l126, y126, z126⟩, st126⟩ := X113.virtualBack hx (y := (⟨"com/example/grantd/grantd/front/Places$Waiting", "isBetweenRequests", "()Z"⟩ : MethodName)) (z := (⟨"com/example/grantd/grantd/front/Places$Waiting", "isBetweenRequests", "()Z"⟩ : MethodName)) hown (mvT hZ (hw _ (List.mem_of_getElem? (i := 30) rfl))) (mvT hZ (hw _ (List.mem_of_getElem? (i := 31) rfl))) (notFace_of_selects (args := #[]) (mvT hZ (hw _ (List.mem_of_getElem? (i := 33) rfl)))) (mvT hZ (hw _ (List.mem_of_getElem? (i := 33) rfl))) (mvT hZ (hw _ (List.mem_of_getElem? (i := 32) rfl))) (by decide) (backOf (W := 0) (rm12 l Z a0 hw [] b112 h117 n0 Z117 f125) hZ (hw _ (List.mem_of_getElem? (i := 34) rfl)) (hw _ (List.mem_of_getElem? (i := 9) rfl)) (by decide) (by decide)) q126a q126c (g := (mkF m 95 #[.val (.long x0), .second, .val (.long x1), .second, .val (.int x2), .val (.int (0 : Int32)), .val (.long (9223372036854775807 : Int64)), .second, .val (.ref b110), .val (.ref b112), .val (.int (0 : Int32))] [(.ref b112)])) rfl (by rw [hml]; rfl) (Steps.refl _) (argsL := []) (rest := []) (lenOf pd_4 rfl) rfl (by show 2 * 0 + _ ≤ _; exact Nat.le_of_eq rfl) (hb hby at_95) (fun _ _ => ⟨rfl, e113, (by decide : 2 + 0 ≤ _), (by decide : 5 + 0 ≤ _)⟩)
          dsimp only [Pt.U, Pt.locs, Pt.cells, Pt.slots] at X126 l126 y126 z126 st126 hQ126
          subst l126 y126 z126
          obtain ⟨rfl, N126q, e126⟩ := hQ126
          have N126 := Fr.app N113 N126q
          have pre127 : ∀ t, Steps p.tables e below (T126.setTop (mkF m 108 #[.val (.long x0), .second, .val (.long x1), .second, .val (.int x2), .val (.int (0 : Int32)), .val (.long (9223372036854775807 : Int64)), .second, .val (.ref b110), .val (.ref b112), .val (.int (0 : Int32))] [(.int (1 : Int32))])) t → Steps p.tables e below (s₁.setTop (entryFrame m #[(.long x0), (.long x1), (.int x2)] maxLocals)) t := fun t kk => pre107 t (by
            show Steps p.tables e below (s₁.setTop (mkF m 43 #[.val (.long x0), .second, .val (.long x1), .second, .val (.int x2), .val (.int (0 : Int32)), .val (.long (9223372036854775807 : Int64)), .second, .unset, .unset, .unset] [(.int x2)])) _
            refine st109 _ ?_
            show Steps p.tables e below (T109.setTop (mkF m 46 #[.val (.long x0), .second, .val (.long x1), .second, .val (.int x2), .val (.int (0 : Int32)), .val (.long (9223372036854775807 : Int64)), .second, .unset, .unset, .unset] [(.ref b110)])) _
            refine XS.astore X109.here hx rfl (hb hby at_46) rfl rfl (l' := #[.val (.long x0), .second, .val (.long x1), .second, .val (.int x2), .val (.int (0 : Int32)), .val (.long (9223372036854775807 : Int64)), .second, .val (.ref b110), .unset, .unset]) rfl ?_
            show Steps p.tables e below (T109.setTop (mkF m 48 #[.val (.long x0), .second, .val (.long x1), .second, .val (.int x2), .val (.int (0 : Int32)), .val (.long (9223372036854775807 : Int64)), .second, .val (.ref b110), .unset, .unset] [])) _
            refine st112 _ ?_
            show Steps p.tables e below (T112.setTop (mkF m 51 #[.val (.long x0), .second, .val (.long x1), .second, .val (.int x2), .val (.int (0 : Int32)), .val (.long (9223372036854775807 : Int64)), .second, .val (.ref b110), .unset, .unset] [(.ref b112)])) _
            refine XS.dup X112.here hx rfl (hb hby at_51) rfl rfl ?_
            show Steps p.tables e below (T112.setTop (mkF m 52 #[.val (.long x0), .second, .val (.long x1), .second, .val (.int x2), .val (.int (0 : Int32)), .val (.long (9223372036854775807 : Int64)), .second, .val (.ref b110), .unset, .unset] [(.ref b112), (.ref b112)])) _
            refine XS.aload X112.here hx rfl (hb hby at_52) rfl rfl ?_
            show Steps p.tables e below (T112.setTop (mkF m 54 #[.val (.long x0), .second, .val (.long x1), .second, .val (.int x2), .val (.int (0 : Int32)), .val (.long (9223372036854775807 : Int64)), .second, .val (.ref b110), .unset, .unset] [(.ref b110), (.ref b112), (.ref b112)])) _
            refine XS.lloadN X112.here hx rfl (hb hby at_54) rfl ?_
            show Steps p.tables e below (T112.setTop (mkF m 55 #[.val (.long x0), .second, .val (.long x1), .second, .val (.int x2), .val (.int (0 : Int32)), .val (.long (9223372036854775807 : Int64)), .second, .val (.ref b110), .unset, .unset] [(.long x0), (.ref b110), (.ref b112), (.ref b112)])) _
            refine XS.lload X112.here hx rfl (hb hby at_55) rfl ?_
            show Steps p.tables e below (T112.setTop (mkF m 57 #[.val (.long x0), .second, .val (.long x1), .second, .val (.int x2), .val (.int (0 : Int32)), .val (.long (9223372036854775807 : Int64)), .second, .val (.ref b110), .unset, .unset] [(.long (9223372036854775807 : Int64)), (.long x0), (.ref b110), (.ref b112), (.ref b112)])) _
            refine XS.iload X112.here hx rfl (hb hby at_57) rfl ?_
            show Steps p.tables e below (T112.setTop (mkF m 59 #[.val (.long x0), .second, .val (.long x1), .second, .val (.int x2), .val (.int (0 : Int32)), .val (.long (9223372036854775807 : Int64)), .second, .val (.ref b110), .unset, .unset] [(.int (0 : Int32)), (.long (9223372036854775807 : Int64)), (.long x0), (.ref b110), (.ref b112), (.ref b112)])) _
            refine st113.trans ?_
            show Steps p.tables e below (T113.setTop (mkF m 62 #[.val (.long x0), .second, .val (.long x1), .second, .val (.int x2), .val (.int (0 : Int32)), .val (.long (9223372036854775807 : Int64)), .second, .val (.ref b110), .unset, .unset] [(.ref b112)])) _
            refine XS.astore X113.here hx rfl (hb hby at_62) rfl rfl (l' := #[.val (.long x0), .second, .val (.long x1), .second, .val (.int x2), .val (.int (0 : Int32)), .val (.long (9223372036854775807 : Int64)), .second, .val (.ref b110), .val (.ref b112), .unset]) rfl ?_
            show Steps p.tables e below (T113.setTop (mkF m 64 #[.val (.long x0), .second, .val (.long x1), .second, .val (.int x2), .val (.int (0 : Int32)), .val (.long (9223372036854775807 : Int64)), .second, .val (.ref b110), .val (.ref b112), .unset] [])) _
            refine XS.iload X113.here hx rfl (hb hby at_64) rfl ?_
            show Steps p.tables e below (T113.setTop (mkF m 66 #[.val (.long x0), .second, .val (.long x1), .second, .val (.int x2), .val (.int (0 : Int32)), .val (.long (9223372036854775807 : Int64)), .second, .val (.ref b110), .val (.ref b112), .unset] [(.int (0 : Int32))])) _
            refine XS.ifYes X113.here hx rfl (pc0 := 66) (pc' := 75) rfl (hb hby at_66) rfl ((if0 _ _).trans (teq ((by decide) : (0 : Int32) = (0 : Int32))).1) (by decide) (by decide) ?_
            show Steps p.tables e below (T113.setTop (mkF m 75 #[.val (.long x0), .second, .val (.long x1), .second, .val (.int x2), .val (.int (0 : Int32)), .val (.long (9223372036854775807 : Int64)), .second, .val (.ref b110), .val (.ref b112), .unset] [])) _
            refine XS.lload X113.here hx rfl (hb hby at_75) rfl ?_
            show Steps p.tables e below (T113.setTop (mkF m 77 #[.val (.long x0), .second, .val (.long x1), .second, .val (.int x2), .val (.int (0 : Int32)), .val (.long (9223372036854775807 : Int64)), .second, .val (.ref b110), .val (.ref b112), .unset] [(.long (9223372036854775807 : Int64))])) _
            refine X113.ldc2Long hx hown (mvT hZ (hw _ (List.mem_of_getElem? (i := 29) rfl))) (g := (mkF m 77 #[.val (.long x0), .second, .val (.long x1), .second, .val (.int x2), .val (.int (0 : Int32)), .val (.long (9223372036854775807 : Int64)), .second, .val (.ref b110), .val (.ref b112), .unset] [(.long (9223372036854775807 : Int64))])) rfl (hb hby at_77) _ ?_
            show Steps p.tables e below (T113.setTop (mkF m 80 #[.val (.long x0), .second, .val (.long x1), .second, .val (.int x2), .val (.int (0 : Int32)), .val (.long (9223372036854775807 : Int64)), .second, .val (.ref b110), .val (.ref b112), .unset] [(.long (9223372036854775807 : Int64)), (.long (9223372036854775807 : Int64))])) _
            refine XS.lcmp X113.here hx rfl (hb hby at_80) rfl ?_
            show Steps p.tables e below (T113.setTop (mkF m 81 #[.val (.long x0), .second, .val (.long x1), .second, .val (.int x2), .val (.int (0 : Int32)), .val (.long (9223372036854775807 : Int64)), .second, .val (.ref b110), .val (.ref b112), .unset] [(.int (0 : Int32))])) _
            refine XS.ifNo X113.here hx rfl (hb hby at_81) rfl ((if0 _ _).trans (teq ((by decide) : (0 : Int32) = (0 : Int32))).2) ?_
            show Steps p.tables e below (T113.setTop (mkF m 84 #[.val (.long x0), .second, .val (.long x1), .second, .val (.int x2), .val (.int (0 : Int32)), .val (.long (9223372036854775807 : Int64)), .second, .val (.ref b110), .val (.ref b112), .unset] [])) _
            refine XS.iconst X113.here hx rfl (hb hby at_84) ?_
            show Steps p.tables e below (T113.setTop (mkF m 85 #[.val (.long x0), .second, .val (.long x1), .second, .val (.int x2), .val (.int (0 : Int32)), .val (.long (9223372036854775807 : Int64)), .second, .val (.ref b110), .val (.ref b112), .unset] [(.int (0 : Int32))])) _
            refine XS.istore X113.here hx rfl (hb hby at_85) rfl (l' := #[.val (.long x0), .second, .val (.long x1), .second, .val (.int x2), .val (.int (0 : Int32)), .val (.long (9223372036854775807 : Int64)), .second, .val (.ref b110), .val (.ref b112), .val (.int (0 : Int32))]) rfl ?_
            show Steps p.tables e below (T113.setTop (mkF m 87 #[.val (.long x0), .second, .val (.long x1), .second, .val (.int x2), .val (.int (0 : Int32)), .val (.long (9223372036854775807 : Int64)), .second, .val (.ref b110), .val (.ref b112), .val (.int (0 : Int32))] [])) _
            refine XS.goto X113.here hx rfl (pc0 := 87) (pc' := 93) rfl (hb hby at_87) (by decide) (by decide) ?_
            show Steps p.tables e below (T113.setTop (mkF m 93 #[.val (.long x0), .second, .val (.long x1), .second, .val (.int x2), .val (.int (0 : Int32)), .val (.long (9223372036854775807 : Int64)), .second, .val (.ref b110), .val (.ref b112), .val (.int (0 : Int32))] [])) _
            refine XS.aload X113.here hx rfl (hb hby at_93) rfl rfl ?_
            show Steps p.tables e below (T113.setTop (mkF m 95 #[.val (.long x0), .second, .val (.long x1), .second, .val (.int x2), .val (.int (0 : Int32)), .val (.long (9223372036854775807 : Int64)), .second, .val (.ref b110), .val (.ref b112), .val (.int (0 : Int32))] [(.ref b112)])) _
            refine st126.trans ?_
            show Steps p.tables e below (T126.setTop (mkF m 98 #[.val (.long x0), .second, .val (.long x1), .second, .val (.int x2), .val (.int (0 : Int32)), .val (.long (9223372036854775807 : Int64)), .second, .val (.ref b110), .val (.ref b112), .val (.int (0 : Int32))] [(.int (0 : Int32))])) _
            refine XS.iload X126.here hx rfl (hb hby at_98) rfl ?_
            show Steps p.tables e below (T126.setTop (mkF m 100 #[.val (.long x0), .second, .val (.long x1), .second, .val (.int x2), .val (.int (0 : Int32)), .val (.long (9223372036854775807 : Int64)), .second, .val (.ref b110), .val (.ref b112), .val (.int (0 : Int32))] [(.int (0 : Int32)), (.int (0 : Int32))])) _
            refine XS.icmpNo X126.here hx rfl (hb hby at_100) rfl (teq ((by decide) : (0 : Int32) = (0 : Int32))).2 ?_
            show Steps p.tables e below (T126.setTop (mkF m 103 #[.val (.long x0), .second, .val (.long x1), .second, .val (.int x2), .val (.int (0 : Int32)), .val (.long (9223372036854775807 : Int64)), .second, .val (.ref b110), .val (.ref b112), .val (.int (0 : Int32))] [])) _
            refine XS.iconst X126.here hx rfl (hb hby at_103) ?_
            show Steps p.tables e below (T126.setTop (mkF m 104 #[.val (.long x0), .second, .val (.long x1), .second, .val (.int x2), .val (.int (0 : Int32)), .val (.long (9223372036854775807 : Int64)), .second, .val (.ref b110), .val (.ref b112), .val (.int (0 : Int32))] [(.int (1 : Int32))])) _
            refine XS.goto X126.here hx rfl (pc0 := 104) (pc' := 108) rfl (hb hby at_104) (by decide) (by decide) ?_
            exact kk)
          obtain ⟨fs, hr, hrun, hended, hW, hsame⟩ := X126.leave (v := some (.int (1 : Int32))) (fun h => by rw [Bd.returns] at h; cases h)
          refine ⟨_, _, pre127 _ ?_, hrun, hended, _, _, rfl, ?_, ⟨_, rfl⟩, hW, hsame.mono (by decide) (by decide)⟩
          · exact retN X126 hx (t := .boolean) Bd.returns (by simp) (hb hby at_108) hr
          · exact ⟨rfl, N126⟩
        ·
          by_cases hc128 : (127 : Int32) < x2
          ·
            obtain ⟨_, _, ⟨T129, L129, k129, n129⟩, -, X129, ⟨Lc129, hQ129, l129, y129, z129⟩, st129⟩ := Jvm.LawKit.callS X0 hx (y := (⟨"java/lang/Integer", "valueOf", "(I)Ljava/lang/Integer;"⟩ : MethodName)) hown (mvT hZ (hw _ (List.mem_of_getElem? (i := 0) rfl))) (mvT hZ (hw _ (List.mem_of_getElem? (i := 1) rfl))) (mvT hZ (hw _ (List.mem_of_getElem? (i := 2) rfl))) (mvT hZ (hw _ (List.mem_of_getElem? (i := 3) rfl))) (by decide) (backOf (W := 0) (rm8 l Z a0 hw [] x2 h0 n0 Z0 hc108 S_high hc128) hZ (hw _ (List.mem_of_getElem? (i := 3) rfl)) (hw _ (List.mem_of_getElem? (i := 2) rfl)) (by decide) (by decide)) (g := (mkF m 43 #[.val (.long x0), .second, .val (.long x1), .second, .val (.int x2), .val (.int (0 : Int32)), .val (.long (9223372036854775807 : Int64)), .second, .unset, .unset, .unset] [(.int x2)])) rfl (by rw [hml]; rfl) (argsL := [(.int x2)]) (rest := []) (lenOf pd_2 rfl) rfl (by show 2 * 0 + _ ≤ _; exact Nat.le_of_eq rfl) (hb hby at_43) (fun _ _ => ⟨rfl, e0, (by decide : 0 + 1 ≤ _), (by decide : 0 + 1 ≤ _)⟩)
            dsimp only [Pt.U, Pt.locs, Pt.cells, Pt.slots] at X129 l129 y129 z129 st129 hQ129
            subst l129 y129 z129
            obtain ⟨br129, rfl, N129q, h130, b130, g130, E130, A130, F130_value, h131, W131, e129, rfl⟩ := hQ129
            have N129 := Fr.app N0 N129q
            have G130 : n0 ≤ b130 := (Nat.le_trans Z0 (Nat.le_of_eq g130.symm))
            have Z130 : n0 ≤ h130.size := Nat.le_trans Z0 E130.1
            have Z131 : n0 ≤ h131.size := Nat.le_trans Z130 (Nat.le_of_eq W131.size.symm)
            have Fw131 := Fld.same W131 F130_value
            obtain ⟨T132, h132, X132, e132, E132, A132, D132, -, st132⟩ := newO X129 hx hZ hown (hw _ (List.mem_of_getElem? (i := 7) rfl)) (hw _ (List.mem_of_getElem? (i := 8) rfl)) (hw _ (List.mem_of_getElem? (i := 9) rfl)) e129 (g := (mkF m 48 #[.val (.long x0), .second, .val (.long x1), .second, .val (.int x2), .val (.int (0 : Int32)), .val (.long (9223372036854775807 : Int64)), .second, .val (.ref b130), .unset, .unset] [])) rfl (hb hby at_48) (by decide) (by decide)
            obtain ⟨b132, g132⟩ : ∃ z, z = h131.size := ⟨_, rfl⟩
            rw [← g132] at A132 D132 st132
            have F132_connection : Fld Z h132 b132 "com/example/grantd/grantd/front/Places$Waiting" "connection" "Ljava/lang/Object;" .null := D132 (Or.inr (hw _ (List.mem_of_getElem? (i := 22) rfl))) (ty := (.object "java/lang/Object")) (by decide)
            have F132_closableFrom : Fld Z h132 b132 "com/example/grantd/grantd/front/Places$Waiting" "closableFrom" "J" (.long (0 : Int64)) := D132 (Or.inr (hw _ (List.mem_of_getElem? (i := 24) rfl))) (ty := .long) (by decide)
            have F132_firstServed : Fld Z h132 b132 "com/example/grantd/grantd/front/Places$Waiting" "firstServed" "J" (.long (0 : Int64)) := D132 (Or.inr (hw _ (List.mem_of_getElem? (i := 26) rfl))) (ty := .long) (by decide)
            have F132_holdsHead : Fld Z h132 b132 "com/example/grantd/grantd/front/Places$Waiting" "holdsHead" "Z" (.int (0 : Int32)) := D132 (Or.inr (hw _ (List.mem_of_getElem? (i := 28) rfl))) (ty := .boolean) (by decide)
            have G132 : n0 ≤ b132 := (Nat.le_trans Z131 (Nat.le_of_eq g132.symm))
            have Z132 : n0 ≤ h132.size := Nat.le_trans Z131 E132.1
            obtain ⟨_, _, ⟨T133, L133, k133, n133⟩, -, X133, ⟨Lc133, hQ133, l133, y133, z133⟩, st133⟩ := X132.specialBack hx (y := (⟨"com/example/grantd/grantd/front/Places$Waiting", "<init>", "(Ljava/lang/Object;JJZ)V"⟩ : MethodName)) rfl hown (mvT hZ (hw _ (List.mem_of_getElem? (i := 10) rfl))) (mvT hZ (hw _ (List.mem_of_getElem? (i := 11) rfl))) (mvT hZ (hw _ (List.mem_of_getElem? (i := 12) rfl))) (by decide) (backOf (W := 1) (rm11 l Z a0 hw [] b132 b130 x0 h132 n0 Z132 A132 F132_connection G132 F132_closableFrom F132_firstServed F132_holdsHead) hZ (hw _ (List.mem_of_getElem? (i := 12) rfl)) (hw _ (List.mem_of_getElem? (i := 9) rfl)) (by decide) (by decide)) (g := (mkF m 59 #[.val (.long x0), .second, .val (.long x1), .second, .val (.int x2), .val (.int (0 : Int32)), .val (.long (9223372036854775807 : Int64)), .second, .val (.ref b130), .unset, .unset] [(.int (0 : Int32)), (.long (9223372036854775807 : Int64)), (.long x0), (.ref b130), (.ref b132), (.ref b132)])) rfl (by rw [hml]; rfl) (Steps.refl _) (a := b132) (argsL := [(.ref b130), (.long x0), (.long (9223372036854775807 : Int64)), (.int (0 : Int32))]) (rest := [(.ref b132)]) (lenOf pd_3 rfl) rfl (by show 2 * 0 + _ ≤ _; exact Nat.le_of_eq rfl) (hb hby at_59) (fun _ _ => ⟨rfl, e132, (by decide : 2 + 0 ≤ _), (by decide : 5 + 0 ≤ _)⟩)
            dsimp only [Pt.U, Pt.locs, Pt.cells, Pt.slots] at X133 l133 y133 z133 st133 hQ133
            subst l133 y133 z133
            obtain ⟨rfl, N133q, h134, W134, h135, W135, h136, W136, h137, W137, e133⟩ := hQ133
            have N133 := Fr.app N129 N133q
            have Z134 : n0 ≤ h134.size := Nat.le_trans Z132 (Nat.le_of_eq W134.size.symm)
            have Fw134 := Fld.same W134 F132_connection
            have f138 : Exa Z h134 b132 "com/example/grantd/grantd/front/Places$Waiting" := (A132.wr W134)
            have f139 : Fld Z h134 b132 "com/example/grantd/grantd/front/Places$Waiting" "closableFrom" "J" (.long (0 : Int64)) := (F132_closableFrom.other W134 (Or.inr (slot_ne (Or.inr (hw _ (List.mem_of_getElem? (i := 24) rfl))) (Or.inr (hw _ (List.mem_of_getElem? (i := 22) rfl))) (by decide) (t := .long) (t' := (.object "java/lang/Object")) (by decide) (by decide))))
            have Z135 : n0 ≤ h135.size := Nat.le_trans Z134 (Nat.le_of_eq W135.size.symm)
            have Fw135 := Fld.same W135 f139
            have f140 : Exa Z h135 b132 "com/example/grantd/grantd/front/Places$Waiting" := (f138.wr W135)
            have f141 : Fld Z h135 b132 "com/example/grantd/grantd/front/Places$Waiting" "firstServed" "J" (.long (0 : Int64)) := ((F132_firstServed.other W134 (Or.inr (slot_ne (Or.inr (hw _ (List.mem_of_getElem? (i := 26) rfl))) (Or.inr (hw _ (List.mem_of_getElem? (i := 22) rfl))) (by decide) (t := .long) (t' := (.object "java/lang/Object")) (by decide) (by decide)))).other W135 (Or.inr (slot_ne (Or.inr (hw _ (List.mem_of_getElem? (i := 26) rfl))) (Or.inr (hw _ (List.mem_of_getElem? (i := 24) rfl))) (by decide) (t := .long) (t' := .long) (by decide) (by decide))))
            have Z136 : n0 ≤ h136.size := Nat.le_trans Z135 (Nat.le_of_eq W136.size.symm)
            have Fw136 := Fld.same W136 f141
            have f142 : Exa Z h136 b132 "com/example/grantd/grantd/front/Places$Waiting" := (f140.wr W136)
            have f143 : Fld Z h136 b132 "com/example/grantd/grantd/front/Places$Waiting" "holdsHead" "Z" (.int (0 : Int32)) := (((F132_holdsHead.other W134 (Or.inr (slot_ne (Or.inr (hw _ (List.mem_of_getElem? (i := 28) rfl))) (Or.inr (hw _ (List.mem_of_getElem? (i := 22) rfl))) (by decide) (t := .boolean) (t' := (.object "java/lang/Object")) (by decide) (by decide)))).other W135 (Or.inr (slot_ne (Or.inr (hw _ (List.mem_of_getElem? (i := 28) rfl))) (Or.inr (hw _ (List.mem_of_getElem? (i := 24) rfl))) (by decide) (t := .boolean) (t' := .long) (by decide) (by decide)))).other W136 (Or.inr (slot_ne (Or.inr (hw _ (List.mem_of_getElem? (i := 28) rfl))) (Or.inr (hw _ (List.mem_of_getElem? (i := 26) rfl))) (by decide) (t := .boolean) (t' := .long) (by decide) (by decide))))
            have Z137 : n0 ≤ h137.size := Nat.le_trans Z136 (Nat.le_of_eq W137.size.symm)
            have Fw137 := Fld.same W137 f143
            have f144 : Exa Z h137 b132 "com/example/grantd/grantd/front/Places$Waiting" := (f142.wr W137)
            have f145 : Fld Z h137 b132 "com/example/grantd/grantd/front/Places$Waiting" "firstServed" "J" (.long (9223372036854775807 : Int64)) := (Fw136.other W137 (Or.inr (slot_ne (Or.inr (hw _ (List.mem_of_getElem? (i := 26) rfl))) (Or.inr (hw _ (List.mem_of_getElem? (i := 28) rfl))) (by decide) (t := .long) (t' := .boolean) (by decide) (by decide))))
            obtain ⟨cq146, kq146, q146a, q146b, q146c⟩ := isOf hZ e133 f144
            obtain ⟨_, _, ⟨T146, L146, k146, n146⟩, -, X146, ⟨Lc146, hQ146, l146, y146, z146⟩, st146⟩ := X133.virtualBack hx (y := (⟨"com/example/grantd/grantd/front/Places$Waiting", "isBetweenRequests", "()Z"⟩ : MethodName)) (z := (⟨"com/example/grantd/grantd/front/Places$Waiting", "isBetweenRequests", "()Z"⟩ : MethodName)) hown (mvT hZ (hw _ (List.mem_of_getElem? (i := 30) rfl))) (mvT hZ (hw _ (List.mem_of_getElem? (i := 31) rfl))) (notFace_of_selects (args := #[]) (mvT hZ (hw _ (List.mem_of_getElem? (i := 33) rfl)))) (mvT hZ (hw _ (List.mem_of_getElem? (i := 33) rfl))) (mvT hZ (hw _ (List.mem_of_getElem? (i := 32) rfl))) (by decide) (backOf (W := 0) (rm12 l Z a0 hw [] b132 h137 n0 Z137 f145) hZ (hw _ (List.mem_of_getElem? (i := 34) rfl)) (hw _ (List.mem_of_getElem? (i := 9) rfl)) (by decide) (by decide)) q146a q146c (g := (mkF m 95 #[.val (.long x0), .second, .val (.long x1), .second, .val (.int x2), .val (.int (0 : Int32)), .val (.long (9223372036854775807 : Int64)), .second, .val (.ref b130), .val (.ref b132), .val (.int (0 : Int32))] [(.ref b132)])) rfl (by rw [hml]; rfl) (Steps.refl _) (argsL := []) (rest := []) (lenOf pd_4 rfl) rfl (by show 2 * 0 + _ ≤ _; exact Nat.le_of_eq rfl) (hb hby at_95) (fun _ _ => ⟨rfl, e133, (by decide : 2 + 0 ≤ _), (by decide : 5 + 0 ≤ _)⟩)
            dsimp only [Pt.U, Pt.locs, Pt.cells, Pt.slots] at X146 l146 y146 z146 st146 hQ146
            subst l146 y146 z146
            obtain ⟨rfl, N146q, e146⟩ := hQ146
            have N146 := Fr.app N133 N146q
            have pre147 : ∀ t, Steps p.tables e below (T146.setTop (mkF m 108 #[.val (.long x0), .second, .val (.long x1), .second, .val (.int x2), .val (.int (0 : Int32)), .val (.long (9223372036854775807 : Int64)), .second, .val (.ref b130), .val (.ref b132), .val (.int (0 : Int32))] [(.int (1 : Int32))])) t → Steps p.tables e below (s₁.setTop (entryFrame m #[(.long x0), (.long x1), (.int x2)] maxLocals)) t := fun t kk => pre107 t (by
              show Steps p.tables e below (s₁.setTop (mkF m 43 #[.val (.long x0), .second, .val (.long x1), .second, .val (.int x2), .val (.int (0 : Int32)), .val (.long (9223372036854775807 : Int64)), .second, .unset, .unset, .unset] [(.int x2)])) _
              refine st129 _ ?_
              show Steps p.tables e below (T129.setTop (mkF m 46 #[.val (.long x0), .second, .val (.long x1), .second, .val (.int x2), .val (.int (0 : Int32)), .val (.long (9223372036854775807 : Int64)), .second, .unset, .unset, .unset] [(.ref b130)])) _
              refine XS.astore X129.here hx rfl (hb hby at_46) rfl rfl (l' := #[.val (.long x0), .second, .val (.long x1), .second, .val (.int x2), .val (.int (0 : Int32)), .val (.long (9223372036854775807 : Int64)), .second, .val (.ref b130), .unset, .unset]) rfl ?_
              show Steps p.tables e below (T129.setTop (mkF m 48 #[.val (.long x0), .second, .val (.long x1), .second, .val (.int x2), .val (.int (0 : Int32)), .val (.long (9223372036854775807 : Int64)), .second, .val (.ref b130), .unset, .unset] [])) _
              refine st132 _ ?_
              show Steps p.tables e below (T132.setTop (mkF m 51 #[.val (.long x0), .second, .val (.long x1), .second, .val (.int x2), .val (.int (0 : Int32)), .val (.long (9223372036854775807 : Int64)), .second, .val (.ref b130), .unset, .unset] [(.ref b132)])) _
              refine XS.dup X132.here hx rfl (hb hby at_51) rfl rfl ?_
              show Steps p.tables e below (T132.setTop (mkF m 52 #[.val (.long x0), .second, .val (.long x1), .second, .val (.int x2), .val (.int (0 : Int32)), .val (.long (9223372036854775807 : Int64)), .second, .val (.ref b130), .unset, .unset] [(.ref b132), (.ref b132)])) _
              refine XS.aload X132.here hx rfl (hb hby at_52) rfl rfl ?_
              show Steps p.tables e below (T132.setTop (mkF m 54 #[.val (.long x0), .second, .val (.long x1), .second, .val (.int x2), .val (.int (0 : Int32)), .val (.long (9223372036854775807 : Int64)), .second, .val (.ref b130), .unset, .unset] [(.ref b130), (.ref b132), (.ref b132)])) _
              refine XS.lloadN X132.here hx rfl (hb hby at_54) rfl ?_
              show Steps p.tables e below (T132.setTop (mkF m 55 #[.val (.long x0), .second, .val (.long x1), .second, .val (.int x2), .val (.int (0 : Int32)), .val (.long (9223372036854775807 : Int64)), .second, .val (.ref b130), .unset, .unset] [(.long x0), (.ref b130), (.ref b132), (.ref b132)])) _
              refine XS.lload X132.here hx rfl (hb hby at_55) rfl ?_
              show Steps p.tables e below (T132.setTop (mkF m 57 #[.val (.long x0), .second, .val (.long x1), .second, .val (.int x2), .val (.int (0 : Int32)), .val (.long (9223372036854775807 : Int64)), .second, .val (.ref b130), .unset, .unset] [(.long (9223372036854775807 : Int64)), (.long x0), (.ref b130), (.ref b132), (.ref b132)])) _
              refine XS.iload X132.here hx rfl (hb hby at_57) rfl ?_
              show Steps p.tables e below (T132.setTop (mkF m 59 #[.val (.long x0), .second, .val (.long x1), .second, .val (.int x2), .val (.int (0 : Int32)), .val (.long (9223372036854775807 : Int64)), .second, .val (.ref b130), .unset, .unset] [(.int (0 : Int32)), (.long (9223372036854775807 : Int64)), (.long x0), (.ref b130), (.ref b132), (.ref b132)])) _
              refine st133.trans ?_
              show Steps p.tables e below (T133.setTop (mkF m 62 #[.val (.long x0), .second, .val (.long x1), .second, .val (.int x2), .val (.int (0 : Int32)), .val (.long (9223372036854775807 : Int64)), .second, .val (.ref b130), .unset, .unset] [(.ref b132)])) _
              refine XS.astore X133.here hx rfl (hb hby at_62) rfl rfl (l' := #[.val (.long x0), .second, .val (.long x1), .second, .val (.int x2), .val (.int (0 : Int32)), .val (.long (9223372036854775807 : Int64)), .second, .val (.ref b130), .val (.ref b132), .unset]) rfl ?_
              show Steps p.tables e below (T133.setTop (mkF m 64 #[.val (.long x0), .second, .val (.long x1), .second, .val (.int x2), .val (.int (0 : Int32)), .val (.long (9223372036854775807 : Int64)), .second, .val (.ref b130), .val (.ref b132), .unset] [])) _
              refine XS.iload X133.here hx rfl (hb hby at_64) rfl ?_
              show Steps p.tables e below (T133.setTop (mkF m 66 #[.val (.long x0), .second, .val (.long x1), .second, .val (.int x2), .val (.int (0 : Int32)), .val (.long (9223372036854775807 : Int64)), .second, .val (.ref b130), .val (.ref b132), .unset] [(.int (0 : Int32))])) _
              refine XS.ifYes X133.here hx rfl (pc0 := 66) (pc' := 75) rfl (hb hby at_66) rfl ((if0 _ _).trans (teq ((by decide) : (0 : Int32) = (0 : Int32))).1) (by decide) (by decide) ?_
              show Steps p.tables e below (T133.setTop (mkF m 75 #[.val (.long x0), .second, .val (.long x1), .second, .val (.int x2), .val (.int (0 : Int32)), .val (.long (9223372036854775807 : Int64)), .second, .val (.ref b130), .val (.ref b132), .unset] [])) _
              refine XS.lload X133.here hx rfl (hb hby at_75) rfl ?_
              show Steps p.tables e below (T133.setTop (mkF m 77 #[.val (.long x0), .second, .val (.long x1), .second, .val (.int x2), .val (.int (0 : Int32)), .val (.long (9223372036854775807 : Int64)), .second, .val (.ref b130), .val (.ref b132), .unset] [(.long (9223372036854775807 : Int64))])) _
              refine X133.ldc2Long hx hown (mvT hZ (hw _ (List.mem_of_getElem? (i := 29) rfl))) (g := (mkF m 77 #[.val (.long x0), .second, .val (.long x1), .second, .val (.int x2), .val (.int (0 : Int32)), .val (.long (9223372036854775807 : Int64)), .second, .val (.ref b130), .val (.ref b132), .unset] [(.long (9223372036854775807 : Int64))])) rfl (hb hby at_77) _ ?_
              show Steps p.tables e below (T133.setTop (mkF m 80 #[.val (.long x0), .second, .val (.long x1), .second, .val (.int x2), .val (.int (0 : Int32)), .val (.long (9223372036854775807 : Int64)), .second, .val (.ref b130), .val (.ref b132), .unset] [(.long (9223372036854775807 : Int64)), (.long (9223372036854775807 : Int64))])) _
              refine XS.lcmp X133.here hx rfl (hb hby at_80) rfl ?_
              show Steps p.tables e below (T133.setTop (mkF m 81 #[.val (.long x0), .second, .val (.long x1), .second, .val (.int x2), .val (.int (0 : Int32)), .val (.long (9223372036854775807 : Int64)), .second, .val (.ref b130), .val (.ref b132), .unset] [(.int (0 : Int32))])) _
              refine XS.ifNo X133.here hx rfl (hb hby at_81) rfl ((if0 _ _).trans (teq ((by decide) : (0 : Int32) = (0 : Int32))).2) ?_
              show Steps p.tables e below (T133.setTop (mkF m 84 #[.val (.long x0), .second, .val (.long x1), .second, .val (.int x2), .val (.int (0 : Int32)), .val (.long (9223372036854775807 : Int64)), .second, .val (.ref b130), .val (.ref b132), .unset] [])) _
              refine XS.iconst X133.here hx rfl (hb hby at_84) ?_
              show Steps p.tables e below (T133.setTop (mkF m 85 #[.val (.long x0), .second, .val (.long x1), .second, .val (.int x2), .val (.int (0 : Int32)), .val (.long (9223372036854775807 : Int64)), .second, .val (.ref b130), .val (.ref b132), .unset] [(.int (0 : Int32))])) _
              refine XS.istore X133.here hx rfl (hb hby at_85) rfl (l' := #[.val (.long x0), .second, .val (.long x1), .second, .val (.int x2), .val (.int (0 : Int32)), .val (.long (9223372036854775807 : Int64)), .second, .val (.ref b130), .val (.ref b132), .val (.int (0 : Int32))]) rfl ?_
              show Steps p.tables e below (T133.setTop (mkF m 87 #[.val (.long x0), .second, .val (.long x1), .second, .val (.int x2), .val (.int (0 : Int32)), .val (.long (9223372036854775807 : Int64)), .second, .val (.ref b130), .val (.ref b132), .val (.int (0 : Int32))] [])) _
              refine XS.goto X133.here hx rfl (pc0 := 87) (pc' := 93) rfl (hb hby at_87) (by decide) (by decide) ?_
              show Steps p.tables e below (T133.setTop (mkF m 93 #[.val (.long x0), .second, .val (.long x1), .second, .val (.int x2), .val (.int (0 : Int32)), .val (.long (9223372036854775807 : Int64)), .second, .val (.ref b130), .val (.ref b132), .val (.int (0 : Int32))] [])) _
              refine XS.aload X133.here hx rfl (hb hby at_93) rfl rfl ?_
              show Steps p.tables e below (T133.setTop (mkF m 95 #[.val (.long x0), .second, .val (.long x1), .second, .val (.int x2), .val (.int (0 : Int32)), .val (.long (9223372036854775807 : Int64)), .second, .val (.ref b130), .val (.ref b132), .val (.int (0 : Int32))] [(.ref b132)])) _
              refine st146.trans ?_
              show Steps p.tables e below (T146.setTop (mkF m 98 #[.val (.long x0), .second, .val (.long x1), .second, .val (.int x2), .val (.int (0 : Int32)), .val (.long (9223372036854775807 : Int64)), .second, .val (.ref b130), .val (.ref b132), .val (.int (0 : Int32))] [(.int (0 : Int32))])) _
              refine XS.iload X146.here hx rfl (hb hby at_98) rfl ?_
              show Steps p.tables e below (T146.setTop (mkF m 100 #[.val (.long x0), .second, .val (.long x1), .second, .val (.int x2), .val (.int (0 : Int32)), .val (.long (9223372036854775807 : Int64)), .second, .val (.ref b130), .val (.ref b132), .val (.int (0 : Int32))] [(.int (0 : Int32)), (.int (0 : Int32))])) _
              refine XS.icmpNo X146.here hx rfl (hb hby at_100) rfl (teq ((by decide) : (0 : Int32) = (0 : Int32))).2 ?_
              show Steps p.tables e below (T146.setTop (mkF m 103 #[.val (.long x0), .second, .val (.long x1), .second, .val (.int x2), .val (.int (0 : Int32)), .val (.long (9223372036854775807 : Int64)), .second, .val (.ref b130), .val (.ref b132), .val (.int (0 : Int32))] [])) _
              refine XS.iconst X146.here hx rfl (hb hby at_103) ?_
              show Steps p.tables e below (T146.setTop (mkF m 104 #[.val (.long x0), .second, .val (.long x1), .second, .val (.int x2), .val (.int (0 : Int32)), .val (.long (9223372036854775807 : Int64)), .second, .val (.ref b130), .val (.ref b132), .val (.int (0 : Int32))] [(.int (1 : Int32))])) _
              refine XS.goto X146.here hx rfl (pc0 := 104) (pc' := 108) rfl (hb hby at_104) (by decide) (by decide) ?_
              exact kk)
            obtain ⟨fs, hr, hrun, hended, hW, hsame⟩ := X146.leave (v := some (.int (1 : Int32))) (fun h => by rw [Bd.returns] at h; cases h)
            refine ⟨_, _, pre147 _ ?_, hrun, hended, _, _, rfl, ?_, ⟨_, rfl⟩, hW, hsame.mono (by decide) (by decide)⟩
            · exact retN X146 hx (t := .boolean) Bd.returns (by simp) (hb hby at_108) hr
            · exact ⟨rfl, N146⟩
          ·
            obtain ⟨_, _, ⟨T148, L148, k148, n148⟩, -, X148, ⟨Lc148, hQ148, l148, y148, z148⟩, st148⟩ := Jvm.LawKit.callS X0 hx (y := (⟨"java/lang/Integer", "valueOf", "(I)Ljava/lang/Integer;"⟩ : MethodName)) hown (mvT hZ (hw _ (List.mem_of_getElem? (i := 0) rfl))) (mvT hZ (hw _ (List.mem_of_getElem? (i := 1) rfl))) (mvT hZ (hw _ (List.mem_of_getElem? (i := 2) rfl))) (mvT hZ (hw _ (List.mem_of_getElem? (i := 3) rfl))) (by decide) (backOf (W := 0) (rm9 l Z a0 hw [] x2 w_cache k_cache vsC h0 n0 Z0 hc108 S_high hc128 S_cache V_cache X_cache) hZ (hw _ (List.mem_of_getElem? (i := 3) rfl)) (hw _ (List.mem_of_getElem? (i := 2) rfl)) (by decide) (by decide)) (g := (mkF m 43 #[.val (.long x0), .second, .val (.long x1), .second, .val (.int x2), .val (.int (0 : Int32)), .val (.long (9223372036854775807 : Int64)), .second, .unset, .unset, .unset] [(.int x2)])) rfl (by rw [hml]; rfl) (argsL := [(.int x2)]) (rest := []) (lenOf pd_2 rfl) rfl (by show 2 * 0 + _ ≤ _; exact Nat.le_of_eq rfl) (hb hby at_43) (fun _ _ => ⟨rfl, e0, (by decide : 0 + 0 ≤ _), (by decide : 0 + 0 ≤ _)⟩)
            dsimp only [Pt.U, Pt.locs, Pt.cells, Pt.slots] at X148 l148 y148 z148 st148 hQ148
            subst l148 y148 z148
            obtain ⟨b148, rfl, N148q, A148, e148⟩ := hQ148
            have N148 := Fr.app N0 N148q
            obtain ⟨T149, h149, X149, e149, E149, A149, D149, -, st149⟩ := newO X148 hx hZ hown (hw _ (List.mem_of_getElem? (i := 7) rfl)) (hw _ (List.mem_of_getElem? (i := 8) rfl)) (hw _ (List.mem_of_getElem? (i := 9) rfl)) e148 (g := (mkF m 48 #[.val (.long x0), .second, .val (.long x1), .second, .val (.int x2), .val (.int (0 : Int32)), .val (.long (9223372036854775807 : Int64)), .second, .val (.ref b148), .unset, .unset] [])) rfl (hb hby at_48) (by decide) (by decide)
            obtain ⟨b149, g149⟩ : ∃ z, z = h0.size := ⟨_, rfl⟩
            rw [← g149] at A149 D149 st149
            have F149_connection : Fld Z h149 b149 "com/example/grantd/grantd/front/Places$Waiting" "connection" "Ljava/lang/Object;" .null := D149 (Or.inr (hw _ (List.mem_of_getElem? (i := 22) rfl))) (ty := (.object "java/lang/Object")) (by decide)
            have F149_closableFrom : Fld Z h149 b149 "com/example/grantd/grantd/front/Places$Waiting" "closableFrom" "J" (.long (0 : Int64)) := D149 (Or.inr (hw _ (List.mem_of_getElem? (i := 24) rfl))) (ty := .long) (by decide)
            have F149_firstServed : Fld Z h149 b149 "com/example/grantd/grantd/front/Places$Waiting" "firstServed" "J" (.long (0 : Int64)) := D149 (Or.inr (hw _ (List.mem_of_getElem? (i := 26) rfl))) (ty := .long) (by decide)
            have F149_holdsHead : Fld Z h149 b149 "com/example/grantd/grantd/front/Places$Waiting" "holdsHead" "Z" (.int (0 : Int32)) := D149 (Or.inr (hw _ (List.mem_of_getElem? (i := 28) rfl))) (ty := .boolean) (by decide)
            have G149 : n0 ≤ b149 := (Nat.le_trans Z0 (Nat.le_of_eq g149.symm))
            have Z149 : n0 ≤ h149.size := Nat.le_trans Z0 E149.1
            obtain ⟨_, _, ⟨T150, L150, k150, n150⟩, -, X150, ⟨Lc150, hQ150, l150, y150, z150⟩, st150⟩ := X149.specialBack hx (y := (⟨"com/example/grantd/grantd/front/Places$Waiting", "<init>", "(Ljava/lang/Object;JJZ)V"⟩ : MethodName)) rfl hown (mvT hZ (hw _ (List.mem_of_getElem? (i := 10) rfl))) (mvT hZ (hw _ (List.mem_of_getElem? (i := 11) rfl))) (mvT hZ (hw _ (List.mem_of_getElem? (i := 12) rfl))) (by decide) (backOf (W := 1) (rm11 l Z a0 hw [] b149 b148 x0 h149 n0 Z149 A149 F149_connection G149 F149_closableFrom F149_firstServed F149_holdsHead) hZ (hw _ (List.mem_of_getElem? (i := 12) rfl)) (hw _ (List.mem_of_getElem? (i := 9) rfl)) (by decide) (by decide)) (g := (mkF m 59 #[.val (.long x0), .second, .val (.long x1), .second, .val (.int x2), .val (.int (0 : Int32)), .val (.long (9223372036854775807 : Int64)), .second, .val (.ref b148), .unset, .unset] [(.int (0 : Int32)), (.long (9223372036854775807 : Int64)), (.long x0), (.ref b148), (.ref b149), (.ref b149)])) rfl (by rw [hml]; rfl) (Steps.refl _) (a := b149) (argsL := [(.ref b148), (.long x0), (.long (9223372036854775807 : Int64)), (.int (0 : Int32))]) (rest := [(.ref b149)]) (lenOf pd_3 rfl) rfl (by show 2 * 0 + _ ≤ _; exact Nat.le_of_eq rfl) (hb hby at_59) (fun _ _ => ⟨rfl, e149, (by decide : 1 + 0 ≤ _), (by decide : 4 + 0 ≤ _)⟩)
            dsimp only [Pt.U, Pt.locs, Pt.cells, Pt.slots] at X150 l150 y150 z150 st150 hQ150
            subst l150 y150 z150
            obtain ⟨rfl, N150q, h151, W151, h152, W152, h153, W153, h154, W154, e150⟩ := hQ150
            have N150 := Fr.app N148 N150q
            have Z151 : n0 ≤ h151.size := Nat.le_trans Z149 (Nat.le_of_eq W151.size.symm)
            have Fw151 := Fld.same W151 F149_connection
            have f155 : Exa Z h151 b149 "com/example/grantd/grantd/front/Places$Waiting" := (A149.wr W151)
            have f156 : Fld Z h151 b149 "com/example/grantd/grantd/front/Places$Waiting" "closableFrom" "J" (.long (0 : Int64)) := (F149_closableFrom.other W151 (Or.inr (slot_ne (Or.inr (hw _ (List.mem_of_getElem? (i := 24) rfl))) (Or.inr (hw _ (List.mem_of_getElem? (i := 22) rfl))) (by decide) (t := .long) (t' := (.object "java/lang/Object")) (by decide) (by decide))))
            have Z152 : n0 ≤ h152.size := Nat.le_trans Z151 (Nat.le_of_eq W152.size.symm)
            have Fw152 := Fld.same W152 f156
            have f157 : Exa Z h152 b149 "com/example/grantd/grantd/front/Places$Waiting" := (f155.wr W152)
            have f158 : Fld Z h152 b149 "com/example/grantd/grantd/front/Places$Waiting" "firstServed" "J" (.long (0 : Int64)) := ((F149_firstServed.other W151 (Or.inr (slot_ne (Or.inr (hw _ (List.mem_of_getElem? (i := 26) rfl))) (Or.inr (hw _ (List.mem_of_getElem? (i := 22) rfl))) (by decide) (t := .long) (t' := (.object "java/lang/Object")) (by decide) (by decide)))).other W152 (Or.inr (slot_ne (Or.inr (hw _ (List.mem_of_getElem? (i := 26) rfl))) (Or.inr (hw _ (List.mem_of_getElem? (i := 24) rfl))) (by decide) (t := .long) (t' := .long) (by decide) (by decide))))
            have Z153 : n0 ≤ h153.size := Nat.le_trans Z152 (Nat.le_of_eq W153.size.symm)
            have Fw153 := Fld.same W153 f158
            have f159 : Exa Z h153 b149 "com/example/grantd/grantd/front/Places$Waiting" := (f157.wr W153)
            have f160 : Fld Z h153 b149 "com/example/grantd/grantd/front/Places$Waiting" "holdsHead" "Z" (.int (0 : Int32)) := (((F149_holdsHead.other W151 (Or.inr (slot_ne (Or.inr (hw _ (List.mem_of_getElem? (i := 28) rfl))) (Or.inr (hw _ (List.mem_of_getElem? (i := 22) rfl))) (by decide) (t := .boolean) (t' := (.object "java/lang/Object")) (by decide) (by decide)))).other W152 (Or.inr (slot_ne (Or.inr (hw _ (List.mem_of_getElem? (i := 28) rfl))) (Or.inr (hw _ (List.mem_of_getElem? (i := 24) rfl))) (by decide) (t := .boolean) (t' := .long) (by decide) (by decide)))).other W153 (Or.inr (slot_ne (Or.inr (hw _ (List.mem_of_getElem? (i := 28) rfl))) (Or.inr (hw _ (List.mem_of_getElem? (i := 26) rfl))) (by decide) (t := .boolean) (t' := .long) (by decide) (by decide))))
            have Z154 : n0 ≤ h154.size := Nat.le_trans Z153 (Nat.le_of_eq W154.size.symm)
            have Fw154 := Fld.same W154 f160
            have f161 : Exa Z h154 b149 "com/example/grantd/grantd/front/Places$Waiting" := (f159.wr W154)
            have f162 : Fld Z h154 b149 "com/example/grantd/grantd/front/Places$Waiting" "firstServed" "J" (.long (9223372036854775807 : Int64)) := (Fw153.other W154 (Or.inr (slot_ne (Or.inr (hw _ (List.mem_of_getElem? (i := 26) rfl))) (Or.inr (hw _ (List.mem_of_getElem? (i := 28) rfl))) (by decide) (t := .long) (t' := .boolean) (by decide) (by decide))))
            obtain ⟨cq163, kq163, q163a, q163b, q163c⟩ := isOf hZ e150 f161
            obtain ⟨_, _, ⟨T163, L163, k163, n163⟩, -, X163, ⟨Lc163, hQ163, l163, y163, z163⟩, st163⟩ := X150.virtualBack hx (y := (⟨"com/example/grantd/grantd/front/Places$Waiting", "isBetweenRequests", "()Z"⟩ : MethodName)) (z := (⟨"com/example/grantd/grantd/front/Places$Waiting", "isBetweenRequests", "()Z"⟩ : MethodName)) hown (mvT hZ (hw _ (List.mem_of_getElem? (i := 30) rfl))) (mvT hZ (hw _ (List.mem_of_getElem? (i := 31) rfl))) (notFace_of_selects (args := #[]) (mvT hZ (hw _ (List.mem_of_getElem? (i := 33) rfl)))) (mvT hZ (hw _ (List.mem_of_getElem? (i := 33) rfl))) (mvT hZ (hw _ (List.mem_of_getElem? (i := 32) rfl))) (by decide) (backOf (W := 0) (rm12 l Z a0 hw [] b149 h154 n0 Z154 f162) hZ (hw _ (List.mem_of_getElem? (i := 34) rfl)) (hw _ (List.mem_of_getElem? (i := 9) rfl)) (by decide) (by decide)) q163a q163c (g := (mkF m 95 #[.val (.long x0), .second, .val (.long x1), .second, .val (.int x2), .val (.int (0 : Int32)), .val (.long (9223372036854775807 : Int64)), .second, .val (.ref b148), .val (.ref b149), .val (.int (0 : Int32))] [(.ref b149)])) rfl (by rw [hml]; rfl) (Steps.refl _) (argsL := []) (rest := []) (lenOf pd_4 rfl) rfl (by show 2 * 0 + _ ≤ _; exact Nat.le_of_eq rfl) (hb hby at_95) (fun _ _ => ⟨rfl, e150, (by decide : 1 + 0 ≤ _), (by decide : 4 + 0 ≤ _)⟩)
            dsimp only [Pt.U, Pt.locs, Pt.cells, Pt.slots] at X163 l163 y163 z163 st163 hQ163
            subst l163 y163 z163
            obtain ⟨rfl, N163q, e163⟩ := hQ163
            have N163 := Fr.app N150 N163q
            have pre164 : ∀ t, Steps p.tables e below (T163.setTop (mkF m 108 #[.val (.long x0), .second, .val (.long x1), .second, .val (.int x2), .val (.int (0 : Int32)), .val (.long (9223372036854775807 : Int64)), .second, .val (.ref b148), .val (.ref b149), .val (.int (0 : Int32))] [(.int (1 : Int32))])) t → Steps p.tables e below (s₁.setTop (entryFrame m #[(.long x0), (.long x1), (.int x2)] maxLocals)) t := fun t kk => pre107 t (by
              show Steps p.tables e below (s₁.setTop (mkF m 43 #[.val (.long x0), .second, .val (.long x1), .second, .val (.int x2), .val (.int (0 : Int32)), .val (.long (9223372036854775807 : Int64)), .second, .unset, .unset, .unset] [(.int x2)])) _
              refine st148 _ ?_
              show Steps p.tables e below (T148.setTop (mkF m 46 #[.val (.long x0), .second, .val (.long x1), .second, .val (.int x2), .val (.int (0 : Int32)), .val (.long (9223372036854775807 : Int64)), .second, .unset, .unset, .unset] [(.ref b148)])) _
              refine XS.astore X148.here hx rfl (hb hby at_46) rfl rfl (l' := #[.val (.long x0), .second, .val (.long x1), .second, .val (.int x2), .val (.int (0 : Int32)), .val (.long (9223372036854775807 : Int64)), .second, .val (.ref b148), .unset, .unset]) rfl ?_
              show Steps p.tables e below (T148.setTop (mkF m 48 #[.val (.long x0), .second, .val (.long x1), .second, .val (.int x2), .val (.int (0 : Int32)), .val (.long (9223372036854775807 : Int64)), .second, .val (.ref b148), .unset, .unset] [])) _
              refine st149 _ ?_
              show Steps p.tables e below (T149.setTop (mkF m 51 #[.val (.long x0), .second, .val (.long x1), .second, .val (.int x2), .val (.int (0 : Int32)), .val (.long (9223372036854775807 : Int64)), .second, .val (.ref b148), .unset, .unset] [(.ref b149)])) _
              refine XS.dup X149.here hx rfl (hb hby at_51) rfl rfl ?_
              show Steps p.tables e below (T149.setTop (mkF m 52 #[.val (.long x0), .second, .val (.long x1), .second, .val (.int x2), .val (.int (0 : Int32)), .val (.long (9223372036854775807 : Int64)), .second, .val (.ref b148), .unset, .unset] [(.ref b149), (.ref b149)])) _
              refine XS.aload X149.here hx rfl (hb hby at_52) rfl rfl ?_
              show Steps p.tables e below (T149.setTop (mkF m 54 #[.val (.long x0), .second, .val (.long x1), .second, .val (.int x2), .val (.int (0 : Int32)), .val (.long (9223372036854775807 : Int64)), .second, .val (.ref b148), .unset, .unset] [(.ref b148), (.ref b149), (.ref b149)])) _
              refine XS.lloadN X149.here hx rfl (hb hby at_54) rfl ?_
              show Steps p.tables e below (T149.setTop (mkF m 55 #[.val (.long x0), .second, .val (.long x1), .second, .val (.int x2), .val (.int (0 : Int32)), .val (.long (9223372036854775807 : Int64)), .second, .val (.ref b148), .unset, .unset] [(.long x0), (.ref b148), (.ref b149), (.ref b149)])) _
              refine XS.lload X149.here hx rfl (hb hby at_55) rfl ?_
              show Steps p.tables e below (T149.setTop (mkF m 57 #[.val (.long x0), .second, .val (.long x1), .second, .val (.int x2), .val (.int (0 : Int32)), .val (.long (9223372036854775807 : Int64)), .second, .val (.ref b148), .unset, .unset] [(.long (9223372036854775807 : Int64)), (.long x0), (.ref b148), (.ref b149), (.ref b149)])) _
              refine XS.iload X149.here hx rfl (hb hby at_57) rfl ?_
              show Steps p.tables e below (T149.setTop (mkF m 59 #[.val (.long x0), .second, .val (.long x1), .second, .val (.int x2), .val (.int (0 : Int32)), .val (.long (9223372036854775807 : Int64)), .second, .val (.ref b148), .unset, .unset] [(.int (0 : Int32)), (.long (9223372036854775807 : Int64)), (.long x0), (.ref b148), (.ref b149), (.ref b149)])) _
              refine st150.trans ?_
              show Steps p.tables e below (T150.setTop (mkF m 62 #[.val (.long x0), .second, .val (.long x1), .second, .val (.int x2), .val (.int (0 : Int32)), .val (.long (9223372036854775807 : Int64)), .second, .val (.ref b148), .unset, .unset] [(.ref b149)])) _
              refine XS.astore X150.here hx rfl (hb hby at_62) rfl rfl (l' := #[.val (.long x0), .second, .val (.long x1), .second, .val (.int x2), .val (.int (0 : Int32)), .val (.long (9223372036854775807 : Int64)), .second, .val (.ref b148), .val (.ref b149), .unset]) rfl ?_
              show Steps p.tables e below (T150.setTop (mkF m 64 #[.val (.long x0), .second, .val (.long x1), .second, .val (.int x2), .val (.int (0 : Int32)), .val (.long (9223372036854775807 : Int64)), .second, .val (.ref b148), .val (.ref b149), .unset] [])) _
              refine XS.iload X150.here hx rfl (hb hby at_64) rfl ?_
              show Steps p.tables e below (T150.setTop (mkF m 66 #[.val (.long x0), .second, .val (.long x1), .second, .val (.int x2), .val (.int (0 : Int32)), .val (.long (9223372036854775807 : Int64)), .second, .val (.ref b148), .val (.ref b149), .unset] [(.int (0 : Int32))])) _
              refine XS.ifYes X150.here hx rfl (pc0 := 66) (pc' := 75) rfl (hb hby at_66) rfl ((if0 _ _).trans (teq ((by decide) : (0 : Int32) = (0 : Int32))).1) (by decide) (by decide) ?_
              show Steps p.tables e below (T150.setTop (mkF m 75 #[.val (.long x0), .second, .val (.long x1), .second, .val (.int x2), .val (.int (0 : Int32)), .val (.long (9223372036854775807 : Int64)), .second, .val (.ref b148), .val (.ref b149), .unset] [])) _
              refine XS.lload X150.here hx rfl (hb hby at_75) rfl ?_
              show Steps p.tables e below (T150.setTop (mkF m 77 #[.val (.long x0), .second, .val (.long x1), .second, .val (.int x2), .val (.int (0 : Int32)), .val (.long (9223372036854775807 : Int64)), .second, .val (.ref b148), .val (.ref b149), .unset] [(.long (9223372036854775807 : Int64))])) _
              refine X150.ldc2Long hx hown (mvT hZ (hw _ (List.mem_of_getElem? (i := 29) rfl))) (g := (mkF m 77 #[.val (.long x0), .second, .val (.long x1), .second, .val (.int x2), .val (.int (0 : Int32)), .val (.long (9223372036854775807 : Int64)), .second, .val (.ref b148), .val (.ref b149), .unset] [(.long (9223372036854775807 : Int64))])) rfl (hb hby at_77) _ ?_
              show Steps p.tables e below (T150.setTop (mkF m 80 #[.val (.long x0), .second, .val (.long x1), .second, .val (.int x2), .val (.int (0 : Int32)), .val (.long (9223372036854775807 : Int64)), .second, .val (.ref b148), .val (.ref b149), .unset] [(.long (9223372036854775807 : Int64)), (.long (9223372036854775807 : Int64))])) _
              refine XS.lcmp X150.here hx rfl (hb hby at_80) rfl ?_
              show Steps p.tables e below (T150.setTop (mkF m 81 #[.val (.long x0), .second, .val (.long x1), .second, .val (.int x2), .val (.int (0 : Int32)), .val (.long (9223372036854775807 : Int64)), .second, .val (.ref b148), .val (.ref b149), .unset] [(.int (0 : Int32))])) _
              refine XS.ifNo X150.here hx rfl (hb hby at_81) rfl ((if0 _ _).trans (teq ((by decide) : (0 : Int32) = (0 : Int32))).2) ?_
              show Steps p.tables e below (T150.setTop (mkF m 84 #[.val (.long x0), .second, .val (.long x1), .second, .val (.int x2), .val (.int (0 : Int32)), .val (.long (9223372036854775807 : Int64)), .second, .val (.ref b148), .val (.ref b149), .unset] [])) _
              refine XS.iconst X150.here hx rfl (hb hby at_84) ?_
              show Steps p.tables e below (T150.setTop (mkF m 85 #[.val (.long x0), .second, .val (.long x1), .second, .val (.int x2), .val (.int (0 : Int32)), .val (.long (9223372036854775807 : Int64)), .second, .val (.ref b148), .val (.ref b149), .unset] [(.int (0 : Int32))])) _
              refine XS.istore X150.here hx rfl (hb hby at_85) rfl (l' := #[.val (.long x0), .second, .val (.long x1), .second, .val (.int x2), .val (.int (0 : Int32)), .val (.long (9223372036854775807 : Int64)), .second, .val (.ref b148), .val (.ref b149), .val (.int (0 : Int32))]) rfl ?_
              show Steps p.tables e below (T150.setTop (mkF m 87 #[.val (.long x0), .second, .val (.long x1), .second, .val (.int x2), .val (.int (0 : Int32)), .val (.long (9223372036854775807 : Int64)), .second, .val (.ref b148), .val (.ref b149), .val (.int (0 : Int32))] [])) _
              refine XS.goto X150.here hx rfl (pc0 := 87) (pc' := 93) rfl (hb hby at_87) (by decide) (by decide) ?_
              show Steps p.tables e below (T150.setTop (mkF m 93 #[.val (.long x0), .second, .val (.long x1), .second, .val (.int x2), .val (.int (0 : Int32)), .val (.long (9223372036854775807 : Int64)), .second, .val (.ref b148), .val (.ref b149), .val (.int (0 : Int32))] [])) _
              refine XS.aload X150.here hx rfl (hb hby at_93) rfl rfl ?_
              show Steps p.tables e below (T150.setTop (mkF m 95 #[.val (.long x0), .second, .val (.long x1), .second, .val (.int x2), .val (.int (0 : Int32)), .val (.long (9223372036854775807 : Int64)), .second, .val (.ref b148), .val (.ref b149), .val (.int (0 : Int32))] [(.ref b149)])) _
              refine st163.trans ?_
              show Steps p.tables e below (T163.setTop (mkF m 98 #[.val (.long x0), .second, .val (.long x1), .second, .val (.int x2), .val (.int (0 : Int32)), .val (.long (9223372036854775807 : Int64)), .second, .val (.ref b148), .val (.ref b149), .val (.int (0 : Int32))] [(.int (0 : Int32))])) _
              refine XS.iload X163.here hx rfl (hb hby at_98) rfl ?_
              show Steps p.tables e below (T163.setTop (mkF m 100 #[.val (.long x0), .second, .val (.long x1), .second, .val (.int x2), .val (.int (0 : Int32)), .val (.long (9223372036854775807 : Int64)), .second, .val (.ref b148), .val (.ref b149), .val (.int (0 : Int32))] [(.int (0 : Int32)), (.int (0 : Int32))])) _
              refine XS.icmpNo X163.here hx rfl (hb hby at_100) rfl (teq ((by decide) : (0 : Int32) = (0 : Int32))).2 ?_
              show Steps p.tables e below (T163.setTop (mkF m 103 #[.val (.long x0), .second, .val (.long x1), .second, .val (.int x2), .val (.int (0 : Int32)), .val (.long (9223372036854775807 : Int64)), .second, .val (.ref b148), .val (.ref b149), .val (.int (0 : Int32))] [])) _
              refine XS.iconst X163.here hx rfl (hb hby at_103) ?_
              show Steps p.tables e below (T163.setTop (mkF m 104 #[.val (.long x0), .second, .val (.long x1), .second, .val (.int x2), .val (.int (0 : Int32)), .val (.long (9223372036854775807 : Int64)), .second, .val (.ref b148), .val (.ref b149), .val (.int (0 : Int32))] [(.int (1 : Int32))])) _
              refine XS.goto X163.here hx rfl (pc0 := 104) (pc' := 108) rfl (hb hby at_104) (by decide) (by decide) ?_
              exact kk)
            obtain ⟨fs, hr, hrun, hended, hW, hsame⟩ := X163.leave (v := some (.int (1 : Int32))) (fun h => by rw [Bd.returns] at h; cases h)
            refine ⟨_, _, pre164 _ ?_, hrun, hended, _, _, rfl, ?_, ⟨_, rfl⟩, hW, hsame.mono (by decide) (by decide)⟩
            · exact retN X163 hx (t := .boolean) Bd.returns (by simp) (hb hby at_108) hr
            · exact ⟨rfl, N163⟩
      ·
        obtain ⟨T165, h165, X165, e165, E165, A165, D165, -, st165⟩ := newO X0 hx hZ hown (hw _ (List.mem_of_getElem? (i := 7) rfl)) (hw _ (List.mem_of_getElem? (i := 8) rfl)) (hw _ (List.mem_of_getElem? (i := 9) rfl)) e0 (g := (mkF m 48 #[.val (.long x0), .second, .val (.long x1), .second, .val (.int x2), .val (.int (0 : Int32)), .val (.long (9223372036854775807 : Int64)), .second, .val .null, .unset, .unset] [])) rfl (hb hby at_48) (by decide) (by decide)
        obtain ⟨b165, g165⟩ : ∃ z, z = h0.size := ⟨_, rfl⟩
        rw [← g165] at A165 D165 st165
        have F165_connection : Fld Z h165 b165 "com/example/grantd/grantd/front/Places$Waiting" "connection" "Ljava/lang/Object;" .null := D165 (Or.inr (hw _ (List.mem_of_getElem? (i := 22) rfl))) (ty := (.object "java/lang/Object")) (by decide)
        have F165_closableFrom : Fld Z h165 b165 "com/example/grantd/grantd/front/Places$Waiting" "closableFrom" "J" (.long (0 : Int64)) := D165 (Or.inr (hw _ (List.mem_of_getElem? (i := 24) rfl))) (ty := .long) (by decide)
        have F165_firstServed : Fld Z h165 b165 "com/example/grantd/grantd/front/Places$Waiting" "firstServed" "J" (.long (0 : Int64)) := D165 (Or.inr (hw _ (List.mem_of_getElem? (i := 26) rfl))) (ty := .long) (by decide)
        have F165_holdsHead : Fld Z h165 b165 "com/example/grantd/grantd/front/Places$Waiting" "holdsHead" "Z" (.int (0 : Int32)) := D165 (Or.inr (hw _ (List.mem_of_getElem? (i := 28) rfl))) (ty := .boolean) (by decide)
        have G165 : n0 ≤ b165 := (Nat.le_trans Z0 (Nat.le_of_eq g165.symm))
        have Z165 : n0 ≤ h165.size := Nat.le_trans Z0 E165.1
        obtain ⟨_, _, ⟨T166, L166, k166, n166⟩, -, X166, ⟨Lc166, hQ166, l166, y166, z166⟩, st166⟩ := X165.specialBack hx (y := (⟨"com/example/grantd/grantd/front/Places$Waiting", "<init>", "(Ljava/lang/Object;JJZ)V"⟩ : MethodName)) rfl hown (mvT hZ (hw _ (List.mem_of_getElem? (i := 10) rfl))) (mvT hZ (hw _ (List.mem_of_getElem? (i := 11) rfl))) (mvT hZ (hw _ (List.mem_of_getElem? (i := 12) rfl))) (by decide) (backOf (W := 1) (rm13 l Z a0 hw [] b165 x0 h165 n0 Z165 A165 F165_connection G165 F165_closableFrom F165_firstServed F165_holdsHead) hZ (hw _ (List.mem_of_getElem? (i := 12) rfl)) (hw _ (List.mem_of_getElem? (i := 9) rfl)) (by decide) (by decide)) (g := (mkF m 59 #[.val (.long x0), .second, .val (.long x1), .second, .val (.int x2), .val (.int (0 : Int32)), .val (.long (9223372036854775807 : Int64)), .second, .val .null, .unset, .unset] [(.int (0 : Int32)), (.long (9223372036854775807 : Int64)), (.long x0), .null, (.ref b165), (.ref b165)])) rfl (by rw [hml]; rfl) (Steps.refl _) (a := b165) (argsL := [.null, (.long x0), (.long (9223372036854775807 : Int64)), (.int (0 : Int32))]) (rest := [(.ref b165)]) (lenOf pd_3 rfl) rfl (by show 2 * 0 + _ ≤ _; exact Nat.le_of_eq rfl) (hb hby at_59) (fun _ _ => ⟨rfl, e165, (by decide : 1 + 0 ≤ _), (by decide : 4 + 0 ≤ _)⟩)
        dsimp only [Pt.U, Pt.locs, Pt.cells, Pt.slots] at X166 l166 y166 z166 st166 hQ166
        subst l166 y166 z166
        obtain ⟨rfl, N166q, h167, W167, h168, W168, h169, W169, h170, W170, e166⟩ := hQ166
        have N166 := Fr.app N0 N166q
        have Z167 : n0 ≤ h167.size := Nat.le_trans Z165 (Nat.le_of_eq W167.size.symm)
        have Fw167 := Fld.same W167 F165_connection
        have f171 : Exa Z h167 b165 "com/example/grantd/grantd/front/Places$Waiting" := (A165.wr W167)
        have f172 : Fld Z h167 b165 "com/example/grantd/grantd/front/Places$Waiting" "closableFrom" "J" (.long (0 : Int64)) := (F165_closableFrom.other W167 (Or.inr (slot_ne (Or.inr (hw _ (List.mem_of_getElem? (i := 24) rfl))) (Or.inr (hw _ (List.mem_of_getElem? (i := 22) rfl))) (by decide) (t := .long) (t' := (.object "java/lang/Object")) (by decide) (by decide))))
        have Z168 : n0 ≤ h168.size := Nat.le_trans Z167 (Nat.le_of_eq W168.size.symm)
        have Fw168 := Fld.same W168 f172
        have f173 : Exa Z h168 b165 "com/example/grantd/grantd/front/Places$Waiting" := (f171.wr W168)
        have f174 : Fld Z h168 b165 "com/example/grantd/grantd/front/Places$Waiting" "firstServed" "J" (.long (0 : Int64)) := ((F165_firstServed.other W167 (Or.inr (slot_ne (Or.inr (hw _ (List.mem_of_getElem? (i := 26) rfl))) (Or.inr (hw _ (List.mem_of_getElem? (i := 22) rfl))) (by decide) (t := .long) (t' := (.object "java/lang/Object")) (by decide) (by decide)))).other W168 (Or.inr (slot_ne (Or.inr (hw _ (List.mem_of_getElem? (i := 26) rfl))) (Or.inr (hw _ (List.mem_of_getElem? (i := 24) rfl))) (by decide) (t := .long) (t' := .long) (by decide) (by decide))))
        have Z169 : n0 ≤ h169.size := Nat.le_trans Z168 (Nat.le_of_eq W169.size.symm)
        have Fw169 := Fld.same W169 f174
        have f175 : Exa Z h169 b165 "com/example/grantd/grantd/front/Places$Waiting" := (f173.wr W169)
        have f176 : Fld Z h169 b165 "com/example/grantd/grantd/front/Places$Waiting" "holdsHead" "Z" (.int (0 : Int32)) := (((F165_holdsHead.other W167 (Or.inr (slot_ne (Or.inr (hw _ (List.mem_of_getElem? (i := 28) rfl))) (Or.inr (hw _ (List.mem_of_getElem? (i := 22) rfl))) (by decide) (t := .boolean) (t' := (.object "java/lang/Object")) (by decide) (by decide)))).other W168 (Or.inr (slot_ne (Or.inr (hw _ (List.mem_of_getElem? (i := 28) rfl))) (Or.inr (hw _ (List.mem_of_getElem? (i := 24) rfl))) (by decide) (t := .boolean) (t' := .long) (by decide) (by decide)))).other W169 (Or.inr (slot_ne (Or.inr (hw _ (List.mem_of_getElem? (i := 28) rfl))) (Or.inr (hw _ (List.mem_of_getElem? (i := 26) rfl))) (by decide) (t := .boolean) (t' := .long) (by decide) (by decide))))
        have Z170 : n0 ≤ h170.size := Nat.le_trans Z169 (Nat.le_of_eq W170.size.symm)
        have Fw170 := Fld.same W170 f176
        have f177 : Exa Z h170 b165 "com/example/grantd/grantd/front/Places$Waiting" := (f175.wr W170)
        have f178 : Fld Z h170 b165 "com/example/grantd/grantd/front/Places$Waiting" "firstServed" "J" (.long (9223372036854775807 : Int64)) := (Fw169.other W170 (Or.inr (slot_ne (Or.inr (hw _ (List.mem_of_getElem? (i := 26) rfl))) (Or.inr (hw _ (List.mem_of_getElem? (i := 28) rfl))) (by decide) (t := .long) (t' := .boolean) (by decide) (by decide))))
        obtain ⟨cq179, kq179, q179a, q179b, q179c⟩ := isOf hZ e166 f177
        obtain ⟨_, _, ⟨T179, L179, k179, n179⟩, -, X179, ⟨Lc179, hQ179, l179, y179, z179⟩, st179⟩ := X166.virtualBack hx (y := (⟨"com/example/grantd/grantd/front/Places$Waiting", "isBetweenRequests", "()Z"⟩ : MethodName)) (z := (⟨"com/example/grantd/grantd/front/Places$Waiting", "isBetweenRequests", "()Z"⟩ : MethodName)) hown (mvT hZ (hw _ (List.mem_of_getElem? (i := 30) rfl))) (mvT hZ (hw _ (List.mem_of_getElem? (i := 31) rfl))) (notFace_of_selects (args := #[]) (mvT hZ (hw _ (List.mem_of_getElem? (i := 33) rfl)))) (mvT hZ (hw _ (List.mem_of_getElem? (i := 33) rfl))) (mvT hZ (hw _ (List.mem_of_getElem? (i := 32) rfl))) (by decide) (backOf (W := 0) (rm12 l Z a0 hw [] b165 h170 n0 Z170 f178) hZ (hw _ (List.mem_of_getElem? (i := 34) rfl)) (hw _ (List.mem_of_getElem? (i := 9) rfl)) (by decide) (by decide)) q179a q179c (g := (mkF m 95 #[.val (.long x0), .second, .val (.long x1), .second, .val (.int x2), .val (.int (0 : Int32)), .val (.long (9223372036854775807 : Int64)), .second, .val .null, .val (.ref b165), .val (.int (0 : Int32))] [(.ref b165)])) rfl (by rw [hml]; rfl) (Steps.refl _) (argsL := []) (rest := []) (lenOf pd_4 rfl) rfl (by show 2 * 0 + _ ≤ _; exact Nat.le_of_eq rfl) (hb hby at_95) (fun _ _ => ⟨rfl, e166, (by decide : 1 + 0 ≤ _), (by decide : 4 + 0 ≤ _)⟩)
        dsimp only [Pt.U, Pt.locs, Pt.cells, Pt.slots] at X179 l179 y179 z179 st179 hQ179
        subst l179 y179 z179
        obtain ⟨rfl, N179q, e179⟩ := hQ179
        have N179 := Fr.app N166 N179q
        have pre180 : ∀ t, Steps p.tables e below (T179.setTop (mkF m 108 #[.val (.long x0), .second, .val (.long x1), .second, .val (.int x2), .val (.int (0 : Int32)), .val (.long (9223372036854775807 : Int64)), .second, .val .null, .val (.ref b165), .val (.int (0 : Int32))] [(.int (1 : Int32))])) t → Steps p.tables e below (s₁.setTop (entryFrame m #[(.long x0), (.long x1), (.int x2)] maxLocals)) t := fun t kk => pre105 t (by
          show Steps p.tables e below (s₁.setTop (mkF m 34 #[.val (.long x0), .second, .val (.long x1), .second, .val (.int x2), .val (.int (0 : Int32)), .val (.long (9223372036854775807 : Int64)), .second, .unset, .unset, .unset] [(.int (x2 &&& (4 : Int32)))])) _
          refine XS.ifNo X0.here hx rfl (hb hby at_34) rfl ((if0 _ _).trans (feq (hc106 : ¬ ((x2 &&& (4 : Int32)) = (0 : Int32)))).1) ?_
          show Steps p.tables e below (s₁.setTop (mkF m 37 #[.val (.long x0), .second, .val (.long x1), .second, .val (.int x2), .val (.int (0 : Int32)), .val (.long (9223372036854775807 : Int64)), .second, .unset, .unset, .unset] [])) _
          refine XS.aconstNull X0.here hx rfl (hb hby at_37) ?_
          show Steps p.tables e below (s₁.setTop (mkF m 38 #[.val (.long x0), .second, .val (.long x1), .second, .val (.int x2), .val (.int (0 : Int32)), .val (.long (9223372036854775807 : Int64)), .second, .unset, .unset, .unset] [.null])) _
          refine XS.goto X0.here hx rfl (pc0 := 38) (pc' := 46) rfl (hb hby at_38) (by decide) (by decide) ?_
          show Steps p.tables e below (s₁.setTop (mkF m 46 #[.val (.long x0), .second, .val (.long x1), .second, .val (.int x2), .val (.int (0 : Int32)), .val (.long (9223372036854775807 : Int64)), .second, .unset, .unset, .unset] [.null])) _
          refine XS.astore X0.here hx rfl (hb hby at_46) rfl rfl (l' := #[.val (.long x0), .second, .val (.long x1), .second, .val (.int x2), .val (.int (0 : Int32)), .val (.long (9223372036854775807 : Int64)), .second, .val .null, .unset, .unset]) rfl ?_
          show Steps p.tables e below (s₁.setTop (mkF m 48 #[.val (.long x0), .second, .val (.long x1), .second, .val (.int x2), .val (.int (0 : Int32)), .val (.long (9223372036854775807 : Int64)), .second, .val .null, .unset, .unset] [])) _
          refine st165 _ ?_
          show Steps p.tables e below (T165.setTop (mkF m 51 #[.val (.long x0), .second, .val (.long x1), .second, .val (.int x2), .val (.int (0 : Int32)), .val (.long (9223372036854775807 : Int64)), .second, .val .null, .unset, .unset] [(.ref b165)])) _
          refine XS.dup X165.here hx rfl (hb hby at_51) rfl rfl ?_
          show Steps p.tables e below (T165.setTop (mkF m 52 #[.val (.long x0), .second, .val (.long x1), .second, .val (.int x2), .val (.int (0 : Int32)), .val (.long (9223372036854775807 : Int64)), .second, .val .null, .unset, .unset] [(.ref b165), (.ref b165)])) _
          refine XS.aload X165.here hx rfl (hb hby at_52) rfl rfl ?_
          show Steps p.tables e below (T165.setTop (mkF m 54 #[.val (.long x0), .second, .val (.long x1), .second, .val (.int x2), .val (.int (0 : Int32)), .val (.long (9223372036854775807 : Int64)), .second, .val .null, .unset, .unset] [.null, (.ref b165), (.ref b165)])) _
          refine XS.lloadN X165.here hx rfl (hb hby at_54) rfl ?_
          show Steps p.tables e below (T165.setTop (mkF m 55 #[.val (.long x0), .second, .val (.long x1), .second, .val (.int x2), .val (.int (0 : Int32)), .val (.long (9223372036854775807 : Int64)), .second, .val .null, .unset, .unset] [(.long x0), .null, (.ref b165), (.ref b165)])) _
          refine XS.lload X165.here hx rfl (hb hby at_55) rfl ?_
          show Steps p.tables e below (T165.setTop (mkF m 57 #[.val (.long x0), .second, .val (.long x1), .second, .val (.int x2), .val (.int (0 : Int32)), .val (.long (9223372036854775807 : Int64)), .second, .val .null, .unset, .unset] [(.long (9223372036854775807 : Int64)), (.long x0), .null, (.ref b165), (.ref b165)])) _
          refine XS.iload X165.here hx rfl (hb hby at_57) rfl ?_
          show Steps p.tables e below (T165.setTop (mkF m 59 #[.val (.long x0), .second, .val (.long x1), .second, .val (.int x2), .val (.int (0 : Int32)), .val (.long (9223372036854775807 : Int64)), .second, .val .null, .unset, .unset] [(.int (0 : Int32)), (.long (9223372036854775807 : Int64)), (.long x0), .null, (.ref b165), (.ref b165)])) _
          refine st166.trans ?_
          show Steps p.tables e below (T166.setTop (mkF m 62 #[.val (.long x0), .second, .val (.long x1), .second, .val (.int x2), .val (.int (0 : Int32)), .val (.long (9223372036854775807 : Int64)), .second, .val .null, .unset, .unset] [(.ref b165)])) _
          refine XS.astore X166.here hx rfl (hb hby at_62) rfl rfl (l' := #[.val (.long x0), .second, .val (.long x1), .second, .val (.int x2), .val (.int (0 : Int32)), .val (.long (9223372036854775807 : Int64)), .second, .val .null, .val (.ref b165), .unset]) rfl ?_
          show Steps p.tables e below (T166.setTop (mkF m 64 #[.val (.long x0), .second, .val (.long x1), .second, .val (.int x2), .val (.int (0 : Int32)), .val (.long (9223372036854775807 : Int64)), .second, .val .null, .val (.ref b165), .unset] [])) _
          refine XS.iload X166.here hx rfl (hb hby at_64) rfl ?_
          show Steps p.tables e below (T166.setTop (mkF m 66 #[.val (.long x0), .second, .val (.long x1), .second, .val (.int x2), .val (.int (0 : Int32)), .val (.long (9223372036854775807 : Int64)), .second, .val .null, .val (.ref b165), .unset] [(.int (0 : Int32))])) _
          refine XS.ifYes X166.here hx rfl (pc0 := 66) (pc' := 75) rfl (hb hby at_66) rfl ((if0 _ _).trans (teq ((by decide) : (0 : Int32) = (0 : Int32))).1) (by decide) (by decide) ?_
          show Steps p.tables e below (T166.setTop (mkF m 75 #[.val (.long x0), .second, .val (.long x1), .second, .val (.int x2), .val (.int (0 : Int32)), .val (.long (9223372036854775807 : Int64)), .second, .val .null, .val (.ref b165), .unset] [])) _
          refine XS.lload X166.here hx rfl (hb hby at_75) rfl ?_
          show Steps p.tables e below (T166.setTop (mkF m 77 #[.val (.long x0), .second, .val (.long x1), .second, .val (.int x2), .val (.int (0 : Int32)), .val (.long (9223372036854775807 : Int64)), .second, .val .null, .val (.ref b165), .unset] [(.long (9223372036854775807 : Int64))])) _
          refine X166.ldc2Long hx hown (mvT hZ (hw _ (List.mem_of_getElem? (i := 29) rfl))) (g := (mkF m 77 #[.val (.long x0), .second, .val (.long x1), .second, .val (.int x2), .val (.int (0 : Int32)), .val (.long (9223372036854775807 : Int64)), .second, .val .null, .val (.ref b165), .unset] [(.long (9223372036854775807 : Int64))])) rfl (hb hby at_77) _ ?_
          show Steps p.tables e below (T166.setTop (mkF m 80 #[.val (.long x0), .second, .val (.long x1), .second, .val (.int x2), .val (.int (0 : Int32)), .val (.long (9223372036854775807 : Int64)), .second, .val .null, .val (.ref b165), .unset] [(.long (9223372036854775807 : Int64)), (.long (9223372036854775807 : Int64))])) _
          refine XS.lcmp X166.here hx rfl (hb hby at_80) rfl ?_
          show Steps p.tables e below (T166.setTop (mkF m 81 #[.val (.long x0), .second, .val (.long x1), .second, .val (.int x2), .val (.int (0 : Int32)), .val (.long (9223372036854775807 : Int64)), .second, .val .null, .val (.ref b165), .unset] [(.int (0 : Int32))])) _
          refine XS.ifNo X166.here hx rfl (hb hby at_81) rfl ((if0 _ _).trans (teq ((by decide) : (0 : Int32) = (0 : Int32))).2) ?_
          show Steps p.tables e below (T166.setTop (mkF m 84 #[.val (.long x0), .second, .val (.long x1), .second, .val (.int x2), .val (.int (0 : Int32)), .val (.long (9223372036854775807 : Int64)), .second, .val .null, .val (.ref b165), .unset] [])) _
          refine XS.iconst X166.here hx rfl (hb hby at_84) ?_
          show Steps p.tables e below (T166.setTop (mkF m 85 #[.val (.long x0), .second, .val (.long x1), .second, .val (.int x2), .val (.int (0 : Int32)), .val (.long (9223372036854775807 : Int64)), .second, .val .null, .val (.ref b165), .unset] [(.int (0 : Int32))])) _
          refine XS.istore X166.here hx rfl (hb hby at_85) rfl (l' := #[.val (.long x0), .second, .val (.long x1), .second, .val (.int x2), .val (.int (0 : Int32)), .val (.long (9223372036854775807 : Int64)), .second, .val .null, .val (.ref b165), .val (.int (0 : Int32))]) rfl ?_
          show Steps p.tables e below (T166.setTop (mkF m 87 #[.val (.long x0), .second, .val (.long x1), .second, .val (.int x2), .val (.int (0 : Int32)), .val (.long (9223372036854775807 : Int64)), .second, .val .null, .val (.ref b165), .val (.int (0 : Int32))] [])) _
          refine XS.goto X166.here hx rfl (pc0 := 87) (pc' := 93) rfl (hb hby at_87) (by decide) (by decide) ?_
          show Steps p.tables e below (T166.setTop (mkF m 93 #[.val (.long x0), .second, .val (.long x1), .second, .val (.int x2), .val (.int (0 : Int32)), .val (.long (9223372036854775807 : Int64)), .second, .val .null, .val (.ref b165), .val (.int (0 : Int32))] [])) _
          refine XS.aload X166.here hx rfl (hb hby at_93) rfl rfl ?_
          show Steps p.tables e below (T166.setTop (mkF m 95 #[.val (.long x0), .second, .val (.long x1), .second, .val (.int x2), .val (.int (0 : Int32)), .val (.long (9223372036854775807 : Int64)), .second, .val .null, .val (.ref b165), .val (.int (0 : Int32))] [(.ref b165)])) _
          refine st179.trans ?_
          show Steps p.tables e below (T179.setTop (mkF m 98 #[.val (.long x0), .second, .val (.long x1), .second, .val (.int x2), .val (.int (0 : Int32)), .val (.long (9223372036854775807 : Int64)), .second, .val .null, .val (.ref b165), .val (.int (0 : Int32))] [(.int (0 : Int32))])) _
          refine XS.iload X179.here hx rfl (hb hby at_98) rfl ?_
          show Steps p.tables e below (T179.setTop (mkF m 100 #[.val (.long x0), .second, .val (.long x1), .second, .val (.int x2), .val (.int (0 : Int32)), .val (.long (9223372036854775807 : Int64)), .second, .val .null, .val (.ref b165), .val (.int (0 : Int32))] [(.int (0 : Int32)), (.int (0 : Int32))])) _
          refine XS.icmpNo X179.here hx rfl (hb hby at_100) rfl (teq ((by decide) : (0 : Int32) = (0 : Int32))).2 ?_
          show Steps p.tables e below (T179.setTop (mkF m 103 #[.val (.long x0), .second, .val (.long x1), .second, .val (.int x2), .val (.int (0 : Int32)), .val (.long (9223372036854775807 : Int64)), .second, .val .null, .val (.ref b165), .val (.int (0 : Int32))] [])) _
          refine XS.iconst X179.here hx rfl (hb hby at_103) ?_
          show Steps p.tables e below (T179.setTop (mkF m 104 #[.val (.long x0), .second, .val (.long x1), .second, .val (.int x2), .val (.int (0 : Int32)), .val (.long (9223372036854775807 : Int64)), .second, .val .null, .val (.ref b165), .val (.int (0 : Int32))] [(.int (1 : Int32))])) _
          refine XS.goto X179.here hx rfl (pc0 := 104) (pc' := 108) rfl (hb hby at_104) (by decide) (by decide) ?_
          exact kk)
        obtain ⟨fs, hr, hrun, hended, hW, hsame⟩ := X179.leave (v := some (.int (1 : Int32))) (fun h => by rw [Bd.returns] at h; cases h)
        refine ⟨_, _, pre180 _ ?_, hrun, hended, _, _, rfl, ?_, ⟨_, rfl⟩, hW, hsame.mono (by decide) (by decide)⟩
        · exact retN X179 hx (t := .boolean) Bd.returns (by simp) (hb hby at_108) hr
        · exact ⟨rfl, N179⟩
  ·
    have pre181 : ∀ t, Steps p.tables e below (s₁.setTop (mkF m 18 #[.val (.long x0), .second, .val (.long x1), .second, .val (.int x2), .val (.int (1 : Int32)), .unset, .unset, .unset, .unset, .unset] [(.int (x2 &&& (2 : Int32)))])) t → Steps p.tables e below (s₁.setTop (entryFrame m #[(.long x0), (.long x1), (.int x2)] maxLocals)) t := fun t kk => pre1 t (by
      show Steps p.tables e below (s₁.setTop (mkF m 4 #[.val (.long x0), .second, .val (.long x1), .second, .val (.int x2), .unset, .unset, .unset, .unset, .unset, .unset] [(.int (x2 &&& (1 : Int32)))])) _
      refine XS.ifNo X0.here hx rfl (hb hby at_4) rfl ((if0 _ _).trans (feq (hc2 : ¬ ((x2 &&& (1 : Int32)) = (0 : Int32)))).1) ?_
      show Steps p.tables e below (s₁.setTop (mkF m 7 #[.val (.long x0), .second, .val (.long x1), .second, .val (.int x2), .unset, .unset, .unset, .unset, .unset, .unset] [])) _
      refine XS.iconst X0.here hx rfl (hb hby at_7) ?_
      show Steps p.tables e below (s₁.setTop (mkF m 8 #[.val (.long x0), .second, .val (.long x1), .second, .val (.int x2), .unset, .unset, .unset, .unset, .unset, .unset] [(.int (1 : Int32))])) _
      refine XS.goto X0.here hx rfl (pc0 := 8) (pc' := 12) rfl (hb hby at_8) (by decide) (by decide) ?_
      show Steps p.tables e below (s₁.setTop (mkF m 12 #[.val (.long x0), .second, .val (.long x1), .second, .val (.int x2), .unset, .unset, .unset, .unset, .unset, .unset] [(.int (1 : Int32))])) _
      refine XS.istore X0.here hx rfl (hb hby at_12) rfl (l' := #[.val (.long x0), .second, .val (.long x1), .second, .val (.int x2), .val (.int (1 : Int32)), .unset, .unset, .unset, .unset, .unset]) rfl ?_
      show Steps p.tables e below (s₁.setTop (mkF m 14 #[.val (.long x0), .second, .val (.long x1), .second, .val (.int x2), .val (.int (1 : Int32)), .unset, .unset, .unset, .unset, .unset] [])) _
      refine XS.iload X0.here hx rfl (hb hby at_14) rfl ?_
      show Steps p.tables e below (s₁.setTop (mkF m 16 #[.val (.long x0), .second, .val (.long x1), .second, .val (.int x2), .val (.int (1 : Int32)), .unset, .unset, .unset, .unset, .unset] [(.int x2)])) _
      refine XS.iconst X0.here hx rfl (hb hby at_16) ?_
      show Steps p.tables e below (s₁.setTop (mkF m 17 #[.val (.long x0), .second, .val (.long x1), .second, .val (.int x2), .val (.int (1 : Int32)), .unset, .unset, .unset, .unset, .unset] [(.int (2 : Int32)), (.int x2)])) _
      refine XS.iand X0.here hx rfl (hb hby at_17) rfl ?_
      exact kk)
    by_cases hc182 : (x2 &&& (2 : Int32)) = (0 : Int32)
    ·
      have pre183 : ∀ t, Steps p.tables e below (s₁.setTop (mkF m 34 #[.val (.long x0), .second, .val (.long x1), .second, .val (.int x2), .val (.int (1 : Int32)), .val (.long x1), .second, .unset, .unset, .unset] [(.int (x2 &&& (4 : Int32)))])) t → Steps p.tables e below (s₁.setTop (entryFrame m #[(.long x0), (.long x1), (.int x2)] maxLocals)) t := fun t kk => pre181 t (by
        show Steps p.tables e below (s₁.setTop (mkF m 18 #[.val (.long x0), .second, .val (.long x1), .second, .val (.int x2), .val (.int (1 : Int32)), .unset, .unset, .unset, .unset, .unset] [(.int (x2 &&& (2 : Int32)))])) _
        refine XS.ifYes X0.here hx rfl (pc0 := 18) (pc' := 27) rfl (hb hby at_18) rfl ((if0 _ _).trans (teq (hc182 : (x2 &&& (2 : Int32)) = (0 : Int32))).1) (by decide) (by decide) ?_
        show Steps p.tables e below (s₁.setTop (mkF m 27 #[.val (.long x0), .second, .val (.long x1), .second, .val (.int x2), .val (.int (1 : Int32)), .unset, .unset, .unset, .unset, .unset] [])) _
        refine XS.lloadN X0.here hx rfl (hb hby at_27) rfl ?_
        show Steps p.tables e below (s₁.setTop (mkF m 28 #[.val (.long x0), .second, .val (.long x1), .second, .val (.int x2), .val (.int (1 : Int32)), .unset, .unset, .unset, .unset, .unset] [(.long x1)])) _
        refine XS.lstore X0.here hx rfl (hb hby at_28) rfl (l' := #[.val (.long x0), .second, .val (.long x1), .second, .val (.int x2), .val (.int (1 : Int32)), .val (.long x1), .second, .unset, .unset, .unset]) rfl ?_
        show Steps p.tables e below (s₁.setTop (mkF m 30 #[.val (.long x0), .second, .val (.long x1), .second, .val (.int x2), .val (.int (1 : Int32)), .val (.long x1), .second, .unset, .unset, .unset] [])) _
        refine XS.iload X0.here hx rfl (hb hby at_30) rfl ?_
        show Steps p.tables e below (s₁.setTop (mkF m 32 #[.val (.long x0), .second, .val (.long x1), .second, .val (.int x2), .val (.int (1 : Int32)), .val (.long x1), .second, .unset, .unset, .unset] [(.int x2)])) _
        refine XS.iconst X0.here hx rfl (hb hby at_32) ?_
        show Steps p.tables e below (s₁.setTop (mkF m 33 #[.val (.long x0), .second, .val (.long x1), .second, .val (.int x2), .val (.int (1 : Int32)), .val (.long x1), .second, .unset, .unset, .unset] [(.int (4 : Int32)), (.int x2)])) _
        refine XS.iand X0.here hx rfl (hb hby at_33) rfl ?_
        exact kk)
      by_cases hc184 : (x2 &&& (4 : Int32)) = (0 : Int32)
      ·
        have pre185 : ∀ t, Steps p.tables e below (s₁.setTop (mkF m 43 #[.val (.long x0), .second, .val (.long x1), .second, .val (.int x2), .val (.int (1 : Int32)), .val (.long x1), .second, .unset, .unset, .unset] [(.int x2)])) t → Steps p.tables e below (s₁.setTop (entryFrame m #[(.long x0), (.long x1), (.int x2)] maxLocals)) t := fun t kk => pre183 t (by
          show Steps p.tables e below (s₁.setTop (mkF m 34 #[.val (.long x0), .second, .val (.long x1), .second, .val (.int x2), .val (.int (1 : Int32)), .val (.long x1), .second, .unset, .unset, .unset] [(.int (x2 &&& (4 : Int32)))])) _
          refine XS.ifYes X0.here hx rfl (pc0 := 34) (pc' := 41) rfl (hb hby at_34) rfl ((if0 _ _).trans (teq (hc184 : (x2 &&& (4 : Int32)) = (0 : Int32))).1) (by decide) (by decide) ?_
          show Steps p.tables e below (s₁.setTop (mkF m 41 #[.val (.long x0), .second, .val (.long x1), .second, .val (.int x2), .val (.int (1 : Int32)), .val (.long x1), .second, .unset, .unset, .unset] [])) _
          refine XS.iload X0.here hx rfl (hb hby at_41) rfl ?_
          exact kk)
        by_cases hc186 : x2 < (-128 : Int32)
        ·
          obtain ⟨_, _, ⟨T187, L187, k187, n187⟩, -, X187, ⟨Lc187, hQ187, l187, y187, z187⟩, st187⟩ := Jvm.LawKit.callS X0 hx (y := (⟨"java/lang/Integer", "valueOf", "(I)Ljava/lang/Integer;"⟩ : MethodName)) hown (mvT hZ (hw _ (List.mem_of_getElem? (i := 0) rfl))) (mvT hZ (hw _ (List.mem_of_getElem? (i := 1) rfl))) (mvT hZ (hw _ (List.mem_of_getElem? (i := 2) rfl))) (mvT hZ (hw _ (List.mem_of_getElem? (i := 3) rfl))) (by decide) (backOf (W := 0) (rm3 l Z a0 hw [] x2 h0 n0 Z0 hc186) hZ (hw _ (List.mem_of_getElem? (i := 3) rfl)) (hw _ (List.mem_of_getElem? (i := 2) rfl)) (by decide) (by decide)) (g := (mkF m 43 #[.val (.long x0), .second, .val (.long x1), .second, .val (.int x2), .val (.int (1 : Int32)), .val (.long x1), .second, .unset, .unset, .unset] [(.int x2)])) rfl (by rw [hml]; rfl) (argsL := [(.int x2)]) (rest := []) (lenOf pd_2 rfl) rfl (by show 2 * 0 + _ ≤ _; exact Nat.le_of_eq rfl) (hb hby at_43) (fun _ _ => ⟨rfl, e0, (by decide : 0 + 1 ≤ _), (by decide : 0 + 1 ≤ _)⟩)
          dsimp only [Pt.U, Pt.locs, Pt.cells, Pt.slots] at X187 l187 y187 z187 st187 hQ187
          subst l187 y187 z187
          obtain ⟨br187, rfl, N187q, h188, b188, g188, E188, A188, F188_value, h189, W189, e187, rfl⟩ := hQ187
          have N187 := Fr.app N0 N187q
          have G188 : n0 ≤ b188 := (Nat.le_trans Z0 (Nat.le_of_eq g188.symm))
          have Z188 : n0 ≤ h188.size := Nat.le_trans Z0 E188.1
          have Z189 : n0 ≤ h189.size := Nat.le_trans Z188 (Nat.le_of_eq W189.size.symm)
          have Fw189 := Fld.same W189 F188_value
          obtain ⟨T190, h190, X190, e190, E190, A190, D190, -, st190⟩ := newO X187 hx hZ hown (hw _ (List.mem_of_getElem? (i := 7) rfl)) (hw _ (List.mem_of_getElem? (i := 8) rfl)) (hw _ (List.mem_of_getElem? (i := 9) rfl)) e187 (g := (mkF m 48 #[.val (.long x0), .second, .val (.long x1), .second, .val (.int x2), .val (.int (1 : Int32)), .val (.long x1), .second, .val (.ref b188), .unset, .unset] [])) rfl (hb hby at_48) (by decide) (by decide)
          obtain ⟨b190, g190⟩ : ∃ z, z = h189.size := ⟨_, rfl⟩
          rw [← g190] at A190 D190 st190
          have F190_connection : Fld Z h190 b190 "com/example/grantd/grantd/front/Places$Waiting" "connection" "Ljava/lang/Object;" .null := D190 (Or.inr (hw _ (List.mem_of_getElem? (i := 22) rfl))) (ty := (.object "java/lang/Object")) (by decide)
          have F190_closableFrom : Fld Z h190 b190 "com/example/grantd/grantd/front/Places$Waiting" "closableFrom" "J" (.long (0 : Int64)) := D190 (Or.inr (hw _ (List.mem_of_getElem? (i := 24) rfl))) (ty := .long) (by decide)
          have F190_firstServed : Fld Z h190 b190 "com/example/grantd/grantd/front/Places$Waiting" "firstServed" "J" (.long (0 : Int64)) := D190 (Or.inr (hw _ (List.mem_of_getElem? (i := 26) rfl))) (ty := .long) (by decide)
          have F190_holdsHead : Fld Z h190 b190 "com/example/grantd/grantd/front/Places$Waiting" "holdsHead" "Z" (.int (0 : Int32)) := D190 (Or.inr (hw _ (List.mem_of_getElem? (i := 28) rfl))) (ty := .boolean) (by decide)
          have G190 : n0 ≤ b190 := (Nat.le_trans Z189 (Nat.le_of_eq g190.symm))
          have Z190 : n0 ≤ h190.size := Nat.le_trans Z189 E190.1
          obtain ⟨_, _, ⟨T191, L191, k191, n191⟩, -, X191, ⟨Lc191, hQ191, l191, y191, z191⟩, st191⟩ := X190.specialBack hx (y := (⟨"com/example/grantd/grantd/front/Places$Waiting", "<init>", "(Ljava/lang/Object;JJZ)V"⟩ : MethodName)) rfl hown (mvT hZ (hw _ (List.mem_of_getElem? (i := 10) rfl))) (mvT hZ (hw _ (List.mem_of_getElem? (i := 11) rfl))) (mvT hZ (hw _ (List.mem_of_getElem? (i := 12) rfl))) (by decide) (backOf (W := 1) (rm14 l Z a0 hw [] b190 b188 x0 x1 h190 n0 Z190 A190 F190_connection G190 F190_closableFrom F190_firstServed F190_holdsHead) hZ (hw _ (List.mem_of_getElem? (i := 12) rfl)) (hw _ (List.mem_of_getElem? (i := 9) rfl)) (by decide) (by decide)) (g := (mkF m 59 #[.val (.long x0), .second, .val (.long x1), .second, .val (.int x2), .val (.int (1 : Int32)), .val (.long x1), .second, .val (.ref b188), .unset, .unset] [(.int (1 : Int32)), (.long x1), (.long x0), (.ref b188), (.ref b190), (.ref b190)])) rfl (by rw [hml]; rfl) (Steps.refl _) (a := b190) (argsL := [(.ref b188), (.long x0), (.long x1), (.int (1 : Int32))]) (rest := [(.ref b190)]) (lenOf pd_3 rfl) rfl (by show 2 * 0 + _ ≤ _; exact Nat.le_of_eq rfl) (hb hby at_59) (fun _ _ => ⟨rfl, e190, (by decide : 2 + 0 ≤ _), (by decide : 5 + 0 ≤ _)⟩)
          dsimp only [Pt.U, Pt.locs, Pt.cells, Pt.slots] at X191 l191 y191 z191 st191 hQ191
          subst l191 y191 z191
          obtain ⟨rfl, N191q, h192, W192, h193, W193, h194, W194, h195, W195, e191⟩ := hQ191
          have N191 := Fr.app N187 N191q
          have Z192 : n0 ≤ h192.size := Nat.le_trans Z190 (Nat.le_of_eq W192.size.symm)
          have Fw192 := Fld.same W192 F190_connection
          have f196 : Exa Z h192 b190 "com/example/grantd/grantd/front/Places$Waiting" := (A190.wr W192)
          have f197 : Fld Z h192 b190 "com/example/grantd/grantd/front/Places$Waiting" "closableFrom" "J" (.long (0 : Int64)) := (F190_closableFrom.other W192 (Or.inr (slot_ne (Or.inr (hw _ (List.mem_of_getElem? (i := 24) rfl))) (Or.inr (hw _ (List.mem_of_getElem? (i := 22) rfl))) (by decide) (t := .long) (t' := (.object "java/lang/Object")) (by decide) (by decide))))
          have Z193 : n0 ≤ h193.size := Nat.le_trans Z192 (Nat.le_of_eq W193.size.symm)
          have Fw193 := Fld.same W193 f197
          have f198 : Exa Z h193 b190 "com/example/grantd/grantd/front/Places$Waiting" := (f196.wr W193)
          have f199 : Fld Z h193 b190 "com/example/grantd/grantd/front/Places$Waiting" "firstServed" "J" (.long (0 : Int64)) := ((F190_firstServed.other W192 (Or.inr (slot_ne (Or.inr (hw _ (List.mem_of_getElem? (i := 26) rfl))) (Or.inr (hw _ (List.mem_of_getElem? (i := 22) rfl))) (by decide) (t := .long) (t' := (.object "java/lang/Object")) (by decide) (by decide)))).other W193 (Or.inr (slot_ne (Or.inr (hw _ (List.mem_of_getElem? (i := 26) rfl))) (Or.inr (hw _ (List.mem_of_getElem? (i := 24) rfl))) (by decide) (t := .long) (t' := .long) (by decide) (by decide))))
          have Z194 : n0 ≤ h194.size := Nat.le_trans Z193 (Nat.le_of_eq W194.size.symm)
          have Fw194 := Fld.same W194 f199
          have f200 : Exa Z h194 b190 "com/example/grantd/grantd/front/Places$Waiting" := (f198.wr W194)
          have f201 : Fld Z h194 b190 "com/example/grantd/grantd/front/Places$Waiting" "holdsHead" "Z" (.int (0 : Int32)) := (((F190_holdsHead.other W192 (Or.inr (slot_ne (Or.inr (hw _ (List.mem_of_getElem? (i := 28) rfl))) (Or.inr (hw _ (List.mem_of_getElem? (i := 22) rfl))) (by decide) (t := .boolean) (t' := (.object "java/lang/Object")) (by decide) (by decide)))).other W193 (Or.inr (slot_ne (Or.inr (hw _ (List.mem_of_getElem? (i := 28) rfl))) (Or.inr (hw _ (List.mem_of_getElem? (i := 24) rfl))) (by decide) (t := .boolean) (t' := .long) (by decide) (by decide)))).other W194 (Or.inr (slot_ne (Or.inr (hw _ (List.mem_of_getElem? (i := 28) rfl))) (Or.inr (hw _ (List.mem_of_getElem? (i := 26) rfl))) (by decide) (t := .boolean) (t' := .long) (by decide) (by decide))))
          have Z195 : n0 ≤ h195.size := Nat.le_trans Z194 (Nat.le_of_eq W195.size.symm)
          have Fw195 := Fld.same W195 f201
          have f202 : Exa Z h195 b190 "com/example/grantd/grantd/front/Places$Waiting" := (f200.wr W195)
          have f203 : Fld Z h195 b190 "com/example/grantd/grantd/front/Places$Waiting" "firstServed" "J" (.long x1) := (Fw194.other W195 (Or.inr (slot_ne (Or.inr (hw _ (List.mem_of_getElem? (i := 26) rfl))) (Or.inr (hw _ (List.mem_of_getElem? (i := 28) rfl))) (by decide) (t := .long) (t' := .boolean) (by decide) (by decide))))
          have pre204 : ∀ t, Steps p.tables e below (T191.setTop (mkF m 95 #[.val (.long x0), .second, .val (.long x1), .second, .val (.int x2), .val (.int (1 : Int32)), .val (.long x1), .second, .val (.ref b188), .val (.ref b190), .val (.int (0 : Int32))] [(.ref b190)])) t → Steps p.tables e below (s₁.setTop (entryFrame m #[(.long x0), (.long x1), (.int x2)] maxLocals)) t := fun t kk => pre185 t (by
            show Steps p.tables e below (s₁.setTop (mkF m 43 #[.val (.long x0), .second, .val (.long x1), .second, .val (.int x2), .val (.int (1 : Int32)), .val (.long x1), .second, .unset, .unset, .unset] [(.int x2)])) _
            refine st187 _ ?_
            show Steps p.tables e below (T187.setTop (mkF m 46 #[.val (.long x0), .second, .val (.long x1), .second, .val (.int x2), .val (.int (1 : Int32)), .val (.long x1), .second, .unset, .unset, .unset] [(.ref b188)])) _
            refine XS.astore X187.here hx rfl (hb hby at_46) rfl rfl (l' := #[.val (.long x0), .second, .val (.long x1), .second, .val (.int x2), .val (.int (1 : Int32)), .val (.long x1), .second, .val (.ref b188), .unset, .unset]) rfl ?_
            show Steps p.tables e below (T187.setTop (mkF m 48 #[.val (.long x0), .second, .val (.long x1), .second, .val (.int x2), .val (.int (1 : Int32)), .val (.long x1), .second, .val (.ref b188), .unset, .unset] [])) _
            refine st190 _ ?_
            show Steps p.tables e below (T190.setTop (mkF m 51 #[.val (.long x0), .second, .val (.long x1), .second, .val (.int x2), .val (.int (1 : Int32)), .val (.long x1), .second, .val (.ref b188), .unset, .unset] [(.ref b190)])) _
            refine XS.dup X190.here hx rfl (hb hby at_51) rfl rfl ?_
            show Steps p.tables e below (T190.setTop (mkF m 52 #[.val (.long x0), .second, .val (.long x1), .second, .val (.int x2), .val (.int (1 : Int32)), .val (.long x1), .second, .val (.ref b188), .unset, .unset] [(.ref b190), (.ref b190)])) _
            refine XS.aload X190.here hx rfl (hb hby at_52) rfl rfl ?_
            show Steps p.tables e below (T190.setTop (mkF m 54 #[.val (.long x0), .second, .val (.long x1), .second, .val (.int x2), .val (.int (1 : Int32)), .val (.long x1), .second, .val (.ref b188), .unset, .unset] [(.ref b188), (.ref b190), (.ref b190)])) _
            refine XS.lloadN X190.here hx rfl (hb hby at_54) rfl ?_
            show Steps p.tables e below (T190.setTop (mkF m 55 #[.val (.long x0), .second, .val (.long x1), .second, .val (.int x2), .val (.int (1 : Int32)), .val (.long x1), .second, .val (.ref b188), .unset, .unset] [(.long x0), (.ref b188), (.ref b190), (.ref b190)])) _
            refine XS.lload X190.here hx rfl (hb hby at_55) rfl ?_
            show Steps p.tables e below (T190.setTop (mkF m 57 #[.val (.long x0), .second, .val (.long x1), .second, .val (.int x2), .val (.int (1 : Int32)), .val (.long x1), .second, .val (.ref b188), .unset, .unset] [(.long x1), (.long x0), (.ref b188), (.ref b190), (.ref b190)])) _
            refine XS.iload X190.here hx rfl (hb hby at_57) rfl ?_
            show Steps p.tables e below (T190.setTop (mkF m 59 #[.val (.long x0), .second, .val (.long x1), .second, .val (.int x2), .val (.int (1 : Int32)), .val (.long x1), .second, .val (.ref b188), .unset, .unset] [(.int (1 : Int32)), (.long x1), (.long x0), (.ref b188), (.ref b190), (.ref b190)])) _
            refine st191.trans ?_
            show Steps p.tables e below (T191.setTop (mkF m 62 #[.val (.long x0), .second, .val (.long x1), .second, .val (.int x2), .val (.int (1 : Int32)), .val (.long x1), .second, .val (.ref b188), .unset, .unset] [(.ref b190)])) _
            refine XS.astore X191.here hx rfl (hb hby at_62) rfl rfl (l' := #[.val (.long x0), .second, .val (.long x1), .second, .val (.int x2), .val (.int (1 : Int32)), .val (.long x1), .second, .val (.ref b188), .val (.ref b190), .unset]) rfl ?_
            show Steps p.tables e below (T191.setTop (mkF m 64 #[.val (.long x0), .second, .val (.long x1), .second, .val (.int x2), .val (.int (1 : Int32)), .val (.long x1), .second, .val (.ref b188), .val (.ref b190), .unset] [])) _
            refine XS.iload X191.here hx rfl (hb hby at_64) rfl ?_
            show Steps p.tables e below (T191.setTop (mkF m 66 #[.val (.long x0), .second, .val (.long x1), .second, .val (.int x2), .val (.int (1 : Int32)), .val (.long x1), .second, .val (.ref b188), .val (.ref b190), .unset] [(.int (1 : Int32))])) _
            refine XS.ifNo X191.here hx rfl (hb hby at_66) rfl ((if0 _ _).trans (feq ((by decide) : ¬ ((1 : Int32) = (0 : Int32)))).1) ?_
            show Steps p.tables e below (T191.setTop (mkF m 69 #[.val (.long x0), .second, .val (.long x1), .second, .val (.int x2), .val (.int (1 : Int32)), .val (.long x1), .second, .val (.ref b188), .val (.ref b190), .unset] [])) _
            refine XS.iconst X191.here hx rfl (hb hby at_69) ?_
            show Steps p.tables e below (T191.setTop (mkF m 70 #[.val (.long x0), .second, .val (.long x1), .second, .val (.int x2), .val (.int (1 : Int32)), .val (.long x1), .second, .val (.ref b188), .val (.ref b190), .unset] [(.int (0 : Int32))])) _
            refine XS.istore X191.here hx rfl (hb hby at_70) rfl (l' := #[.val (.long x0), .second, .val (.long x1), .second, .val (.int x2), .val (.int (1 : Int32)), .val (.long x1), .second, .val (.ref b188), .val (.ref b190), .val (.int (0 : Int32))]) rfl ?_
            show Steps p.tables e below (T191.setTop (mkF m 72 #[.val (.long x0), .second, .val (.long x1), .second, .val (.int x2), .val (.int (1 : Int32)), .val (.long x1), .second, .val (.ref b188), .val (.ref b190), .val (.int (0 : Int32))] [])) _
            refine XS.goto X191.here hx rfl (pc0 := 72) (pc' := 93) rfl (hb hby at_72) (by decide) (by decide) ?_
            show Steps p.tables e below (T191.setTop (mkF m 93 #[.val (.long x0), .second, .val (.long x1), .second, .val (.int x2), .val (.int (1 : Int32)), .val (.long x1), .second, .val (.ref b188), .val (.ref b190), .val (.int (0 : Int32))] [])) _
            refine XS.aload X191.here hx rfl (hb hby at_93) rfl rfl ?_
            exact kk)
          by_cases hc205 : (lcmpW x1 (9223372036854775807 : Int64)) = (0 : Int32)
          ·
            obtain ⟨cq206, kq206, q206a, q206b, q206c⟩ := isOf hZ e191 f202
            obtain ⟨_, _, ⟨T206, L206, k206, n206⟩, -, X206, ⟨Lc206, hQ206, l206, y206, z206⟩, st206⟩ := X191.virtualBack hx (y := (⟨"com/example/grantd/grantd/front/Places$Waiting", "isBetweenRequests", "()Z"⟩ : MethodName)) (z := (⟨"com/example/grantd/grantd/front/Places$Waiting", "isBetweenRequests", "()Z"⟩ : MethodName)) hown (mvT hZ (hw _ (List.mem_of_getElem? (i := 30) rfl))) (mvT hZ (hw _ (List.mem_of_getElem? (i := 31) rfl))) (notFace_of_selects (args := #[]) (mvT hZ (hw _ (List.mem_of_getElem? (i := 33) rfl)))) (mvT hZ (hw _ (List.mem_of_getElem? (i := 33) rfl))) (mvT hZ (hw _ (List.mem_of_getElem? (i := 32) rfl))) (by decide) (backOf (W := 0) (rm6 l Z a0 hw [] b190 x1 h195 n0 Z195 f203 hc205) hZ (hw _ (List.mem_of_getElem? (i := 34) rfl)) (hw _ (List.mem_of_getElem? (i := 9) rfl)) (by decide) (by decide)) q206a q206c (g := (mkF m 95 #[.val (.long x0), .second, .val (.long x1), .second, .val (.int x2), .val (.int (1 : Int32)), .val (.long x1), .second, .val (.ref b188), .val (.ref b190), .val (.int (0 : Int32))] [(.ref b190)])) rfl (by rw [hml]; rfl) (Steps.refl _) (argsL := []) (rest := []) (lenOf pd_4 rfl) rfl (by show 2 * 0 + _ ≤ _; exact Nat.le_of_eq rfl) (hb hby at_95) (fun _ _ => ⟨rfl, e191, (by decide : 2 + 0 ≤ _), (by decide : 5 + 0 ≤ _)⟩)
            dsimp only [Pt.U, Pt.locs, Pt.cells, Pt.slots] at X206 l206 y206 z206 st206 hQ206
            subst l206 y206 z206
            obtain ⟨rfl, N206q, e206⟩ := hQ206
            have N206 := Fr.app N191 N206q
            have pre207 : ∀ t, Steps p.tables e below (T206.setTop (mkF m 108 #[.val (.long x0), .second, .val (.long x1), .second, .val (.int x2), .val (.int (1 : Int32)), .val (.long x1), .second, .val (.ref b188), .val (.ref b190), .val (.int (0 : Int32))] [(.int (1 : Int32))])) t → Steps p.tables e below (s₁.setTop (entryFrame m #[(.long x0), (.long x1), (.int x2)] maxLocals)) t := fun t kk => pre204 t (by
              show Steps p.tables e below (T191.setTop (mkF m 95 #[.val (.long x0), .second, .val (.long x1), .second, .val (.int x2), .val (.int (1 : Int32)), .val (.long x1), .second, .val (.ref b188), .val (.ref b190), .val (.int (0 : Int32))] [(.ref b190)])) _
              refine st206.trans ?_
              show Steps p.tables e below (T206.setTop (mkF m 98 #[.val (.long x0), .second, .val (.long x1), .second, .val (.int x2), .val (.int (1 : Int32)), .val (.long x1), .second, .val (.ref b188), .val (.ref b190), .val (.int (0 : Int32))] [(.int (0 : Int32))])) _
              refine XS.iload X206.here hx rfl (hb hby at_98) rfl ?_
              show Steps p.tables e below (T206.setTop (mkF m 100 #[.val (.long x0), .second, .val (.long x1), .second, .val (.int x2), .val (.int (1 : Int32)), .val (.long x1), .second, .val (.ref b188), .val (.ref b190), .val (.int (0 : Int32))] [(.int (0 : Int32)), (.int (0 : Int32))])) _
              refine XS.icmpNo X206.here hx rfl (hb hby at_100) rfl (teq ((by decide) : (0 : Int32) = (0 : Int32))).2 ?_
              show Steps p.tables e below (T206.setTop (mkF m 103 #[.val (.long x0), .second, .val (.long x1), .second, .val (.int x2), .val (.int (1 : Int32)), .val (.long x1), .second, .val (.ref b188), .val (.ref b190), .val (.int (0 : Int32))] [])) _
              refine XS.iconst X206.here hx rfl (hb hby at_103) ?_
              show Steps p.tables e below (T206.setTop (mkF m 104 #[.val (.long x0), .second, .val (.long x1), .second, .val (.int x2), .val (.int (1 : Int32)), .val (.long x1), .second, .val (.ref b188), .val (.ref b190), .val (.int (0 : Int32))] [(.int (1 : Int32))])) _
              refine XS.goto X206.here hx rfl (pc0 := 104) (pc' := 108) rfl (hb hby at_104) (by decide) (by decide) ?_
              exact kk)
            obtain ⟨fs, hr, hrun, hended, hW, hsame⟩ := X206.leave (v := some (.int (1 : Int32))) (fun h => by rw [Bd.returns] at h; cases h)
            refine ⟨_, _, pre207 _ ?_, hrun, hended, _, _, rfl, ?_, ⟨_, rfl⟩, hW, hsame.mono (by decide) (by decide)⟩
            · exact retN X206 hx (t := .boolean) Bd.returns (by simp) (hb hby at_108) hr
            · exact ⟨rfl, N206⟩
          ·
            obtain ⟨cq208, kq208, q208a, q208b, q208c⟩ := isOf hZ e191 f202
            obtain ⟨_, _, ⟨T208, L208, k208, n208⟩, -, X208, ⟨Lc208, hQ208, l208, y208, z208⟩, st208⟩ := X191.virtualBack hx (y := (⟨"com/example/grantd/grantd/front/Places$Waiting", "isBetweenRequests", "()Z"⟩ : MethodName)) (z := (⟨"com/example/grantd/grantd/front/Places$Waiting", "isBetweenRequests", "()Z"⟩ : MethodName)) hown (mvT hZ (hw _ (List.mem_of_getElem? (i := 30) rfl))) (mvT hZ (hw _ (List.mem_of_getElem? (i := 31) rfl))) (notFace_of_selects (args := #[]) (mvT hZ (hw _ (List.mem_of_getElem? (i := 33) rfl)))) (mvT hZ (hw _ (List.mem_of_getElem? (i := 33) rfl))) (mvT hZ (hw _ (List.mem_of_getElem? (i := 32) rfl))) (by decide) (backOf (W := 0) (rm15 l Z a0 hw [] b190 x1 h195 n0 Z195 f203 hc205 Fw195) hZ (hw _ (List.mem_of_getElem? (i := 34) rfl)) (hw _ (List.mem_of_getElem? (i := 9) rfl)) (by decide) (by decide)) q208a q208c (g := (mkF m 95 #[.val (.long x0), .second, .val (.long x1), .second, .val (.int x2), .val (.int (1 : Int32)), .val (.long x1), .second, .val (.ref b188), .val (.ref b190), .val (.int (0 : Int32))] [(.ref b190)])) rfl (by rw [hml]; rfl) (Steps.refl _) (argsL := []) (rest := []) (lenOf pd_4 rfl) rfl (by show 2 * 0 + _ ≤ _; exact Nat.le_of_eq rfl) (hb hby at_95) (fun _ _ => ⟨rfl, e191, (by decide : 2 + 0 ≤ _), (by decide : 5 + 0 ≤ _)⟩)
            dsimp only [Pt.U, Pt.locs, Pt.cells, Pt.slots] at X208 l208 y208 z208 st208 hQ208
            subst l208 y208 z208
            obtain ⟨rfl, N208q, e208⟩ := hQ208
            have N208 := Fr.app N191 N208q
            have pre209 : ∀ t, Steps p.tables e below (T208.setTop (mkF m 108 #[.val (.long x0), .second, .val (.long x1), .second, .val (.int x2), .val (.int (1 : Int32)), .val (.long x1), .second, .val (.ref b188), .val (.ref b190), .val (.int (0 : Int32))] [(.int (1 : Int32))])) t → Steps p.tables e below (s₁.setTop (entryFrame m #[(.long x0), (.long x1), (.int x2)] maxLocals)) t := fun t kk => pre204 t (by
              show Steps p.tables e below (T191.setTop (mkF m 95 #[.val (.long x0), .second, .val (.long x1), .second, .val (.int x2), .val (.int (1 : Int32)), .val (.long x1), .second, .val (.ref b188), .val (.ref b190), .val (.int (0 : Int32))] [(.ref b190)])) _
              refine st208.trans ?_
              show Steps p.tables e below (T208.setTop (mkF m 98 #[.val (.long x0), .second, .val (.long x1), .second, .val (.int x2), .val (.int (1 : Int32)), .val (.long x1), .second, .val (.ref b188), .val (.ref b190), .val (.int (0 : Int32))] [(.int (0 : Int32))])) _
              refine XS.iload X208.here hx rfl (hb hby at_98) rfl ?_
              show Steps p.tables e below (T208.setTop (mkF m 100 #[.val (.long x0), .second, .val (.long x1), .second, .val (.int x2), .val (.int (1 : Int32)), .val (.long x1), .second, .val (.ref b188), .val (.ref b190), .val (.int (0 : Int32))] [(.int (0 : Int32)), (.int (0 : Int32))])) _
              refine XS.icmpNo X208.here hx rfl (hb hby at_100) rfl (teq ((by decide) : (0 : Int32) = (0 : Int32))).2 ?_
              show Steps p.tables e below (T208.setTop (mkF m 103 #[.val (.long x0), .second, .val (.long x1), .second, .val (.int x2), .val (.int (1 : Int32)), .val (.long x1), .second, .val (.ref b188), .val (.ref b190), .val (.int (0 : Int32))] [])) _
              refine XS.iconst X208.here hx rfl (hb hby at_103) ?_
              show Steps p.tables e below (T208.setTop (mkF m 104 #[.val (.long x0), .second, .val (.long x1), .second, .val (.int x2), .val (.int (1 : Int32)), .val (.long x1), .second, .val (.ref b188), .val (.ref b190), .val (.int (0 : Int32))] [(.int (1 : Int32))])) _
              refine XS.goto X208.here hx rfl (pc0 := 104) (pc' := 108) rfl (hb hby at_104) (by decide) (by decide) ?_
              exact kk)
            obtain ⟨fs, hr, hrun, hended, hW, hsame⟩ := X208.leave (v := some (.int (1 : Int32))) (fun h => by rw [Bd.returns] at h; cases h)
            refine ⟨_, _, pre209 _ ?_, hrun, hended, _, _, rfl, ?_, ⟨_, rfl⟩, hW, hsame.mono (by decide) (by decide)⟩
            · exact retN X208 hx (t := .boolean) Bd.returns (by simp) (hb hby at_108) hr
            · exact ⟨rfl, N208⟩
        ·
          by_cases hc210 : (127 : Int32) < x2
          ·
            obtain ⟨_, _, ⟨T211, L211, k211, n211⟩, -, X211, ⟨Lc211, hQ211, l211, y211, z211⟩, st211⟩ := Jvm.LawKit.callS X0 hx (y := (⟨"java/lang/Integer", "valueOf", "(I)Ljava/lang/Integer;"⟩ : MethodName)) hown (mvT hZ (hw _ (List.mem_of_getElem? (i := 0) rfl))) (mvT hZ (hw _ (List.mem_of_getElem? (i := 1) rfl))) (mvT hZ (hw _ (List.mem_of_getElem? (i := 2) rfl))) (mvT hZ (hw _ (List.mem_of_getElem? (i := 3) rfl))) (by decide) (backOf (W := 0) (rm8 l Z a0 hw [] x2 h0 n0 Z0 hc186 S_high hc210) hZ (hw _ (List.mem_of_getElem? (i := 3) rfl)) (hw _ (List.mem_of_getElem? (i := 2) rfl)) (by decide) (by decide)) (g := (mkF m 43 #[.val (.long x0), .second, .val (.long x1), .second, .val (.int x2), .val (.int (1 : Int32)), .val (.long x1), .second, .unset, .unset, .unset] [(.int x2)])) rfl (by rw [hml]; rfl) (argsL := [(.int x2)]) (rest := []) (lenOf pd_2 rfl) rfl (by show 2 * 0 + _ ≤ _; exact Nat.le_of_eq rfl) (hb hby at_43) (fun _ _ => ⟨rfl, e0, (by decide : 0 + 1 ≤ _), (by decide : 0 + 1 ≤ _)⟩)
            dsimp only [Pt.U, Pt.locs, Pt.cells, Pt.slots] at X211 l211 y211 z211 st211 hQ211
            subst l211 y211 z211
            obtain ⟨br211, rfl, N211q, h212, b212, g212, E212, A212, F212_value, h213, W213, e211, rfl⟩ := hQ211
            have N211 := Fr.app N0 N211q
            have G212 : n0 ≤ b212 := (Nat.le_trans Z0 (Nat.le_of_eq g212.symm))
            have Z212 : n0 ≤ h212.size := Nat.le_trans Z0 E212.1
            have Z213 : n0 ≤ h213.size := Nat.le_trans Z212 (Nat.le_of_eq W213.size.symm)
            have Fw213 := Fld.same W213 F212_value
            obtain ⟨T214, h214, X214, e214, E214, A214, D214, -, st214⟩ := newO X211 hx hZ hown (hw _ (List.mem_of_getElem? (i := 7) rfl)) (hw _ (List.mem_of_getElem? (i := 8) rfl)) (hw _ (List.mem_of_getElem? (i := 9) rfl)) e211 (g := (mkF m 48 #[.val (.long x0), .second, .val (.long x1), .second, .val (.int x2), .val (.int (1 : Int32)), .val (.long x1), .second, .val (.ref b212), .unset, .unset] [])) rfl (hb hby at_48) (by decide) (by decide)
            obtain ⟨b214, g214⟩ : ∃ z, z = h213.size := ⟨_, rfl⟩
            rw [← g214] at A214 D214 st214
            have F214_connection : Fld Z h214 b214 "com/example/grantd/grantd/front/Places$Waiting" "connection" "Ljava/lang/Object;" .null := D214 (Or.inr (hw _ (List.mem_of_getElem? (i := 22) rfl))) (ty := (.object "java/lang/Object")) (by decide)
            have F214_closableFrom : Fld Z h214 b214 "com/example/grantd/grantd/front/Places$Waiting" "closableFrom" "J" (.long (0 : Int64)) := D214 (Or.inr (hw _ (List.mem_of_getElem? (i := 24) rfl))) (ty := .long) (by decide)
            have F214_firstServed : Fld Z h214 b214 "com/example/grantd/grantd/front/Places$Waiting" "firstServed" "J" (.long (0 : Int64)) := D214 (Or.inr (hw _ (List.mem_of_getElem? (i := 26) rfl))) (ty := .long) (by decide)
            have F214_holdsHead : Fld Z h214 b214 "com/example/grantd/grantd/front/Places$Waiting" "holdsHead" "Z" (.int (0 : Int32)) := D214 (Or.inr (hw _ (List.mem_of_getElem? (i := 28) rfl))) (ty := .boolean) (by decide)
            have G214 : n0 ≤ b214 := (Nat.le_trans Z213 (Nat.le_of_eq g214.symm))
            have Z214 : n0 ≤ h214.size := Nat.le_trans Z213 E214.1
            obtain ⟨_, _, ⟨T215, L215, k215, n215⟩, -, X215, ⟨Lc215, hQ215, l215, y215, z215⟩, st215⟩ := X214.specialBack hx (y := (⟨"com/example/grantd/grantd/front/Places$Waiting", "<init>", "(Ljava/lang/Object;JJZ)V"⟩ : MethodName)) rfl hown (mvT hZ (hw _ (List.mem_of_getElem? (i := 10) rfl))) (mvT hZ (hw _ (List.mem_of_getElem? (i := 11) rfl))) (mvT hZ (hw _ (List.mem_of_getElem? (i := 12) rfl))) (by decide) (backOf (W := 1) (rm14 l Z a0 hw [] b214 b212 x0 x1 h214 n0 Z214 A214 F214_connection G214 F214_closableFrom F214_firstServed F214_holdsHead) hZ (hw _ (List.mem_of_getElem? (i := 12) rfl)) (hw _ (List.mem_of_getElem? (i := 9) rfl)) (by decide) (by decide)) (g := (mkF m 59 #[.val (.long x0), .second, .val (.long x1), .second, .val (.int x2), .val (.int (1 : Int32)), .val (.long x1), .second, .val (.ref b212), .unset, .unset] [(.int (1 : Int32)), (.long x1), (.long x0), (.ref b212), (.ref b214), (.ref b214)])) rfl (by rw [hml]; rfl) (Steps.refl _) (a := b214) (argsL := [(.ref b212), (.long x0), (.long x1), (.int (1 : Int32))]) (rest := [(.ref b214)]) (lenOf pd_3 rfl) rfl (by show 2 * 0 + _ ≤ _; exact Nat.le_of_eq rfl) (hb hby at_59) (fun _ _ => ⟨rfl, e214, (by decide : 2 + 0 ≤ _), (by decide : 5 + 0 ≤ _)⟩)
            dsimp only [Pt.U, Pt.locs, Pt.cells, Pt.slots] at X215 l215 y215 z215 st215 hQ215
            subst l215 y215 z215
            obtain ⟨rfl, N215q, h216, W216, h217, W217, h218, W218, h219, W219, e215⟩ := hQ215
            have N215 := Fr.app N211 N215q
            have Z216 : n0 ≤ h216.size := Nat.le_trans Z214 (Nat.le_of_eq W216.size.symm)
            have Fw216 := Fld.same W216 F214_connection
            have f220 : Exa Z h216 b214 "com/example/grantd/grantd/front/Places$Waiting" := (A214.wr W216)
            have f221 : Fld Z h216 b214 "com/example/grantd/grantd/front/Places$Waiting" "closableFrom" "J" (.long (0 : Int64)) := (F214_closableFrom.other W216 (Or.inr (slot_ne (Or.inr (hw _ (List.mem_of_getElem? (i := 24) rfl))) (Or.inr (hw _ (List.mem_of_getElem? (i := 22) rfl))) (by decide) (t := .long) (t' := (.object "java/lang/Object")) (by decide) (by decide))))
            have Z217 : n0 ≤ h217.size := Nat.le_trans Z216 (Nat.le_of_eq W217.size.symm)
            have Fw217 := Fld.same W217 f221
            have f222 : Exa Z h217 b214 "com/example/grantd/grantd/front/Places$Waiting" := (f220.wr W217)
            have f223 : Fld Z h217 b214 "com/example/grantd/grantd/front/Places$Waiting" "firstServed" "J" (.long (0 : Int64)) := ((F214_firstServed.other W216 (Or.inr (slot_ne (Or.inr (hw _ (List.mem_of_getElem? (i := 26) rfl))) (Or.inr (hw _ (List.mem_of_getElem? (i := 22) rfl))) (by decide) (t := .long) (t' := (.object "java/lang/Object")) (by decide) (by decide)))).other W217 (Or.inr (slot_ne (Or.inr (hw _ (List.mem_of_getElem? (i := 26) rfl))) (Or.inr (hw _ (List.mem_of_getElem? (i := 24) rfl))) (by decide) (t := .long) (t' := .long) (by decide) (by decide))))
            have Z218 : n0 ≤ h218.size := Nat.le_trans Z217 (Nat.le_of_eq W218.size.symm)
            have Fw218 := Fld.same W218 f223
            have f224 : Exa Z h218 b214 "com/example/grantd/grantd/front/Places$Waiting" := (f222.wr W218)
            have f225 : Fld Z h218 b214 "com/example/grantd/grantd/front/Places$Waiting" "holdsHead" "Z" (.int (0 : Int32)) := (((F214_holdsHead.other W216 (Or.inr (slot_ne (Or.inr (hw _ (List.mem_of_getElem? (i := 28) rfl))) (Or.inr (hw _ (List.mem_of_getElem? (i := 22) rfl))) (by decide) (t := .boolean) (t' := (.object "java/lang/Object")) (by decide) (by decide)))).other W217 (Or.inr (slot_ne (Or.inr (hw _ (List.mem_of_getElem? (i := 28) rfl))) (Or.inr (hw _ (List.mem_of_getElem? (i := 24) rfl))) (by decide) (t := .boolean) (t' := .long) (by decide) (by decide)))).other W218 (Or.inr (slot_ne (Or.inr (hw _ (List.mem_of_getElem? (i := 28) rfl))) (Or.inr (hw _ (List.mem_of_getElem? (i := 26) rfl))) (by decide) (t := .boolean) (t' := .long) (by decide) (by decide))))
            have Z219 : n0 ≤ h219.size := Nat.le_trans Z218 (Nat.le_of_eq W219.size.symm)
            have Fw219 := Fld.same W219 f225
            have f226 : Exa Z h219 b214 "com/example/grantd/grantd/front/Places$Waiting" := (f224.wr W219)
            have f227 : Fld Z h219 b214 "com/example/grantd/grantd/front/Places$Waiting" "firstServed" "J" (.long x1) := (Fw218.other W219 (Or.inr (slot_ne (Or.inr (hw _ (List.mem_of_getElem? (i := 26) rfl))) (Or.inr (hw _ (List.mem_of_getElem? (i := 28) rfl))) (by decide) (t := .long) (t' := .boolean) (by decide) (by decide))))
            have pre228 : ∀ t, Steps p.tables e below (T215.setTop (mkF m 95 #[.val (.long x0), .second, .val (.long x1), .second, .val (.int x2), .val (.int (1 : Int32)), .val (.long x1), .second, .val (.ref b212), .val (.ref b214), .val (.int (0 : Int32))] [(.ref b214)])) t → Steps p.tables e below (s₁.setTop (entryFrame m #[(.long x0), (.long x1), (.int x2)] maxLocals)) t := fun t kk => pre185 t (by
              show Steps p.tables e below (s₁.setTop (mkF m 43 #[.val (.long x0), .second, .val (.long x1), .second, .val (.int x2), .val (.int (1 : Int32)), .val (.long x1), .second, .unset, .unset, .unset] [(.int x2)])) _
              refine st211 _ ?_
              show Steps p.tables e below (T211.setTop (mkF m 46 #[.val (.long x0), .second, .val (.long x1), .second, .val (.int x2), .val (.int (1 : Int32)), .val (.long x1), .second, .unset, .unset, .unset] [(.ref b212)])) _
              refine XS.astore X211.here hx rfl (hb hby at_46) rfl rfl (l' := #[.val (.long x0), .second, .val (.long x1), .second, .val (.int x2), .val (.int (1 : Int32)), .val (.long x1), .second, .val (.ref b212), .unset, .unset]) rfl ?_
              show Steps p.tables e below (T211.setTop (mkF m 48 #[.val (.long x0), .second, .val (.long x1), .second, .val (.int x2), .val (.int (1 : Int32)), .val (.long x1), .second, .val (.ref b212), .unset, .unset] [])) _
              refine st214 _ ?_
              show Steps p.tables e below (T214.setTop (mkF m 51 #[.val (.long x0), .second, .val (.long x1), .second, .val (.int x2), .val (.int (1 : Int32)), .val (.long x1), .second, .val (.ref b212), .unset, .unset] [(.ref b214)])) _
              refine XS.dup X214.here hx rfl (hb hby at_51) rfl rfl ?_
              show Steps p.tables e below (T214.setTop (mkF m 52 #[.val (.long x0), .second, .val (.long x1), .second, .val (.int x2), .val (.int (1 : Int32)), .val (.long x1), .second, .val (.ref b212), .unset, .unset] [(.ref b214), (.ref b214)])) _
              refine XS.aload X214.here hx rfl (hb hby at_52) rfl rfl ?_
              show Steps p.tables e below (T214.setTop (mkF m 54 #[.val (.long x0), .second, .val (.long x1), .second, .val (.int x2), .val (.int (1 : Int32)), .val (.long x1), .second, .val (.ref b212), .unset, .unset] [(.ref b212), (.ref b214), (.ref b214)])) _
              refine XS.lloadN X214.here hx rfl (hb hby at_54) rfl ?_
              show Steps p.tables e below (T214.setTop (mkF m 55 #[.val (.long x0), .second, .val (.long x1), .second, .val (.int x2), .val (.int (1 : Int32)), .val (.long x1), .second, .val (.ref b212), .unset, .unset] [(.long x0), (.ref b212), (.ref b214), (.ref b214)])) _
              refine XS.lload X214.here hx rfl (hb hby at_55) rfl ?_
              show Steps p.tables e below (T214.setTop (mkF m 57 #[.val (.long x0), .second, .val (.long x1), .second, .val (.int x2), .val (.int (1 : Int32)), .val (.long x1), .second, .val (.ref b212), .unset, .unset] [(.long x1), (.long x0), (.ref b212), (.ref b214), (.ref b214)])) _
              refine XS.iload X214.here hx rfl (hb hby at_57) rfl ?_
              show Steps p.tables e below (T214.setTop (mkF m 59 #[.val (.long x0), .second, .val (.long x1), .second, .val (.int x2), .val (.int (1 : Int32)), .val (.long x1), .second, .val (.ref b212), .unset, .unset] [(.int (1 : Int32)), (.long x1), (.long x0), (.ref b212), (.ref b214), (.ref b214)])) _
              refine st215.trans ?_
              show Steps p.tables e below (T215.setTop (mkF m 62 #[.val (.long x0), .second, .val (.long x1), .second, .val (.int x2), .val (.int (1 : Int32)), .val (.long x1), .second, .val (.ref b212), .unset, .unset] [(.ref b214)])) _
              refine XS.astore X215.here hx rfl (hb hby at_62) rfl rfl (l' := #[.val (.long x0), .second, .val (.long x1), .second, .val (.int x2), .val (.int (1 : Int32)), .val (.long x1), .second, .val (.ref b212), .val (.ref b214), .unset]) rfl ?_
              show Steps p.tables e below (T215.setTop (mkF m 64 #[.val (.long x0), .second, .val (.long x1), .second, .val (.int x2), .val (.int (1 : Int32)), .val (.long x1), .second, .val (.ref b212), .val (.ref b214), .unset] [])) _
              refine XS.iload X215.here hx rfl (hb hby at_64) rfl ?_
              show Steps p.tables e below (T215.setTop (mkF m 66 #[.val (.long x0), .second, .val (.long x1), .second, .val (.int x2), .val (.int (1 : Int32)), .val (.long x1), .second, .val (.ref b212), .val (.ref b214), .unset] [(.int (1 : Int32))])) _
              refine XS.ifNo X215.here hx rfl (hb hby at_66) rfl ((if0 _ _).trans (feq ((by decide) : ¬ ((1 : Int32) = (0 : Int32)))).1) ?_
              show Steps p.tables e below (T215.setTop (mkF m 69 #[.val (.long x0), .second, .val (.long x1), .second, .val (.int x2), .val (.int (1 : Int32)), .val (.long x1), .second, .val (.ref b212), .val (.ref b214), .unset] [])) _
              refine XS.iconst X215.here hx rfl (hb hby at_69) ?_
              show Steps p.tables e below (T215.setTop (mkF m 70 #[.val (.long x0), .second, .val (.long x1), .second, .val (.int x2), .val (.int (1 : Int32)), .val (.long x1), .second, .val (.ref b212), .val (.ref b214), .unset] [(.int (0 : Int32))])) _
              refine XS.istore X215.here hx rfl (hb hby at_70) rfl (l' := #[.val (.long x0), .second, .val (.long x1), .second, .val (.int x2), .val (.int (1 : Int32)), .val (.long x1), .second, .val (.ref b212), .val (.ref b214), .val (.int (0 : Int32))]) rfl ?_
              show Steps p.tables e below (T215.setTop (mkF m 72 #[.val (.long x0), .second, .val (.long x1), .second, .val (.int x2), .val (.int (1 : Int32)), .val (.long x1), .second, .val (.ref b212), .val (.ref b214), .val (.int (0 : Int32))] [])) _
              refine XS.goto X215.here hx rfl (pc0 := 72) (pc' := 93) rfl (hb hby at_72) (by decide) (by decide) ?_
              show Steps p.tables e below (T215.setTop (mkF m 93 #[.val (.long x0), .second, .val (.long x1), .second, .val (.int x2), .val (.int (1 : Int32)), .val (.long x1), .second, .val (.ref b212), .val (.ref b214), .val (.int (0 : Int32))] [])) _
              refine XS.aload X215.here hx rfl (hb hby at_93) rfl rfl ?_
              exact kk)
            by_cases hc229 : (lcmpW x1 (9223372036854775807 : Int64)) = (0 : Int32)
            ·
              obtain ⟨cq230, kq230, q230a, q230b, q230c⟩ := isOf hZ e215 f226
              obtain ⟨_, _, ⟨T230, L230, k230, n230⟩, -, X230, ⟨Lc230, hQ230, l230, y230, z230⟩, st230⟩ := X215.virtualBack hx (y := (⟨"com/example/grantd/grantd/front/Places$Waiting", "isBetweenRequests", "()Z"⟩ : MethodName)) (z := (⟨"com/example/grantd/grantd/front/Places$Waiting", "isBetweenRequests", "()Z"⟩ : MethodName)) hown (mvT hZ (hw _ (List.mem_of_getElem? (i := 30) rfl))) (mvT hZ (hw _ (List.mem_of_getElem? (i := 31) rfl))) (notFace_of_selects (args := #[]) (mvT hZ (hw _ (List.mem_of_getElem? (i := 33) rfl)))) (mvT hZ (hw _ (List.mem_of_getElem? (i := 33) rfl))) (mvT hZ (hw _ (List.mem_of_getElem? (i := 32) rfl))) (by decide) (backOf (W := 0) (rm6 l Z a0 hw [] b214 x1 h219 n0 Z219 f227 hc229) hZ (hw _ (List.mem_of_getElem? (i := 34) rfl)) (hw _ (List.mem_of_getElem? (i := 9) rfl)) (by decide) (by decide)) q230a q230c (g := (mkF m 95 #[.val (.long x0), .second, .val (.long x1), .second, .val (.int x2), .val (.int (1 : Int32)), .val (.long x1), .second, .val (.ref b212), .val (.ref b214), .val (.int (0 : Int32))] [(.ref b214)])) rfl (by rw [hml]; rfl) (Steps.refl _) (argsL := []) (rest := []) (lenOf pd_4 rfl) rfl (by show 2 * 0 + _ ≤ _; exact Nat.le_of_eq rfl) (hb hby at_95) (fun _ _ => ⟨rfl, e215, (by decide : 2 + 0 ≤ _), (by decide : 5 + 0 ≤ _)⟩)
              dsimp only [Pt.U, Pt.locs, Pt.cells, Pt.slots] at X230 l230 y230 z230 st230 hQ230
              subst l230 y230 z230
              obtain ⟨rfl, N230q, e230⟩ := hQ230
              have N230 := Fr.app N215 N230q
              have pre231 : ∀ t, Steps p.tables e below (T230.setTop (mkF m 108 #[.val (.long x0), .second, .val (.long x1), .second, .val (.int x2), .val (.int (1 : Int32)), .val (.long x1), .second, .val (.ref b212), .val (.ref b214), .val (.int (0 : Int32))] [(.int (1 : Int32))])) t → Steps p.tables e below (s₁.setTop (entryFrame m #[(.long x0), (.long x1), (.int x2)] maxLocals)) t := fun t kk => pre228 t (by
                show Steps p.tables e below (T215.setTop (mkF m 95 #[.val (.long x0), .second, .val (.long x1), .second, .val (.int x2), .val (.int (1 : Int32)), .val (.long x1), .second, .val (.ref b212), .val (.ref b214), .val (.int (0 : Int32))] [(.ref b214)])) _
                refine st230.trans ?_
                show Steps p.tables e below (T230.setTop (mkF m 98 #[.val (.long x0), .second, .val (.long x1), .second, .val (.int x2), .val (.int (1 : Int32)), .val (.long x1), .second, .val (.ref b212), .val (.ref b214), .val (.int (0 : Int32))] [(.int (0 : Int32))])) _
                refine XS.iload X230.here hx rfl (hb hby at_98) rfl ?_
                show Steps p.tables e below (T230.setTop (mkF m 100 #[.val (.long x0), .second, .val (.long x1), .second, .val (.int x2), .val (.int (1 : Int32)), .val (.long x1), .second, .val (.ref b212), .val (.ref b214), .val (.int (0 : Int32))] [(.int (0 : Int32)), (.int (0 : Int32))])) _
                refine XS.icmpNo X230.here hx rfl (hb hby at_100) rfl (teq ((by decide) : (0 : Int32) = (0 : Int32))).2 ?_
                show Steps p.tables e below (T230.setTop (mkF m 103 #[.val (.long x0), .second, .val (.long x1), .second, .val (.int x2), .val (.int (1 : Int32)), .val (.long x1), .second, .val (.ref b212), .val (.ref b214), .val (.int (0 : Int32))] [])) _
                refine XS.iconst X230.here hx rfl (hb hby at_103) ?_
                show Steps p.tables e below (T230.setTop (mkF m 104 #[.val (.long x0), .second, .val (.long x1), .second, .val (.int x2), .val (.int (1 : Int32)), .val (.long x1), .second, .val (.ref b212), .val (.ref b214), .val (.int (0 : Int32))] [(.int (1 : Int32))])) _
                refine XS.goto X230.here hx rfl (pc0 := 104) (pc' := 108) rfl (hb hby at_104) (by decide) (by decide) ?_
                exact kk)
              obtain ⟨fs, hr, hrun, hended, hW, hsame⟩ := X230.leave (v := some (.int (1 : Int32))) (fun h => by rw [Bd.returns] at h; cases h)
              refine ⟨_, _, pre231 _ ?_, hrun, hended, _, _, rfl, ?_, ⟨_, rfl⟩, hW, hsame.mono (by decide) (by decide)⟩
              · exact retN X230 hx (t := .boolean) Bd.returns (by simp) (hb hby at_108) hr
              · exact ⟨rfl, N230⟩
            ·
              obtain ⟨cq232, kq232, q232a, q232b, q232c⟩ := isOf hZ e215 f226
              obtain ⟨_, _, ⟨T232, L232, k232, n232⟩, -, X232, ⟨Lc232, hQ232, l232, y232, z232⟩, st232⟩ := X215.virtualBack hx (y := (⟨"com/example/grantd/grantd/front/Places$Waiting", "isBetweenRequests", "()Z"⟩ : MethodName)) (z := (⟨"com/example/grantd/grantd/front/Places$Waiting", "isBetweenRequests", "()Z"⟩ : MethodName)) hown (mvT hZ (hw _ (List.mem_of_getElem? (i := 30) rfl))) (mvT hZ (hw _ (List.mem_of_getElem? (i := 31) rfl))) (notFace_of_selects (args := #[]) (mvT hZ (hw _ (List.mem_of_getElem? (i := 33) rfl)))) (mvT hZ (hw _ (List.mem_of_getElem? (i := 33) rfl))) (mvT hZ (hw _ (List.mem_of_getElem? (i := 32) rfl))) (by decide) (backOf (W := 0) (rm15 l Z a0 hw [] b214 x1 h219 n0 Z219 f227 hc229 Fw219) hZ (hw _ (List.mem_of_getElem? (i := 34) rfl)) (hw _ (List.mem_of_getElem? (i := 9) rfl)) (by decide) (by decide)) q232a q232c (g := (mkF m 95 #[.val (.long x0), .second, .val (.long x1), .second, .val (.int x2), .val (.int (1 : Int32)), .val (.long x1), .second, .val (.ref b212), .val (.ref b214), .val (.int (0 : Int32))] [(.ref b214)])) rfl (by rw [hml]; rfl) (Steps.refl _) (argsL := []) (rest := []) (lenOf pd_4 rfl) rfl (by show 2 * 0 + _ ≤ _; exact Nat.le_of_eq rfl) (hb hby at_95) (fun _ _ => ⟨rfl, e215, (by decide : 2 + 0 ≤ _), (by decide : 5 + 0 ≤ _)⟩)
              dsimp only [Pt.U, Pt.locs, Pt.cells, Pt.slots] at X232 l232 y232 z232 st232 hQ232
              subst l232 y232 z232
              obtain ⟨rfl, N232q, e232⟩ := hQ232
              have N232 := Fr.app N215 N232q
              have pre233 : ∀ t, Steps p.tables e below (T232.setTop (mkF m 108 #[.val (.long x0), .second, .val (.long x1), .second, .val (.int x2), .val (.int (1 : Int32)), .val (.long x1), .second, .val (.ref b212), .val (.ref b214), .val (.int (0 : Int32))] [(.int (1 : Int32))])) t → Steps p.tables e below (s₁.setTop (entryFrame m #[(.long x0), (.long x1), (.int x2)] maxLocals)) t := fun t kk => pre228 t (by
                show Steps p.tables e below (T215.setTop (mkF m 95 #[.val (.long x0), .second, .val (.long x1), .second, .val (.int x2), .val (.int (1 : Int32)), .val (.long x1), .second, .val (.ref b212), .val (.ref b214), .val (.int (0 : Int32))] [(.ref b214)])) _
                refine st232.trans ?_
                show Steps p.tables e below (T232.setTop (mkF m 98 #[.val (.long x0), .second, .val (.long x1), .second, .val (.int x2), .val (.int (1 : Int32)), .val (.long x1), .second, .val (.ref b212), .val (.ref b214), .val (.int (0 : Int32))] [(.int (0 : Int32))])) _
                refine XS.iload X232.here hx rfl (hb hby at_98) rfl ?_
                show Steps p.tables e below (T232.setTop (mkF m 100 #[.val (.long x0), .second, .val (.long x1), .second, .val (.int x2), .val (.int (1 : Int32)), .val (.long x1), .second, .val (.ref b212), .val (.ref b214), .val (.int (0 : Int32))] [(.int (0 : Int32)), (.int (0 : Int32))])) _
                refine XS.icmpNo X232.here hx rfl (hb hby at_100) rfl (teq ((by decide) : (0 : Int32) = (0 : Int32))).2 ?_
                show Steps p.tables e below (T232.setTop (mkF m 103 #[.val (.long x0), .second, .val (.long x1), .second, .val (.int x2), .val (.int (1 : Int32)), .val (.long x1), .second, .val (.ref b212), .val (.ref b214), .val (.int (0 : Int32))] [])) _
                refine XS.iconst X232.here hx rfl (hb hby at_103) ?_
                show Steps p.tables e below (T232.setTop (mkF m 104 #[.val (.long x0), .second, .val (.long x1), .second, .val (.int x2), .val (.int (1 : Int32)), .val (.long x1), .second, .val (.ref b212), .val (.ref b214), .val (.int (0 : Int32))] [(.int (1 : Int32))])) _
                refine XS.goto X232.here hx rfl (pc0 := 104) (pc' := 108) rfl (hb hby at_104) (by decide) (by decide) ?_
                exact kk)
              obtain ⟨fs, hr, hrun, hended, hW, hsame⟩ := X232.leave (v := some (.int (1 : Int32))) (fun h => by rw [Bd.returns] at h; cases h)
              refine ⟨_, _, pre233 _ ?_, hrun, hended, _, _, rfl, ?_, ⟨_, rfl⟩, hW, hsame.mono (by decide) (by decide)⟩
              · exact retN X232 hx (t := .boolean) Bd.returns (by simp) (hb hby at_108) hr
              · exact ⟨rfl, N232⟩
          ·
            obtain ⟨_, _, ⟨T234, L234, k234, n234⟩, -, X234, ⟨Lc234, hQ234, l234, y234, z234⟩, st234⟩ := Jvm.LawKit.callS X0 hx (y := (⟨"java/lang/Integer", "valueOf", "(I)Ljava/lang/Integer;"⟩ : MethodName)) hown (mvT hZ (hw _ (List.mem_of_getElem? (i := 0) rfl))) (mvT hZ (hw _ (List.mem_of_getElem? (i := 1) rfl))) (mvT hZ (hw _ (List.mem_of_getElem? (i := 2) rfl))) (mvT hZ (hw _ (List.mem_of_getElem? (i := 3) rfl))) (by decide) (backOf (W := 0) (rm9 l Z a0 hw [] x2 w_cache k_cache vsC h0 n0 Z0 hc186 S_high hc210 S_cache V_cache X_cache) hZ (hw _ (List.mem_of_getElem? (i := 3) rfl)) (hw _ (List.mem_of_getElem? (i := 2) rfl)) (by decide) (by decide)) (g := (mkF m 43 #[.val (.long x0), .second, .val (.long x1), .second, .val (.int x2), .val (.int (1 : Int32)), .val (.long x1), .second, .unset, .unset, .unset] [(.int x2)])) rfl (by rw [hml]; rfl) (argsL := [(.int x2)]) (rest := []) (lenOf pd_2 rfl) rfl (by show 2 * 0 + _ ≤ _; exact Nat.le_of_eq rfl) (hb hby at_43) (fun _ _ => ⟨rfl, e0, (by decide : 0 + 0 ≤ _), (by decide : 0 + 0 ≤ _)⟩)
            dsimp only [Pt.U, Pt.locs, Pt.cells, Pt.slots] at X234 l234 y234 z234 st234 hQ234
            subst l234 y234 z234
            obtain ⟨b234, rfl, N234q, A234, e234⟩ := hQ234
            have N234 := Fr.app N0 N234q
            obtain ⟨T235, h235, X235, e235, E235, A235, D235, -, st235⟩ := newO X234 hx hZ hown (hw _ (List.mem_of_getElem? (i := 7) rfl)) (hw _ (List.mem_of_getElem? (i := 8) rfl)) (hw _ (List.mem_of_getElem? (i := 9) rfl)) e234 (g := (mkF m 48 #[.val (.long x0), .second, .val (.long x1), .second, .val (.int x2), .val (.int (1 : Int32)), .val (.long x1), .second, .val (.ref b234), .unset, .unset] [])) rfl (hb hby at_48) (by decide) (by decide)
            obtain ⟨b235, g235⟩ : ∃ z, z = h0.size := ⟨_, rfl⟩
            rw [← g235] at A235 D235 st235
            have F235_connection : Fld Z h235 b235 "com/example/grantd/grantd/front/Places$Waiting" "connection" "Ljava/lang/Object;" .null := D235 (Or.inr (hw _ (List.mem_of_getElem? (i := 22) rfl))) (ty := (.object "java/lang/Object")) (by decide)
            have F235_closableFrom : Fld Z h235 b235 "com/example/grantd/grantd/front/Places$Waiting" "closableFrom" "J" (.long (0 : Int64)) := D235 (Or.inr (hw _ (List.mem_of_getElem? (i := 24) rfl))) (ty := .long) (by decide)
            have F235_firstServed : Fld Z h235 b235 "com/example/grantd/grantd/front/Places$Waiting" "firstServed" "J" (.long (0 : Int64)) := D235 (Or.inr (hw _ (List.mem_of_getElem? (i := 26) rfl))) (ty := .long) (by decide)
            have F235_holdsHead : Fld Z h235 b235 "com/example/grantd/grantd/front/Places$Waiting" "holdsHead" "Z" (.int (0 : Int32)) := D235 (Or.inr (hw _ (List.mem_of_getElem? (i := 28) rfl))) (ty := .boolean) (by decide)
            have G235 : n0 ≤ b235 := (Nat.le_trans Z0 (Nat.le_of_eq g235.symm))
            have Z235 : n0 ≤ h235.size := Nat.le_trans Z0 E235.1
            obtain ⟨_, _, ⟨T236, L236, k236, n236⟩, -, X236, ⟨Lc236, hQ236, l236, y236, z236⟩, st236⟩ := X235.specialBack hx (y := (⟨"com/example/grantd/grantd/front/Places$Waiting", "<init>", "(Ljava/lang/Object;JJZ)V"⟩ : MethodName)) rfl hown (mvT hZ (hw _ (List.mem_of_getElem? (i := 10) rfl))) (mvT hZ (hw _ (List.mem_of_getElem? (i := 11) rfl))) (mvT hZ (hw _ (List.mem_of_getElem? (i := 12) rfl))) (by decide) (backOf (W := 1) (rm14 l Z a0 hw [] b235 b234 x0 x1 h235 n0 Z235 A235 F235_connection G235 F235_closableFrom F235_firstServed F235_holdsHead) hZ (hw _ (List.mem_of_getElem? (i := 12) rfl)) (hw _ (List.mem_of_getElem? (i := 9) rfl)) (by decide) (by decide)) (g := (mkF m 59 #[.val (.long x0), .second, .val (.long x1), .second, .val (.int x2), .val (.int (1 : Int32)), .val (.long x1), .second, .val (.ref b234), .unset, .unset] [(.int (1 : Int32)), (.long x1), (.long x0), (.ref b234), (.ref b235), (.ref b235)])) rfl (by rw [hml]; rfl) (Steps.refl _) (a := b235) (argsL := [(.ref b234), (.long x0), (.long x1), (.int (1 : Int32))]) (rest := [(.ref b235)]) (lenOf pd_3 rfl) rfl (by show 2 * 0 + _ ≤ _; exact Nat.le_of_eq rfl) (hb hby at_59) (fun _ _ => ⟨rfl, e235, (by decide : 1 + 0 ≤ _), (by decide : 4 + 0 ≤ _)⟩)
            dsimp only [Pt.U, Pt.locs, Pt.cells, Pt.slots] at X236 l236 y236 z236 st236 hQ236
            subst l236 y236 z236
            obtain ⟨rfl, N236q, h237, W237, h238, W238, h239, W239, h240, W240, e236⟩ := hQ236
            have N236 := Fr.app N234 N236q
            have Z237 : n0 ≤ h237.size := Nat.le_trans Z235 (Nat.le_of_eq W237.size.symm)
            have Fw237 := Fld.same W237 F235_connection
            have f241 : Exa Z h237 b235 "com/example/grantd/grantd/front/Places$Waiting" := (A235.wr W237)
            have f242 : Fld Z h237 b235 "com/example/grantd/grantd/front/Places$Waiting" "closableFrom" "J" (.long (0 : Int64)) := (F235_closableFrom.other W237 (Or.inr (slot_ne (Or.inr (hw _ (List.mem_of_getElem? (i := 24) rfl))) (Or.inr (hw _ (List.mem_of_getElem? (i := 22) rfl))) (by decide) (t := .long) (t' := (.object "java/lang/Object")) (by decide) (by decide))))
            have Z238 : n0 ≤ h238.size := Nat.le_trans Z237 (Nat.le_of_eq W238.size.symm)
            have Fw238 := Fld.same W238 f242
            have f243 : Exa Z h238 b235 "com/example/grantd/grantd/front/Places$Waiting" := (f241.wr W238)
            have f244 : Fld Z h238 b235 "com/example/grantd/grantd/front/Places$Waiting" "firstServed" "J" (.long (0 : Int64)) := ((F235_firstServed.other W237 (Or.inr (slot_ne (Or.inr (hw _ (List.mem_of_getElem? (i := 26) rfl))) (Or.inr (hw _ (List.mem_of_getElem? (i := 22) rfl))) (by decide) (t := .long) (t' := (.object "java/lang/Object")) (by decide) (by decide)))).other W238 (Or.inr (slot_ne (Or.inr (hw _ (List.mem_of_getElem? (i := 26) rfl))) (Or.inr (hw _ (List.mem_of_getElem? (i := 24) rfl))) (by decide) (t := .long) (t' := .long) (by decide) (by decide))))
            have Z239 : n0 ≤ h239.size := Nat.le_trans Z238 (Nat.le_of_eq W239.size.symm)
            have Fw239 := Fld.same W239 f244
            have f245 : Exa Z h239 b235 "com/example/grantd/grantd/front/Places$Waiting" := (f243.wr W239)
            have f246 : Fld Z h239 b235 "com/example/grantd/grantd/front/Places$Waiting" "holdsHead" "Z" (.int (0 : Int32)) := (((F235_holdsHead.other W237 (Or.inr (slot_ne (Or.inr (hw _ (List.mem_of_getElem? (i := 28) rfl))) (Or.inr (hw _ (List.mem_of_getElem? (i := 22) rfl))) (by decide) (t := .boolean) (t' := (.object "java/lang/Object")) (by decide) (by decide)))).other W238 (Or.inr (slot_ne (Or.inr (hw _ (List.mem_of_getElem? (i := 28) rfl))) (Or.inr (hw _ (List.mem_of_getElem? (i := 24) rfl))) (by decide) (t := .boolean) (t' := .long) (by decide) (by decide)))).other W239 (Or.inr (slot_ne (Or.inr (hw _ (List.mem_of_getElem? (i := 28) rfl))) (Or.inr (hw _ (List.mem_of_getElem? (i := 26) rfl))) (by decide) (t := .boolean) (t' := .long) (by decide) (by decide))))
            have Z240 : n0 ≤ h240.size := Nat.le_trans Z239 (Nat.le_of_eq W240.size.symm)
            have Fw240 := Fld.same W240 f246
            have f247 : Exa Z h240 b235 "com/example/grantd/grantd/front/Places$Waiting" := (f245.wr W240)
            have f248 : Fld Z h240 b235 "com/example/grantd/grantd/front/Places$Waiting" "firstServed" "J" (.long x1) := (Fw239.other W240 (Or.inr (slot_ne (Or.inr (hw _ (List.mem_of_getElem? (i := 26) rfl))) (Or.inr (hw _ (List.mem_of_getElem? (i := 28) rfl))) (by decide) (t := .long) (t' := .boolean) (by decide) (by decide))))
            have pre249 : ∀ t, Steps p.tables e below (T236.setTop (mkF m 95 #[.val (.long x0), .second, .val (.long x1), .second, .val (.int x2), .val (.int (1 : Int32)), .val (.long x1), .second, .val (.ref b234), .val (.ref b235), .val (.int (0 : Int32))] [(.ref b235)])) t → Steps p.tables e below (s₁.setTop (entryFrame m #[(.long x0), (.long x1), (.int x2)] maxLocals)) t := fun t kk => pre185 t (by
              show Steps p.tables e below (s₁.setTop (mkF m 43 #[.val (.long x0), .second, .val (.long x1), .second, .val (.int x2), .val (.int (1 : Int32)), .val (.long x1), .second, .unset, .unset, .unset] [(.int x2)])) _
              refine st234 _ ?_
              show Steps p.tables e below (T234.setTop (mkF m 46 #[.val (.long x0), .second, .val (.long x1), .second, .val (.int x2), .val (.int (1 : Int32)), .val (.long x1), .second, .unset, .unset, .unset] [(.ref b234)])) _
              refine XS.astore X234.here hx rfl (hb hby at_46) rfl rfl (l' := #[.val (.long x0), .second, .val (.long x1), .second, .val (.int x2), .val (.int (1 : Int32)), .val (.long x1), .second, .val (.ref b234), .unset, .unset]) rfl ?_
              show Steps p.tables e below (T234.setTop (mkF m 48 #[.val (.long x0), .second, .val (.long x1), .second, .val (.int x2), .val (.int (1 : Int32)), .val (.long x1), .second, .val (.ref b234), .unset, .unset] [])) _
              refine st235 _ ?_
              show Steps p.tables e below (T235.setTop (mkF m 51 #[.val (.long x0), .second, .val (.long x1), .second, .val (.int x2), .val (.int (1 : Int32)), .val (.long x1), .second, .val (.ref b234), .unset, .unset] [(.ref b235)])) _
              refine XS.dup X235.here hx rfl (hb hby at_51) rfl rfl ?_
              show Steps p.tables e below (T235.setTop (mkF m 52 #[.val (.long x0), .second, .val (.long x1), .second, .val (.int x2), .val (.int (1 : Int32)), .val (.long x1), .second, .val (.ref b234), .unset, .unset] [(.ref b235), (.ref b235)])) _
              refine XS.aload X235.here hx rfl (hb hby at_52) rfl rfl ?_
              show Steps p.tables e below (T235.setTop (mkF m 54 #[.val (.long x0), .second, .val (.long x1), .second, .val (.int x2), .val (.int (1 : Int32)), .val (.long x1), .second, .val (.ref b234), .unset, .unset] [(.ref b234), (.ref b235), (.ref b235)])) _
              refine XS.lloadN X235.here hx rfl (hb hby at_54) rfl ?_
              show Steps p.tables e below (T235.setTop (mkF m 55 #[.val (.long x0), .second, .val (.long x1), .second, .val (.int x2), .val (.int (1 : Int32)), .val (.long x1), .second, .val (.ref b234), .unset, .unset] [(.long x0), (.ref b234), (.ref b235), (.ref b235)])) _
              refine XS.lload X235.here hx rfl (hb hby at_55) rfl ?_
              show Steps p.tables e below (T235.setTop (mkF m 57 #[.val (.long x0), .second, .val (.long x1), .second, .val (.int x2), .val (.int (1 : Int32)), .val (.long x1), .second, .val (.ref b234), .unset, .unset] [(.long x1), (.long x0), (.ref b234), (.ref b235), (.ref b235)])) _
              refine XS.iload X235.here hx rfl (hb hby at_57) rfl ?_
              show Steps p.tables e below (T235.setTop (mkF m 59 #[.val (.long x0), .second, .val (.long x1), .second, .val (.int x2), .val (.int (1 : Int32)), .val (.long x1), .second, .val (.ref b234), .unset, .unset] [(.int (1 : Int32)), (.long x1), (.long x0), (.ref b234), (.ref b235), (.ref b235)])) _
              refine st236.trans ?_
              show Steps p.tables e below (T236.setTop (mkF m 62 #[.val (.long x0), .second, .val (.long x1), .second, .val (.int x2), .val (.int (1 : Int32)), .val (.long x1), .second, .val (.ref b234), .unset, .unset] [(.ref b235)])) _
              refine XS.astore X236.here hx rfl (hb hby at_62) rfl rfl (l' := #[.val (.long x0), .second, .val (.long x1), .second, .val (.int x2), .val (.int (1 : Int32)), .val (.long x1), .second, .val (.ref b234), .val (.ref b235), .unset]) rfl ?_
              show Steps p.tables e below (T236.setTop (mkF m 64 #[.val (.long x0), .second, .val (.long x1), .second, .val (.int x2), .val (.int (1 : Int32)), .val (.long x1), .second, .val (.ref b234), .val (.ref b235), .unset] [])) _
              refine XS.iload X236.here hx rfl (hb hby at_64) rfl ?_
              show Steps p.tables e below (T236.setTop (mkF m 66 #[.val (.long x0), .second, .val (.long x1), .second, .val (.int x2), .val (.int (1 : Int32)), .val (.long x1), .second, .val (.ref b234), .val (.ref b235), .unset] [(.int (1 : Int32))])) _
              refine XS.ifNo X236.here hx rfl (hb hby at_66) rfl ((if0 _ _).trans (feq ((by decide) : ¬ ((1 : Int32) = (0 : Int32)))).1) ?_
              show Steps p.tables e below (T236.setTop (mkF m 69 #[.val (.long x0), .second, .val (.long x1), .second, .val (.int x2), .val (.int (1 : Int32)), .val (.long x1), .second, .val (.ref b234), .val (.ref b235), .unset] [])) _
              refine XS.iconst X236.here hx rfl (hb hby at_69) ?_
              show Steps p.tables e below (T236.setTop (mkF m 70 #[.val (.long x0), .second, .val (.long x1), .second, .val (.int x2), .val (.int (1 : Int32)), .val (.long x1), .second, .val (.ref b234), .val (.ref b235), .unset] [(.int (0 : Int32))])) _
              refine XS.istore X236.here hx rfl (hb hby at_70) rfl (l' := #[.val (.long x0), .second, .val (.long x1), .second, .val (.int x2), .val (.int (1 : Int32)), .val (.long x1), .second, .val (.ref b234), .val (.ref b235), .val (.int (0 : Int32))]) rfl ?_
              show Steps p.tables e below (T236.setTop (mkF m 72 #[.val (.long x0), .second, .val (.long x1), .second, .val (.int x2), .val (.int (1 : Int32)), .val (.long x1), .second, .val (.ref b234), .val (.ref b235), .val (.int (0 : Int32))] [])) _
              refine XS.goto X236.here hx rfl (pc0 := 72) (pc' := 93) rfl (hb hby at_72) (by decide) (by decide) ?_
              show Steps p.tables e below (T236.setTop (mkF m 93 #[.val (.long x0), .second, .val (.long x1), .second, .val (.int x2), .val (.int (1 : Int32)), .val (.long x1), .second, .val (.ref b234), .val (.ref b235), .val (.int (0 : Int32))] [])) _
              refine XS.aload X236.here hx rfl (hb hby at_93) rfl rfl ?_
              exact kk)
            by_cases hc250 : (lcmpW x1 (9223372036854775807 : Int64)) = (0 : Int32)
            ·
              obtain ⟨cq251, kq251, q251a, q251b, q251c⟩ := isOf hZ e236 f247
              obtain ⟨_, _, ⟨T251, L251, k251, n251⟩, -, X251, ⟨Lc251, hQ251, l251, y251, z251⟩, st251⟩ := X236.virtualBack hx (y := (⟨"com/example/grantd/grantd/front/Places$Waiting", "isBetweenRequests", "()Z"⟩ : MethodName)) (z := (⟨"com/example/grantd/grantd/front/Places$Waiting", "isBetweenRequests", "()Z"⟩ : MethodName)) hown (mvT hZ (hw _ (List.mem_of_getElem? (i := 30) rfl))) (mvT hZ (hw _ (List.mem_of_getElem? (i := 31) rfl))) (notFace_of_selects (args := #[]) (mvT hZ (hw _ (List.mem_of_getElem? (i := 33) rfl)))) (mvT hZ (hw _ (List.mem_of_getElem? (i := 33) rfl))) (mvT hZ (hw _ (List.mem_of_getElem? (i := 32) rfl))) (by decide) (backOf (W := 0) (rm6 l Z a0 hw [] b235 x1 h240 n0 Z240 f248 hc250) hZ (hw _ (List.mem_of_getElem? (i := 34) rfl)) (hw _ (List.mem_of_getElem? (i := 9) rfl)) (by decide) (by decide)) q251a q251c (g := (mkF m 95 #[.val (.long x0), .second, .val (.long x1), .second, .val (.int x2), .val (.int (1 : Int32)), .val (.long x1), .second, .val (.ref b234), .val (.ref b235), .val (.int (0 : Int32))] [(.ref b235)])) rfl (by rw [hml]; rfl) (Steps.refl _) (argsL := []) (rest := []) (lenOf pd_4 rfl) rfl (by show 2 * 0 + _ ≤ _; exact Nat.le_of_eq rfl) (hb hby at_95) (fun _ _ => ⟨rfl, e236, (by decide : 1 + 0 ≤ _), (by decide : 4 + 0 ≤ _)⟩)
              dsimp only [Pt.U, Pt.locs, Pt.cells, Pt.slots] at X251 l251 y251 z251 st251 hQ251
              subst l251 y251 z251
              obtain ⟨rfl, N251q, e251⟩ := hQ251
              have N251 := Fr.app N236 N251q
              have pre252 : ∀ t, Steps p.tables e below (T251.setTop (mkF m 108 #[.val (.long x0), .second, .val (.long x1), .second, .val (.int x2), .val (.int (1 : Int32)), .val (.long x1), .second, .val (.ref b234), .val (.ref b235), .val (.int (0 : Int32))] [(.int (1 : Int32))])) t → Steps p.tables e below (s₁.setTop (entryFrame m #[(.long x0), (.long x1), (.int x2)] maxLocals)) t := fun t kk => pre249 t (by
                show Steps p.tables e below (T236.setTop (mkF m 95 #[.val (.long x0), .second, .val (.long x1), .second, .val (.int x2), .val (.int (1 : Int32)), .val (.long x1), .second, .val (.ref b234), .val (.ref b235), .val (.int (0 : Int32))] [(.ref b235)])) _
                refine st251.trans ?_
                show Steps p.tables e below (T251.setTop (mkF m 98 #[.val (.long x0), .second, .val (.long x1), .second, .val (.int x2), .val (.int (1 : Int32)), .val (.long x1), .second, .val (.ref b234), .val (.ref b235), .val (.int (0 : Int32))] [(.int (0 : Int32))])) _
                refine XS.iload X251.here hx rfl (hb hby at_98) rfl ?_
                show Steps p.tables e below (T251.setTop (mkF m 100 #[.val (.long x0), .second, .val (.long x1), .second, .val (.int x2), .val (.int (1 : Int32)), .val (.long x1), .second, .val (.ref b234), .val (.ref b235), .val (.int (0 : Int32))] [(.int (0 : Int32)), (.int (0 : Int32))])) _
                refine XS.icmpNo X251.here hx rfl (hb hby at_100) rfl (teq ((by decide) : (0 : Int32) = (0 : Int32))).2 ?_
                show Steps p.tables e below (T251.setTop (mkF m 103 #[.val (.long x0), .second, .val (.long x1), .second, .val (.int x2), .val (.int (1 : Int32)), .val (.long x1), .second, .val (.ref b234), .val (.ref b235), .val (.int (0 : Int32))] [])) _
                refine XS.iconst X251.here hx rfl (hb hby at_103) ?_
                show Steps p.tables e below (T251.setTop (mkF m 104 #[.val (.long x0), .second, .val (.long x1), .second, .val (.int x2), .val (.int (1 : Int32)), .val (.long x1), .second, .val (.ref b234), .val (.ref b235), .val (.int (0 : Int32))] [(.int (1 : Int32))])) _
                refine XS.goto X251.here hx rfl (pc0 := 104) (pc' := 108) rfl (hb hby at_104) (by decide) (by decide) ?_
                exact kk)
              obtain ⟨fs, hr, hrun, hended, hW, hsame⟩ := X251.leave (v := some (.int (1 : Int32))) (fun h => by rw [Bd.returns] at h; cases h)
              refine ⟨_, _, pre252 _ ?_, hrun, hended, _, _, rfl, ?_, ⟨_, rfl⟩, hW, hsame.mono (by decide) (by decide)⟩
              · exact retN X251 hx (t := .boolean) Bd.returns (by simp) (hb hby at_108) hr
              · exact ⟨rfl, N251⟩
            ·
              obtain ⟨cq253, kq253, q253a, q253b, q253c⟩ := isOf hZ e236 f247
              obtain ⟨_, _, ⟨T253, L253, k253, n253⟩, -, X253, ⟨Lc253, hQ253, l253, y253, z253⟩, st253⟩ := X236.virtualBack hx (y := (⟨"com/example/grantd/grantd/front/Places$Waiting", "isBetweenRequests", "()Z"⟩ : MethodName)) (z := (⟨"com/example/grantd/grantd/front/Places$Waiting", "isBetweenRequests", "()Z"⟩ : MethodName)) hown (mvT hZ (hw _ (List.mem_of_getElem? (i := 30) rfl))) (mvT hZ (hw _ (List.mem_of_getElem? (i := 31) rfl))) (notFace_of_selects (args := #[]) (mvT hZ (hw _ (List.mem_of_getElem? (i := 33) rfl)))) (mvT hZ (hw _ (List.mem_of_getElem? (i := 33) rfl))) (mvT hZ (hw _ (List.mem_of_getElem? (i := 32) rfl))) (by decide) (backOf (W := 0) (rm15 l Z a0 hw [] b235 x1 h240 n0 Z240 f248 hc250 Fw240) hZ (hw _ (List.mem_of_getElem? (i := 34) rfl)) (hw _ (List.mem_of_getElem? (i := 9) rfl)) (by decide) (by decide)) q253a q253c (g := (mkF m 95 #[.val (.long x0), .second, .val (.long x1), .second, .val (.int x2), .val (.int (1 : Int32)), .val (.long x1), .second, .val (.ref b234), .val (.ref b235), .val (.int (0 : Int32))] [(.ref b235)])) rfl (by rw [hml]; rfl) (Steps.refl _) (argsL := []) (rest := []) (lenOf pd_4 rfl) rfl (by show 2 * 0 + _ ≤ _; exact Nat.le_of_eq rfl) (hb hby at_95) (fun _ _ => ⟨rfl, e236, (by decide : 1 + 0 ≤ _), (by decide : 4 + 0 ≤ _)⟩)
              dsimp only [Pt.U, Pt.locs, Pt.cells, Pt.slots] at X253 l253 y253 z253 st253 hQ253
              subst l253 y253 z253
              obtain ⟨rfl, N253q, e253⟩ := hQ253
              have N253 := Fr.app N236 N253q
              have pre254 : ∀ t, Steps p.tables e below (T253.setTop (mkF m 108 #[.val (.long x0), .second, .val (.long x1), .second, .val (.int x2), .val (.int (1 : Int32)), .val (.long x1), .second, .val (.ref b234), .val (.ref b235), .val (.int (0 : Int32))] [(.int (1 : Int32))])) t → Steps p.tables e below (s₁.setTop (entryFrame m #[(.long x0), (.long x1), (.int x2)] maxLocals)) t := fun t kk => pre249 t (by
                show Steps p.tables e below (T236.setTop (mkF m 95 #[.val (.long x0), .second, .val (.long x1), .second, .val (.int x2), .val (.int (1 : Int32)), .val (.long x1), .second, .val (.ref b234), .val (.ref b235), .val (.int (0 : Int32))] [(.ref b235)])) _
                refine st253.trans ?_
                show Steps p.tables e below (T253.setTop (mkF m 98 #[.val (.long x0), .second, .val (.long x1), .second, .val (.int x2), .val (.int (1 : Int32)), .val (.long x1), .second, .val (.ref b234), .val (.ref b235), .val (.int (0 : Int32))] [(.int (0 : Int32))])) _
                refine XS.iload X253.here hx rfl (hb hby at_98) rfl ?_
                show Steps p.tables e below (T253.setTop (mkF m 100 #[.val (.long x0), .second, .val (.long x1), .second, .val (.int x2), .val (.int (1 : Int32)), .val (.long x1), .second, .val (.ref b234), .val (.ref b235), .val (.int (0 : Int32))] [(.int (0 : Int32)), (.int (0 : Int32))])) _
                refine XS.icmpNo X253.here hx rfl (hb hby at_100) rfl (teq ((by decide) : (0 : Int32) = (0 : Int32))).2 ?_
                show Steps p.tables e below (T253.setTop (mkF m 103 #[.val (.long x0), .second, .val (.long x1), .second, .val (.int x2), .val (.int (1 : Int32)), .val (.long x1), .second, .val (.ref b234), .val (.ref b235), .val (.int (0 : Int32))] [])) _
                refine XS.iconst X253.here hx rfl (hb hby at_103) ?_
                show Steps p.tables e below (T253.setTop (mkF m 104 #[.val (.long x0), .second, .val (.long x1), .second, .val (.int x2), .val (.int (1 : Int32)), .val (.long x1), .second, .val (.ref b234), .val (.ref b235), .val (.int (0 : Int32))] [(.int (1 : Int32))])) _
                refine XS.goto X253.here hx rfl (pc0 := 104) (pc' := 108) rfl (hb hby at_104) (by decide) (by decide) ?_
                exact kk)
              obtain ⟨fs, hr, hrun, hended, hW, hsame⟩ := X253.leave (v := some (.int (1 : Int32))) (fun h => by rw [Bd.returns] at h; cases h)
              refine ⟨_, _, pre254 _ ?_, hrun, hended, _, _, rfl, ?_, ⟨_, rfl⟩, hW, hsame.mono (by decide) (by decide)⟩
              · exact retN X253 hx (t := .boolean) Bd.returns (by simp) (hb hby at_108) hr
              · exact ⟨rfl, N253⟩
      ·
        obtain ⟨T255, h255, X255, e255, E255, A255, D255, -, st255⟩ := newO X0 hx hZ hown (hw _ (List.mem_of_getElem? (i := 7) rfl)) (hw _ (List.mem_of_getElem? (i := 8) rfl)) (hw _ (List.mem_of_getElem? (i := 9) rfl)) e0 (g := (mkF m 48 #[.val (.long x0), .second, .val (.long x1), .second, .val (.int x2), .val (.int (1 : Int32)), .val (.long x1), .second, .val .null, .unset, .unset] [])) rfl (hb hby at_48) (by decide) (by decide)
        obtain ⟨b255, g255⟩ : ∃ z, z = h0.size := ⟨_, rfl⟩
        rw [← g255] at A255 D255 st255
        have F255_connection : Fld Z h255 b255 "com/example/grantd/grantd/front/Places$Waiting" "connection" "Ljava/lang/Object;" .null := D255 (Or.inr (hw _ (List.mem_of_getElem? (i := 22) rfl))) (ty := (.object "java/lang/Object")) (by decide)
        have F255_closableFrom : Fld Z h255 b255 "com/example/grantd/grantd/front/Places$Waiting" "closableFrom" "J" (.long (0 : Int64)) := D255 (Or.inr (hw _ (List.mem_of_getElem? (i := 24) rfl))) (ty := .long) (by decide)
        have F255_firstServed : Fld Z h255 b255 "com/example/grantd/grantd/front/Places$Waiting" "firstServed" "J" (.long (0 : Int64)) := D255 (Or.inr (hw _ (List.mem_of_getElem? (i := 26) rfl))) (ty := .long) (by decide)
        have F255_holdsHead : Fld Z h255 b255 "com/example/grantd/grantd/front/Places$Waiting" "holdsHead" "Z" (.int (0 : Int32)) := D255 (Or.inr (hw _ (List.mem_of_getElem? (i := 28) rfl))) (ty := .boolean) (by decide)
        have G255 : n0 ≤ b255 := (Nat.le_trans Z0 (Nat.le_of_eq g255.symm))
        have Z255 : n0 ≤ h255.size := Nat.le_trans Z0 E255.1
        obtain ⟨_, _, ⟨T256, L256, k256, n256⟩, -, X256, ⟨Lc256, hQ256, l256, y256, z256⟩, st256⟩ := X255.specialBack hx (y := (⟨"com/example/grantd/grantd/front/Places$Waiting", "<init>", "(Ljava/lang/Object;JJZ)V"⟩ : MethodName)) rfl hown (mvT hZ (hw _ (List.mem_of_getElem? (i := 10) rfl))) (mvT hZ (hw _ (List.mem_of_getElem? (i := 11) rfl))) (mvT hZ (hw _ (List.mem_of_getElem? (i := 12) rfl))) (by decide) (backOf (W := 1) (rm16 l Z a0 hw [] b255 x0 x1 h255 n0 Z255 A255 F255_connection G255 F255_closableFrom F255_firstServed F255_holdsHead) hZ (hw _ (List.mem_of_getElem? (i := 12) rfl)) (hw _ (List.mem_of_getElem? (i := 9) rfl)) (by decide) (by decide)) (g := (mkF m 59 #[.val (.long x0), .second, .val (.long x1), .second, .val (.int x2), .val (.int (1 : Int32)), .val (.long x1), .second, .val .null, .unset, .unset] [(.int (1 : Int32)), (.long x1), (.long x0), .null, (.ref b255), (.ref b255)])) rfl (by rw [hml]; rfl) (Steps.refl _) (a := b255) (argsL := [.null, (.long x0), (.long x1), (.int (1 : Int32))]) (rest := [(.ref b255)]) (lenOf pd_3 rfl) rfl (by show 2 * 0 + _ ≤ _; exact Nat.le_of_eq rfl) (hb hby at_59) (fun _ _ => ⟨rfl, e255, (by decide : 1 + 0 ≤ _), (by decide : 4 + 0 ≤ _)⟩)
        dsimp only [Pt.U, Pt.locs, Pt.cells, Pt.slots] at X256 l256 y256 z256 st256 hQ256
        subst l256 y256 z256
        obtain ⟨rfl, N256q, h257, W257, h258, W258, h259, W259, h260, W260, e256⟩ := hQ256
        have N256 := Fr.app N0 N256q
        have Z257 : n0 ≤ h257.size := Nat.le_trans Z255 (Nat.le_of_eq W257.size.symm)
        have Fw257 := Fld.same W257 F255_connection
        have f261 : Exa Z h257 b255 "com/example/grantd/grantd/front/Places$Waiting" := (A255.wr W257)
        have f262 : Fld Z h257 b255 "com/example/grantd/grantd/front/Places$Waiting" "closableFrom" "J" (.long (0 : Int64)) := (F255_closableFrom.other W257 (Or.inr (slot_ne (Or.inr (hw _ (List.mem_of_getElem? (i := 24) rfl))) (Or.inr (hw _ (List.mem_of_getElem? (i := 22) rfl))) (by decide) (t := .long) (t' := (.object "java/lang/Object")) (by decide) (by decide))))
        have Z258 : n0 ≤ h258.size := Nat.le_trans Z257 (Nat.le_of_eq W258.size.symm)
        have Fw258 := Fld.same W258 f262
        have f263 : Exa Z h258 b255 "com/example/grantd/grantd/front/Places$Waiting" := (f261.wr W258)
        have f264 : Fld Z h258 b255 "com/example/grantd/grantd/front/Places$Waiting" "firstServed" "J" (.long (0 : Int64)) := ((F255_firstServed.other W257 (Or.inr (slot_ne (Or.inr (hw _ (List.mem_of_getElem? (i := 26) rfl))) (Or.inr (hw _ (List.mem_of_getElem? (i := 22) rfl))) (by decide) (t := .long) (t' := (.object "java/lang/Object")) (by decide) (by decide)))).other W258 (Or.inr (slot_ne (Or.inr (hw _ (List.mem_of_getElem? (i := 26) rfl))) (Or.inr (hw _ (List.mem_of_getElem? (i := 24) rfl))) (by decide) (t := .long) (t' := .long) (by decide) (by decide))))
        have Z259 : n0 ≤ h259.size := Nat.le_trans Z258 (Nat.le_of_eq W259.size.symm)
        have Fw259 := Fld.same W259 f264
        have f265 : Exa Z h259 b255 "com/example/grantd/grantd/front/Places$Waiting" := (f263.wr W259)
        have f266 : Fld Z h259 b255 "com/example/grantd/grantd/front/Places$Waiting" "holdsHead" "Z" (.int (0 : Int32)) := (((F255_holdsHead.other W257 (Or.inr (slot_ne (Or.inr (hw _ (List.mem_of_getElem? (i := 28) rfl))) (Or.inr (hw _ (List.mem_of_getElem? (i := 22) rfl))) (by decide) (t := .boolean) (t' := (.object "java/lang/Object")) (by decide) (by decide)))).other W258 (Or.inr (slot_ne (Or.inr (hw _ (List.mem_of_getElem? (i := 28) rfl))) (Or.inr (hw _ (List.mem_of_getElem? (i := 24) rfl))) (by decide) (t := .boolean) (t' := .long) (by decide) (by decide)))).other W259 (Or.inr (slot_ne (Or.inr (hw _ (List.mem_of_getElem? (i := 28) rfl))) (Or.inr (hw _ (List.mem_of_getElem? (i := 26) rfl))) (by decide) (t := .boolean) (t' := .long) (by decide) (by decide))))
        have Z260 : n0 ≤ h260.size := Nat.le_trans Z259 (Nat.le_of_eq W260.size.symm)
        have Fw260 := Fld.same W260 f266
        have f267 : Exa Z h260 b255 "com/example/grantd/grantd/front/Places$Waiting" := (f265.wr W260)
        have f268 : Fld Z h260 b255 "com/example/grantd/grantd/front/Places$Waiting" "firstServed" "J" (.long x1) := (Fw259.other W260 (Or.inr (slot_ne (Or.inr (hw _ (List.mem_of_getElem? (i := 26) rfl))) (Or.inr (hw _ (List.mem_of_getElem? (i := 28) rfl))) (by decide) (t := .long) (t' := .boolean) (by decide) (by decide))))
        have pre269 : ∀ t, Steps p.tables e below (T256.setTop (mkF m 95 #[.val (.long x0), .second, .val (.long x1), .second, .val (.int x2), .val (.int (1 : Int32)), .val (.long x1), .second, .val .null, .val (.ref b255), .val (.int (0 : Int32))] [(.ref b255)])) t → Steps p.tables e below (s₁.setTop (entryFrame m #[(.long x0), (.long x1), (.int x2)] maxLocals)) t := fun t kk => pre183 t (by
          show Steps p.tables e below (s₁.setTop (mkF m 34 #[.val (.long x0), .second, .val (.long x1), .second, .val (.int x2), .val (.int (1 : Int32)), .val (.long x1), .second, .unset, .unset, .unset] [(.int (x2 &&& (4 : Int32)))])) _
          refine XS.ifNo X0.here hx rfl (hb hby at_34) rfl ((if0 _ _).trans (feq (hc184 : ¬ ((x2 &&& (4 : Int32)) = (0 : Int32)))).1) ?_
          show Steps p.tables e below (s₁.setTop (mkF m 37 #[.val (.long x0), .second, .val (.long x1), .second, .val (.int x2), .val (.int (1 : Int32)), .val (.long x1), .second, .unset, .unset, .unset] [])) _
          refine XS.aconstNull X0.here hx rfl (hb hby at_37) ?_
          show Steps p.tables e below (s₁.setTop (mkF m 38 #[.val (.long x0), .second, .val (.long x1), .second, .val (.int x2), .val (.int (1 : Int32)), .val (.long x1), .second, .unset, .unset, .unset] [.null])) _
          refine XS.goto X0.here hx rfl (pc0 := 38) (pc' := 46) rfl (hb hby at_38) (by decide) (by decide) ?_
          show Steps p.tables e below (s₁.setTop (mkF m 46 #[.val (.long x0), .second, .val (.long x1), .second, .val (.int x2), .val (.int (1 : Int32)), .val (.long x1), .second, .unset, .unset, .unset] [.null])) _
          refine XS.astore X0.here hx rfl (hb hby at_46) rfl rfl (l' := #[.val (.long x0), .second, .val (.long x1), .second, .val (.int x2), .val (.int (1 : Int32)), .val (.long x1), .second, .val .null, .unset, .unset]) rfl ?_
          show Steps p.tables e below (s₁.setTop (mkF m 48 #[.val (.long x0), .second, .val (.long x1), .second, .val (.int x2), .val (.int (1 : Int32)), .val (.long x1), .second, .val .null, .unset, .unset] [])) _
          refine st255 _ ?_
          show Steps p.tables e below (T255.setTop (mkF m 51 #[.val (.long x0), .second, .val (.long x1), .second, .val (.int x2), .val (.int (1 : Int32)), .val (.long x1), .second, .val .null, .unset, .unset] [(.ref b255)])) _
          refine XS.dup X255.here hx rfl (hb hby at_51) rfl rfl ?_
          show Steps p.tables e below (T255.setTop (mkF m 52 #[.val (.long x0), .second, .val (.long x1), .second, .val (.int x2), .val (.int (1 : Int32)), .val (.long x1), .second, .val .null, .unset, .unset] [(.ref b255), (.ref b255)])) _
          refine XS.aload X255.here hx rfl (hb hby at_52) rfl rfl ?_
          show Steps p.tables e below (T255.setTop (mkF m 54 #[.val (.long x0), .second, .val (.long x1), .second, .val (.int x2), .val (.int (1 : Int32)), .val (.long x1), .second, .val .null, .unset, .unset] [.null, (.ref b255), (.ref b255)])) _
          refine XS.lloadN X255.here hx rfl (hb hby at_54) rfl ?_
          show Steps p.tables e below (T255.setTop (mkF m 55 #[.val (.long x0), .second, .val (.long x1), .second, .val (.int x2), .val (.int (1 : Int32)), .val (.long x1), .second, .val .null, .unset, .unset] [(.long x0), .null, (.ref b255), (.ref b255)])) _
          refine XS.lload X255.here hx rfl (hb hby at_55) rfl ?_
          show Steps p.tables e below (T255.setTop (mkF m 57 #[.val (.long x0), .second, .val (.long x1), .second, .val (.int x2), .val (.int (1 : Int32)), .val (.long x1), .second, .val .null, .unset, .unset] [(.long x1), (.long x0), .null, (.ref b255), (.ref b255)])) _
          refine XS.iload X255.here hx rfl (hb hby at_57) rfl ?_
          show Steps p.tables e below (T255.setTop (mkF m 59 #[.val (.long x0), .second, .val (.long x1), .second, .val (.int x2), .val (.int (1 : Int32)), .val (.long x1), .second, .val .null, .unset, .unset] [(.int (1 : Int32)), (.long x1), (.long x0), .null, (.ref b255), (.ref b255)])) _
          refine st256.trans ?_
          show Steps p.tables e below (T256.setTop (mkF m 62 #[.val (.long x0), .second, .val (.long x1), .second, .val (.int x2), .val (.int (1 : Int32)), .val (.long x1), .second, .val .null, .unset, .unset] [(.ref b255)])) _
          refine XS.astore X256.here hx rfl (hb hby at_62) rfl rfl (l' := #[.val (.long x0), .second, .val (.long x1), .second, .val (.int x2), .val (.int (1 : Int32)), .val (.long x1), .second, .val .null, .val (.ref b255), .unset]) rfl ?_
          show Steps p.tables e below (T256.setTop (mkF m 64 #[.val (.long x0), .second, .val (.long x1), .second, .val (.int x2), .val (.int (1 : Int32)), .val (.long x1), .second, .val .null, .val (.ref b255), .unset] [])) _
          refine XS.iload X256.here hx rfl (hb hby at_64) rfl ?_
          show Steps p.tables e below (T256.setTop (mkF m 66 #[.val (.long x0), .second, .val (.long x1), .second, .val (.int x2), .val (.int (1 : Int32)), .val (.long x1), .second, .val .null, .val (.ref b255), .unset] [(.int (1 : Int32))])) _
          refine XS.ifNo X256.here hx rfl (hb hby at_66) rfl ((if0 _ _).trans (feq ((by decide) : ¬ ((1 : Int32) = (0 : Int32)))).1) ?_
          show Steps p.tables e below (T256.setTop (mkF m 69 #[.val (.long x0), .second, .val (.long x1), .second, .val (.int x2), .val (.int (1 : Int32)), .val (.long x1), .second, .val .null, .val (.ref b255), .unset] [])) _
          refine XS.iconst X256.here hx rfl (hb hby at_69) ?_
          show Steps p.tables e below (T256.setTop (mkF m 70 #[.val (.long x0), .second, .val (.long x1), .second, .val (.int x2), .val (.int (1 : Int32)), .val (.long x1), .second, .val .null, .val (.ref b255), .unset] [(.int (0 : Int32))])) _
          refine XS.istore X256.here hx rfl (hb hby at_70) rfl (l' := #[.val (.long x0), .second, .val (.long x1), .second, .val (.int x2), .val (.int (1 : Int32)), .val (.long x1), .second, .val .null, .val (.ref b255), .val (.int (0 : Int32))]) rfl ?_
          show Steps p.tables e below (T256.setTop (mkF m 72 #[.val (.long x0), .second, .val (.long x1), .second, .val (.int x2), .val (.int (1 : Int32)), .val (.long x1), .second, .val .null, .val (.ref b255), .val (.int (0 : Int32))] [])) _
          refine XS.goto X256.here hx rfl (pc0 := 72) (pc' := 93) rfl (hb hby at_72) (by decide) (by decide) ?_
          show Steps p.tables e below (T256.setTop (mkF m 93 #[.val (.long x0), .second, .val (.long x1), .second, .val (.int x2), .val (.int (1 : Int32)), .val (.long x1), .second, .val .null, .val (.ref b255), .val (.int (0 : Int32))] [])) _
          refine XS.aload X256.here hx rfl (hb hby at_93) rfl rfl ?_
          exact kk)
        by_cases hc270 : (lcmpW x1 (9223372036854775807 : Int64)) = (0 : Int32)
        ·
          obtain ⟨cq271, kq271, q271a, q271b, q271c⟩ := isOf hZ e256 f267
          obtain ⟨_, _, ⟨T271, L271, k271, n271⟩, -, X271, ⟨Lc271, hQ271, l271, y271, z271⟩, st271⟩ := X256.virtualBack hx (y := (⟨"com/example/grantd/grantd/front/Places$Waiting", "isBetweenRequests", "()Z"⟩ : MethodName)) (z := (⟨"com/example/grantd/grantd/front/Places$Waiting", "isBetweenRequests", "()Z"⟩ : MethodName)) hown (mvT hZ (hw _ (List.mem_of_getElem? (i := 30) rfl))) (mvT hZ (hw _ (List.mem_of_getElem? (i := 31) rfl))) (notFace_of_selects (args := #[]) (mvT hZ (hw _ (List.mem_of_getElem? (i := 33) rfl)))) (mvT hZ (hw _ (List.mem_of_getElem? (i := 33) rfl))) (mvT hZ (hw _ (List.mem_of_getElem? (i := 32) rfl))) (by decide) (backOf (W := 0) (rm6 l Z a0 hw [] b255 x1 h260 n0 Z260 f268 hc270) hZ (hw _ (List.mem_of_getElem? (i := 34) rfl)) (hw _ (List.mem_of_getElem? (i := 9) rfl)) (by decide) (by decide)) q271a q271c (g := (mkF m 95 #[.val (.long x0), .second, .val (.long x1), .second, .val (.int x2), .val (.int (1 : Int32)), .val (.long x1), .second, .val .null, .val (.ref b255), .val (.int (0 : Int32))] [(.ref b255)])) rfl (by rw [hml]; rfl) (Steps.refl _) (argsL := []) (rest := []) (lenOf pd_4 rfl) rfl (by show 2 * 0 + _ ≤ _; exact Nat.le_of_eq rfl) (hb hby at_95) (fun _ _ => ⟨rfl, e256, (by decide : 1 + 0 ≤ _), (by decide : 4 + 0 ≤ _)⟩)
          dsimp only [Pt.U, Pt.locs, Pt.cells, Pt.slots] at X271 l271 y271 z271 st271 hQ271
          subst l271 y271 z271
          obtain ⟨rfl, N271q, e271⟩ := hQ271
          have N271 := Fr.app N256 N271q
          have pre272 : ∀ t, Steps p.tables e below (T271.setTop (mkF m 108 #[.val (.long x0), .second, .val (.long x1), .second, .val (.int x2), .val (.int (1 : Int32)), .val (.long x1), .second, .val .null, .val (.ref b255), .val (.int (0 : Int32))] [(.int (1 : Int32))])) t → Steps p.tables e below (s₁.setTop (entryFrame m #[(.long x0), (.long x1), (.int x2)] maxLocals)) t := fun t kk => pre269 t (by
            show Steps p.tables e below (T256.setTop (mkF m 95 #[.val (.long x0), .second, .val (.long x1), .second, .val (.int x2), .val (.int (1 : Int32)), .val (.long x1), .second, .val .null, .val (.ref b255), .val (.int (0 : Int32))] [(.ref b255)])) _
            refine st271.trans ?_
            show Steps p.tables e below (T271.setTop (mkF m 98 #[.val (.long x0), .second, .val (.long x1), .second, .val (.int x2), .val (.int (1 : Int32)), .val (.long x1), .second, .val .null, .val (.ref b255), .val (.int (0 : Int32))] [(.int (0 : Int32))])) _
            refine XS.iload X271.here hx rfl (hb hby at_98) rfl ?_
            show Steps p.tables e below (T271.setTop (mkF m 100 #[.val (.long x0), .second, .val (.long x1), .second, .val (.int x2), .val (.int (1 : Int32)), .val (.long x1), .second, .val .null, .val (.ref b255), .val (.int (0 : Int32))] [(.int (0 : Int32)), (.int (0 : Int32))])) _
            refine XS.icmpNo X271.here hx rfl (hb hby at_100) rfl (teq ((by decide) : (0 : Int32) = (0 : Int32))).2 ?_
            show Steps p.tables e below (T271.setTop (mkF m 103 #[.val (.long x0), .second, .val (.long x1), .second, .val (.int x2), .val (.int (1 : Int32)), .val (.long x1), .second, .val .null, .val (.ref b255), .val (.int (0 : Int32))] [])) _
            refine XS.iconst X271.here hx rfl (hb hby at_103) ?_
            show Steps p.tables e below (T271.setTop (mkF m 104 #[.val (.long x0), .second, .val (.long x1), .second, .val (.int x2), .val (.int (1 : Int32)), .val (.long x1), .second, .val .null, .val (.ref b255), .val (.int (0 : Int32))] [(.int (1 : Int32))])) _
            refine XS.goto X271.here hx rfl (pc0 := 104) (pc' := 108) rfl (hb hby at_104) (by decide) (by decide) ?_
            exact kk)
          obtain ⟨fs, hr, hrun, hended, hW, hsame⟩ := X271.leave (v := some (.int (1 : Int32))) (fun h => by rw [Bd.returns] at h; cases h)
          refine ⟨_, _, pre272 _ ?_, hrun, hended, _, _, rfl, ?_, ⟨_, rfl⟩, hW, hsame.mono (by decide) (by decide)⟩
          · exact retN X271 hx (t := .boolean) Bd.returns (by simp) (hb hby at_108) hr
          · exact ⟨rfl, N271⟩
        ·
          obtain ⟨cq273, kq273, q273a, q273b, q273c⟩ := isOf hZ e256 f267
          obtain ⟨_, _, ⟨T273, L273, k273, n273⟩, -, X273, ⟨Lc273, hQ273, l273, y273, z273⟩, st273⟩ := X256.virtualBack hx (y := (⟨"com/example/grantd/grantd/front/Places$Waiting", "isBetweenRequests", "()Z"⟩ : MethodName)) (z := (⟨"com/example/grantd/grantd/front/Places$Waiting", "isBetweenRequests", "()Z"⟩ : MethodName)) hown (mvT hZ (hw _ (List.mem_of_getElem? (i := 30) rfl))) (mvT hZ (hw _ (List.mem_of_getElem? (i := 31) rfl))) (notFace_of_selects (args := #[]) (mvT hZ (hw _ (List.mem_of_getElem? (i := 33) rfl)))) (mvT hZ (hw _ (List.mem_of_getElem? (i := 33) rfl))) (mvT hZ (hw _ (List.mem_of_getElem? (i := 32) rfl))) (by decide) (backOf (W := 0) (rm15 l Z a0 hw [] b255 x1 h260 n0 Z260 f268 hc270 Fw260) hZ (hw _ (List.mem_of_getElem? (i := 34) rfl)) (hw _ (List.mem_of_getElem? (i := 9) rfl)) (by decide) (by decide)) q273a q273c (g := (mkF m 95 #[.val (.long x0), .second, .val (.long x1), .second, .val (.int x2), .val (.int (1 : Int32)), .val (.long x1), .second, .val .null, .val (.ref b255), .val (.int (0 : Int32))] [(.ref b255)])) rfl (by rw [hml]; rfl) (Steps.refl _) (argsL := []) (rest := []) (lenOf pd_4 rfl) rfl (by show 2 * 0 + _ ≤ _; exact Nat.le_of_eq rfl) (hb hby at_95) (fun _ _ => ⟨rfl, e256, (by decide : 1 + 0 ≤ _), (by decide : 4 + 0 ≤ _)⟩)
          dsimp only [Pt.U, Pt.locs, Pt.cells, Pt.slots] at X273 l273 y273 z273 st273 hQ273
          subst l273 y273 z273
          obtain ⟨rfl, N273q, e273⟩ := hQ273
          have N273 := Fr.app N256 N273q
          have pre274 : ∀ t, Steps p.tables e below (T273.setTop (mkF m 108 #[.val (.long x0), .second, .val (.long x1), .second, .val (.int x2), .val (.int (1 : Int32)), .val (.long x1), .second, .val .null, .val (.ref b255), .val (.int (0 : Int32))] [(.int (1 : Int32))])) t → Steps p.tables e below (s₁.setTop (entryFrame m #[(.long x0), (.long x1), (.int x2)] maxLocals)) t := fun t kk => pre269 t (by
            show Steps p.tables e below (T256.setTop (mkF m 95 #[.val (.long x0), .second, .val (.long x1), .second, .val (.int x2), .val (.int (1 : Int32)), .val (.long x1), .second, .val .null, .val (.ref b255), .val (.int (0 : Int32))] [(.ref b255)])) _
            refine st273.trans ?_
            show Steps p.tables e below (T273.setTop (mkF m 98 #[.val (.long x0), .second, .val (.long x1), .second, .val (.int x2), .val (.int (1 : Int32)), .val (.long x1), .second, .val .null, .val (.ref b255), .val (.int (0 : Int32))] [(.int (0 : Int32))])) _
            refine XS.iload X273.here hx rfl (hb hby at_98) rfl ?_
            show Steps p.tables e below (T273.setTop (mkF m 100 #[.val (.long x0), .second, .val (.long x1), .second, .val (.int x2), .val (.int (1 : Int32)), .val (.long x1), .second, .val .null, .val (.ref b255), .val (.int (0 : Int32))] [(.int (0 : Int32)), (.int (0 : Int32))])) _
            refine XS.icmpNo X273.here hx rfl (hb hby at_100) rfl (teq ((by decide) : (0 : Int32) = (0 : Int32))).2 ?_
            show Steps p.tables e below (T273.setTop (mkF m 103 #[.val (.long x0), .second, .val (.long x1), .second, .val (.int x2), .val (.int (1 : Int32)), .val (.long x1), .second, .val .null, .val (.ref b255), .val (.int (0 : Int32))] [])) _
            refine XS.iconst X273.here hx rfl (hb hby at_103) ?_
            show Steps p.tables e below (T273.setTop (mkF m 104 #[.val (.long x0), .second, .val (.long x1), .second, .val (.int x2), .val (.int (1 : Int32)), .val (.long x1), .second, .val .null, .val (.ref b255), .val (.int (0 : Int32))] [(.int (1 : Int32))])) _
            refine XS.goto X273.here hx rfl (pc0 := 104) (pc' := 108) rfl (hb hby at_104) (by decide) (by decide) ?_
            exact kk)
          obtain ⟨fs, hr, hrun, hended, hW, hsame⟩ := X273.leave (v := some (.int (1 : Int32))) (fun h => by rw [Bd.returns] at h; cases h)
          refine ⟨_, _, pre274 _ ?_, hrun, hended, _, _, rfl, ?_, ⟨_, rfl⟩, hW, hsame.mono (by decide) (by decide)⟩
          · exact retN X273 hx (t := .boolean) Bd.returns (by simp) (hb hby at_108) hr
          · exact ⟨rfl, N273⟩
    ·
      have pre275 : ∀ t, Steps p.tables e below (s₁.setTop (mkF m 34 #[.val (.long x0), .second, .val (.long x1), .second, .val (.int x2), .val (.int (1 : Int32)), .val (.long (9223372036854775807 : Int64)), .second, .unset, .unset, .unset] [(.int (x2 &&& (4 : Int32)))])) t → Steps p.tables e below (s₁.setTop (entryFrame m #[(.long x0), (.long x1), (.int x2)] maxLocals)) t := fun t kk => pre181 t (by
        show Steps p.tables e below (s₁.setTop (mkF m 18 #[.val (.long x0), .second, .val (.long x1), .second, .val (.int x2), .val (.int (1 : Int32)), .unset, .unset, .unset, .unset, .unset] [(.int (x2 &&& (2 : Int32)))])) _
        refine XS.ifNo X0.here hx rfl (hb hby at_18) rfl ((if0 _ _).trans (feq (hc182 : ¬ ((x2 &&& (2 : Int32)) = (0 : Int32)))).1) ?_
        show Steps p.tables e below (s₁.setTop (mkF m 21 #[.val (.long x0), .second, .val (.long x1), .second, .val (.int x2), .val (.int (1 : Int32)), .unset, .unset, .unset, .unset, .unset] [])) _
        refine X0.ldc2Long hx hown (mvT hZ (hw _ (List.mem_of_getElem? (i := 29) rfl))) (g := (mkF m 21 #[.val (.long x0), .second, .val (.long x1), .second, .val (.int x2), .val (.int (1 : Int32)), .unset, .unset, .unset, .unset, .unset] [])) rfl (hb hby at_21) _ ?_
        show Steps p.tables e below (s₁.setTop (mkF m 24 #[.val (.long x0), .second, .val (.long x1), .second, .val (.int x2), .val (.int (1 : Int32)), .unset, .unset, .unset, .unset, .unset] [(.long (9223372036854775807 : Int64))])) _
        refine XS.goto X0.here hx rfl (pc0 := 24) (pc' := 28) rfl (hb hby at_24) (by decide) (by decide) ?_
        show Steps p.tables e below (s₁.setTop (mkF m 28 #[.val (.long x0), .second, .val (.long x1), .second, .val (.int x2), .val (.int (1 : Int32)), .unset, .unset, .unset, .unset, .unset] [(.long (9223372036854775807 : Int64))])) _
        refine XS.lstore X0.here hx rfl (hb hby at_28) rfl (l' := #[.val (.long x0), .second, .val (.long x1), .second, .val (.int x2), .val (.int (1 : Int32)), .val (.long (9223372036854775807 : Int64)), .second, .unset, .unset, .unset]) rfl ?_
        show Steps p.tables e below (s₁.setTop (mkF m 30 #[.val (.long x0), .second, .val (.long x1), .second, .val (.int x2), .val (.int (1 : Int32)), .val (.long (9223372036854775807 : Int64)), .second, .unset, .unset, .unset] [])) _
        refine XS.iload X0.here hx rfl (hb hby at_30) rfl ?_
        show Steps p.tables e below (s₁.setTop (mkF m 32 #[.val (.long x0), .second, .val (.long x1), .second, .val (.int x2), .val (.int (1 : Int32)), .val (.long (9223372036854775807 : Int64)), .second, .unset, .unset, .unset] [(.int x2)])) _
        refine XS.iconst X0.here hx rfl (hb hby at_32) ?_
        show Steps p.tables e below (s₁.setTop (mkF m 33 #[.val (.long x0), .second, .val (.long x1), .second, .val (.int x2), .val (.int (1 : Int32)), .val (.long (9223372036854775807 : Int64)), .second, .unset, .unset, .unset] [(.int (4 : Int32)), (.int x2)])) _
        refine XS.iand X0.here hx rfl (hb hby at_33) rfl ?_
        exact kk)
      by_cases hc276 : (x2 &&& (4 : Int32)) = (0 : Int32)
      ·
        have pre277 : ∀ t, Steps p.tables e below (s₁.setTop (mkF m 43 #[.val (.long x0), .second, .val (.long x1), .second, .val (.int x2), .val (.int (1 : Int32)), .val (.long (9223372036854775807 : Int64)), .second, .unset, .unset, .unset] [(.int x2)])) t → Steps p.tables e below (s₁.setTop (entryFrame m #[(.long x0), (.long x1), (.int x2)] maxLocals)) t := fun t kk => pre275 t (by
          show Steps p.tables e below (s₁.setTop (mkF m 34 #[.val (.long x0), .second, .val (.long x1), .second, .val (.int x2), .val (.int (1 : Int32)), .val (.long (9223372036854775807 : Int64)), .second, .unset, .unset, .unset] [(.int (x2 &&& (4 : Int32)))])) _
          refine XS.ifYes X0.here hx rfl (pc0 := 34) (pc' := 41) rfl (hb hby at_34) rfl ((if0 _ _).trans (teq (hc276 : (x2 &&& (4 : Int32)) = (0 : Int32))).1) (by decide) (by decide) ?_
          show Steps p.tables e below (s₁.setTop (mkF m 41 #[.val (.long x0), .second, .val (.long x1), .second, .val (.int x2), .val (.int (1 : Int32)), .val (.long (9223372036854775807 : Int64)), .second, .unset, .unset, .unset] [])) _
          refine XS.iload X0.here hx rfl (hb hby at_41) rfl ?_
          exact kk)
        by_cases hc278 : x2 < (-128 : Int32)
        ·
          obtain ⟨_, _, ⟨T279, L279, k279, n279⟩, -, X279, ⟨Lc279, hQ279, l279, y279, z279⟩, st279⟩ := Jvm.LawKit.callS X0 hx (y := (⟨"java/lang/Integer", "valueOf", "(I)Ljava/lang/Integer;"⟩ : MethodName)) hown (mvT hZ (hw _ (List.mem_of_getElem? (i := 0) rfl))) (mvT hZ (hw _ (List.mem_of_getElem? (i := 1) rfl))) (mvT hZ (hw _ (List.mem_of_getElem? (i := 2) rfl))) (mvT hZ (hw _ (List.mem_of_getElem? (i := 3) rfl))) (by decide) (backOf (W := 0) (rm3 l Z a0 hw [] x2 h0 n0 Z0 hc278) hZ (hw _ (List.mem_of_getElem? (i := 3) rfl)) (hw _ (List.mem_of_getElem? (i := 2) rfl)) (by decide) (by decide)) (g := (mkF m 43 #[.val (.long x0), .second, .val (.long x1), .second, .val (.int x2), .val (.int (1 : Int32)), .val (.long (9223372036854775807 : Int64)), .second, .unset, .unset, .unset] [(.int x2)])) rfl (by rw [hml]; rfl) (argsL := [(.int x2)]) (rest := []) (lenOf pd_2 rfl) rfl (by show 2 * 0 + _ ≤ _; exact Nat.le_of_eq rfl) (hb hby at_43) (fun _ _ => ⟨rfl, e0, (by decide : 0 + 1 ≤ _), (by decide : 0 + 1 ≤ _)⟩)
          dsimp only [Pt.U, Pt.locs, Pt.cells, Pt.slots] at X279 l279 y279 z279 st279 hQ279
          subst l279 y279 z279
          obtain ⟨br279, rfl, N279q, h280, b280, g280, E280, A280, F280_value, h281, W281, e279, rfl⟩ := hQ279
          have N279 := Fr.app N0 N279q
          have G280 : n0 ≤ b280 := (Nat.le_trans Z0 (Nat.le_of_eq g280.symm))
          have Z280 : n0 ≤ h280.size := Nat.le_trans Z0 E280.1
          have Z281 : n0 ≤ h281.size := Nat.le_trans Z280 (Nat.le_of_eq W281.size.symm)
          have Fw281 := Fld.same W281 F280_value
          obtain ⟨T282, h282, X282, e282, E282, A282, D282, -, st282⟩ := newO X279 hx hZ hown (hw _ (List.mem_of_getElem? (i := 7) rfl)) (hw _ (List.mem_of_getElem? (i := 8) rfl)) (hw _ (List.mem_of_getElem? (i := 9) rfl)) e279 (g := (mkF m 48 #[.val (.long x0), .second, .val (.long x1), .second, .val (.int x2), .val (.int (1 : Int32)), .val (.long (9223372036854775807 : Int64)), .second, .val (.ref b280), .unset, .unset] [])) rfl (hb hby at_48) (by decide) (by decide)
          obtain ⟨b282, g282⟩ : ∃ z, z = h281.size := ⟨_, rfl⟩
          rw [← g282] at A282 D282 st282
          have F282_connection : Fld Z h282 b282 "com/example/grantd/grantd/front/Places$Waiting" "connection" "Ljava/lang/Object;" .null := D282 (Or.inr (hw _ (List.mem_of_getElem? (i := 22) rfl))) (ty := (.object "java/lang/Object")) (by decide)
          have F282_closableFrom : Fld Z h282 b282 "com/example/grantd/grantd/front/Places$Waiting" "closableFrom" "J" (.long (0 : Int64)) := D282 (Or.inr (hw _ (List.mem_of_getElem? (i := 24) rfl))) (ty := .long) (by decide)
          have F282_firstServed : Fld Z h282 b282 "com/example/grantd/grantd/front/Places$Waiting" "firstServed" "J" (.long (0 : Int64)) := D282 (Or.inr (hw _ (List.mem_of_getElem? (i := 26) rfl))) (ty := .long) (by decide)
          have F282_holdsHead : Fld Z h282 b282 "com/example/grantd/grantd/front/Places$Waiting" "holdsHead" "Z" (.int (0 : Int32)) := D282 (Or.inr (hw _ (List.mem_of_getElem? (i := 28) rfl))) (ty := .boolean) (by decide)
          have G282 : n0 ≤ b282 := (Nat.le_trans Z281 (Nat.le_of_eq g282.symm))
          have Z282 : n0 ≤ h282.size := Nat.le_trans Z281 E282.1
          obtain ⟨_, _, ⟨T283, L283, k283, n283⟩, -, X283, ⟨Lc283, hQ283, l283, y283, z283⟩, st283⟩ := X282.specialBack hx (y := (⟨"com/example/grantd/grantd/front/Places$Waiting", "<init>", "(Ljava/lang/Object;JJZ)V"⟩ : MethodName)) rfl hown (mvT hZ (hw _ (List.mem_of_getElem? (i := 10) rfl))) (mvT hZ (hw _ (List.mem_of_getElem? (i := 11) rfl))) (mvT hZ (hw _ (List.mem_of_getElem? (i := 12) rfl))) (by decide) (backOf (W := 1) (rm17 l Z a0 hw [] b282 b280 x0 h282 n0 Z282 A282 F282_connection G282 F282_closableFrom F282_firstServed F282_holdsHead) hZ (hw _ (List.mem_of_getElem? (i := 12) rfl)) (hw _ (List.mem_of_getElem? (i := 9) rfl)) (by decide) (by decide)) (g := (mkF m 59 #[.val (.long x0), .second, .val (.long x1), .second, .val (.int x2), .val (.int (1 : Int32)), .val (.long (9223372036854775807 : Int64)), .second, .val (.ref b280), .unset, .unset] [(.int (1 : Int32)), (.long (9223372036854775807 : Int64)), (.long x0), (.ref b280), (.ref b282), (.ref b282)])) rfl (by rw [hml]; rfl) (Steps.refl _) (a := b282) (argsL := [(.ref b280), (.long x0), (.long (9223372036854775807 : Int64)), (.int (1 : Int32))]) (rest := [(.ref b282)]) (lenOf pd_3 rfl) rfl (by show 2 * 0 + _ ≤ _; exact Nat.le_of_eq rfl) (hb hby at_59) (fun _ _ => ⟨rfl, e282, (by decide : 2 + 0 ≤ _), (by decide : 5 + 0 ≤ _)⟩)
          dsimp only [Pt.U, Pt.locs, Pt.cells, Pt.slots] at X283 l283 y283 z283 st283 hQ283
          subst l283 y283 z283
          obtain ⟨rfl, N283q, h284, W284, h285, W285, h286, W286, h287, W287, e283⟩ := hQ283
          have N283 := Fr.app N279 N283q
          have Z284 : n0 ≤ h284.size := Nat.le_trans Z282 (Nat.le_of_eq W284.size.symm)
          have Fw284 := Fld.same W284 F282_connection
          have f288 : Exa Z h284 b282 "com/example/grantd/grantd/front/Places$Waiting" := (A282.wr W284)
          have f289 : Fld Z h284 b282 "com/example/grantd/grantd/front/Places$Waiting" "closableFrom" "J" (.long (0 : Int64)) := (F282_closableFrom.other W284 (Or.inr (slot_ne (Or.inr (hw _ (List.mem_of_getElem? (i := 24) rfl))) (Or.inr (hw _ (List.mem_of_getElem? (i := 22) rfl))) (by decide) (t := .long) (t' := (.object "java/lang/Object")) (by decide) (by decide))))
          have Z285 : n0 ≤ h285.size := Nat.le_trans Z284 (Nat.le_of_eq W285.size.symm)
          have Fw285 := Fld.same W285 f289
          have f290 : Exa Z h285 b282 "com/example/grantd/grantd/front/Places$Waiting" := (f288.wr W285)
          have f291 : Fld Z h285 b282 "com/example/grantd/grantd/front/Places$Waiting" "firstServed" "J" (.long (0 : Int64)) := ((F282_firstServed.other W284 (Or.inr (slot_ne (Or.inr (hw _ (List.mem_of_getElem? (i := 26) rfl))) (Or.inr (hw _ (List.mem_of_getElem? (i := 22) rfl))) (by decide) (t := .long) (t' := (.object "java/lang/Object")) (by decide) (by decide)))).other W285 (Or.inr (slot_ne (Or.inr (hw _ (List.mem_of_getElem? (i := 26) rfl))) (Or.inr (hw _ (List.mem_of_getElem? (i := 24) rfl))) (by decide) (t := .long) (t' := .long) (by decide) (by decide))))
          have Z286 : n0 ≤ h286.size := Nat.le_trans Z285 (Nat.le_of_eq W286.size.symm)
          have Fw286 := Fld.same W286 f291
          have f292 : Exa Z h286 b282 "com/example/grantd/grantd/front/Places$Waiting" := (f290.wr W286)
          have f293 : Fld Z h286 b282 "com/example/grantd/grantd/front/Places$Waiting" "holdsHead" "Z" (.int (0 : Int32)) := (((F282_holdsHead.other W284 (Or.inr (slot_ne (Or.inr (hw _ (List.mem_of_getElem? (i := 28) rfl))) (Or.inr (hw _ (List.mem_of_getElem? (i := 22) rfl))) (by decide) (t := .boolean) (t' := (.object "java/lang/Object")) (by decide) (by decide)))).other W285 (Or.inr (slot_ne (Or.inr (hw _ (List.mem_of_getElem? (i := 28) rfl))) (Or.inr (hw _ (List.mem_of_getElem? (i := 24) rfl))) (by decide) (t := .boolean) (t' := .long) (by decide) (by decide)))).other W286 (Or.inr (slot_ne (Or.inr (hw _ (List.mem_of_getElem? (i := 28) rfl))) (Or.inr (hw _ (List.mem_of_getElem? (i := 26) rfl))) (by decide) (t := .boolean) (t' := .long) (by decide) (by decide))))
          have Z287 : n0 ≤ h287.size := Nat.le_trans Z286 (Nat.le_of_eq W287.size.symm)
          have Fw287 := Fld.same W287 f293
          have f294 : Exa Z h287 b282 "com/example/grantd/grantd/front/Places$Waiting" := (f292.wr W287)
          have f295 : Fld Z h287 b282 "com/example/grantd/grantd/front/Places$Waiting" "firstServed" "J" (.long (9223372036854775807 : Int64)) := (Fw286.other W287 (Or.inr (slot_ne (Or.inr (hw _ (List.mem_of_getElem? (i := 26) rfl))) (Or.inr (hw _ (List.mem_of_getElem? (i := 28) rfl))) (by decide) (t := .long) (t' := .boolean) (by decide) (by decide))))
          obtain ⟨cq296, kq296, q296a, q296b, q296c⟩ := isOf hZ e283 f294
          obtain ⟨_, _, ⟨T296, L296, k296, n296⟩, -, X296, ⟨Lc296, hQ296, l296, y296, z296⟩, st296⟩ := X283.virtualBack hx (y := (⟨"com/example/grantd/grantd/front/Places$Waiting", "isBetweenRequests", "()Z"⟩ : MethodName)) (z := (⟨"com/example/grantd/grantd/front/Places$Waiting", "isBetweenRequests", "()Z"⟩ : MethodName)) hown (mvT hZ (hw _ (List.mem_of_getElem? (i := 30) rfl))) (mvT hZ (hw _ (List.mem_of_getElem? (i := 31) rfl))) (notFace_of_selects (args := #[]) (mvT hZ (hw _ (List.mem_of_getElem? (i := 33) rfl)))) (mvT hZ (hw _ (List.mem_of_getElem? (i := 33) rfl))) (mvT hZ (hw _ (List.mem_of_getElem? (i := 32) rfl))) (by decide) (backOf (W := 0) (rm12 l Z a0 hw [] b282 h287 n0 Z287 f295) hZ (hw _ (List.mem_of_getElem? (i := 34) rfl)) (hw _ (List.mem_of_getElem? (i := 9) rfl)) (by decide) (by decide)) q296a q296c (g := (mkF m 95 #[.val (.long x0), .second, .val (.long x1), .second, .val (.int x2), .val (.int (1 : Int32)), .val (.long (9223372036854775807 : Int64)), .second, .val (.ref b280), .val (.ref b282), .val (.int (0 : Int32))] [(.ref b282)])) rfl (by rw [hml]; rfl) (Steps.refl _) (argsL := []) (rest := []) (lenOf pd_4 rfl) rfl (by show 2 * 0 + _ ≤ _; exact Nat.le_of_eq rfl) (hb hby at_95) (fun _ _ => ⟨rfl, e283, (by decide : 2 + 0 ≤ _), (by decide : 5 + 0 ≤ _)⟩)
          dsimp only [Pt.U, Pt.locs, Pt.cells, Pt.slots] at X296 l296 y296 z296 st296 hQ296
          subst l296 y296 z296
          obtain ⟨rfl, N296q, e296⟩ := hQ296
          have N296 := Fr.app N283 N296q
          have pre297 : ∀ t, Steps p.tables e below (T296.setTop (mkF m 108 #[.val (.long x0), .second, .val (.long x1), .second, .val (.int x2), .val (.int (1 : Int32)), .val (.long (9223372036854775807 : Int64)), .second, .val (.ref b280), .val (.ref b282), .val (.int (0 : Int32))] [(.int (1 : Int32))])) t → Steps p.tables e below (s₁.setTop (entryFrame m #[(.long x0), (.long x1), (.int x2)] maxLocals)) t := fun t kk => pre277 t (by
            show Steps p.tables e below (s₁.setTop (mkF m 43 #[.val (.long x0), .second, .val (.long x1), .second, .val (.int x2), .val (.int (1 : Int32)), .val (.long (9223372036854775807 : Int64)), .second, .unset, .unset, .unset] [(.int x2)])) _
            refine st279 _ ?_
            show Steps p.tables e below (T279.setTop (mkF m 46 #[.val (.long x0), .second, .val (.long x1), .second, .val (.int x2), .val (.int (1 : Int32)), .val (.long (9223372036854775807 : Int64)), .second, .unset, .unset, .unset] [(.ref b280)])) _
            refine XS.astore X279.here hx rfl (hb hby at_46) rfl rfl (l' := #[.val (.long x0), .second, .val (.long x1), .second, .val (.int x2), .val (.int (1 : Int32)), .val (.long (9223372036854775807 : Int64)), .second, .val (.ref b280), .unset, .unset]) rfl ?_
            show Steps p.tables e below (T279.setTop (mkF m 48 #[.val (.long x0), .second, .val (.long x1), .second, .val (.int x2), .val (.int (1 : Int32)), .val (.long (9223372036854775807 : Int64)), .second, .val (.ref b280), .unset, .unset] [])) _
            refine st282 _ ?_
            show Steps p.tables e below (T282.setTop (mkF m 51 #[.val (.long x0), .second, .val (.long x1), .second, .val (.int x2), .val (.int (1 : Int32)), .val (.long (9223372036854775807 : Int64)), .second, .val (.ref b280), .unset, .unset] [(.ref b282)])) _
            refine XS.dup X282.here hx rfl (hb hby at_51) rfl rfl ?_
            show Steps p.tables e below (T282.setTop (mkF m 52 #[.val (.long x0), .second, .val (.long x1), .second, .val (.int x2), .val (.int (1 : Int32)), .val (.long (9223372036854775807 : Int64)), .second, .val (.ref b280), .unset, .unset] [(.ref b282), (.ref b282)])) _
            refine XS.aload X282.here hx rfl (hb hby at_52) rfl rfl ?_
            show Steps p.tables e below (T282.setTop (mkF m 54 #[.val (.long x0), .second, .val (.long x1), .second, .val (.int x2), .val (.int (1 : Int32)), .val (.long (9223372036854775807 : Int64)), .second, .val (.ref b280), .unset, .unset] [(.ref b280), (.ref b282), (.ref b282)])) _
            refine XS.lloadN X282.here hx rfl (hb hby at_54) rfl ?_
            show Steps p.tables e below (T282.setTop (mkF m 55 #[.val (.long x0), .second, .val (.long x1), .second, .val (.int x2), .val (.int (1 : Int32)), .val (.long (9223372036854775807 : Int64)), .second, .val (.ref b280), .unset, .unset] [(.long x0), (.ref b280), (.ref b282), (.ref b282)])) _
            refine XS.lload X282.here hx rfl (hb hby at_55) rfl ?_
            show Steps p.tables e below (T282.setTop (mkF m 57 #[.val (.long x0), .second, .val (.long x1), .second, .val (.int x2), .val (.int (1 : Int32)), .val (.long (9223372036854775807 : Int64)), .second, .val (.ref b280), .unset, .unset] [(.long (9223372036854775807 : Int64)), (.long x0), (.ref b280), (.ref b282), (.ref b282)])) _
            refine XS.iload X282.here hx rfl (hb hby at_57) rfl ?_
            show Steps p.tables e below (T282.setTop (mkF m 59 #[.val (.long x0), .second, .val (.long x1), .second, .val (.int x2), .val (.int (1 : Int32)), .val (.long (9223372036854775807 : Int64)), .second, .val (.ref b280), .unset, .unset] [(.int (1 : Int32)), (.long (9223372036854775807 : Int64)), (.long x0), (.ref b280), (.ref b282), (.ref b282)])) _
            refine st283.trans ?_
            show Steps p.tables e below (T283.setTop (mkF m 62 #[.val (.long x0), .second, .val (.long x1), .second, .val (.int x2), .val (.int (1 : Int32)), .val (.long (9223372036854775807 : Int64)), .second, .val (.ref b280), .unset, .unset] [(.ref b282)])) _
            refine XS.astore X283.here hx rfl (hb hby at_62) rfl rfl (l' := #[.val (.long x0), .second, .val (.long x1), .second, .val (.int x2), .val (.int (1 : Int32)), .val (.long (9223372036854775807 : Int64)), .second, .val (.ref b280), .val (.ref b282), .unset]) rfl ?_
            show Steps p.tables e below (T283.setTop (mkF m 64 #[.val (.long x0), .second, .val (.long x1), .second, .val (.int x2), .val (.int (1 : Int32)), .val (.long (9223372036854775807 : Int64)), .second, .val (.ref b280), .val (.ref b282), .unset] [])) _
            refine XS.iload X283.here hx rfl (hb hby at_64) rfl ?_
            show Steps p.tables e below (T283.setTop (mkF m 66 #[.val (.long x0), .second, .val (.long x1), .second, .val (.int x2), .val (.int (1 : Int32)), .val (.long (9223372036854775807 : Int64)), .second, .val (.ref b280), .val (.ref b282), .unset] [(.int (1 : Int32))])) _
            refine XS.ifNo X283.here hx rfl (hb hby at_66) rfl ((if0 _ _).trans (feq ((by decide) : ¬ ((1 : Int32) = (0 : Int32)))).1) ?_
            show Steps p.tables e below (T283.setTop (mkF m 69 #[.val (.long x0), .second, .val (.long x1), .second, .val (.int x2), .val (.int (1 : Int32)), .val (.long (9223372036854775807 : Int64)), .second, .val (.ref b280), .val (.ref b282), .unset] [])) _
            refine XS.iconst X283.here hx rfl (hb hby at_69) ?_
            show Steps p.tables e below (T283.setTop (mkF m 70 #[.val (.long x0), .second, .val (.long x1), .second, .val (.int x2), .val (.int (1 : Int32)), .val (.long (9223372036854775807 : Int64)), .second, .val (.ref b280), .val (.ref b282), .unset] [(.int (0 : Int32))])) _
            refine XS.istore X283.here hx rfl (hb hby at_70) rfl (l' := #[.val (.long x0), .second, .val (.long x1), .second, .val (.int x2), .val (.int (1 : Int32)), .val (.long (9223372036854775807 : Int64)), .second, .val (.ref b280), .val (.ref b282), .val (.int (0 : Int32))]) rfl ?_
            show Steps p.tables e below (T283.setTop (mkF m 72 #[.val (.long x0), .second, .val (.long x1), .second, .val (.int x2), .val (.int (1 : Int32)), .val (.long (9223372036854775807 : Int64)), .second, .val (.ref b280), .val (.ref b282), .val (.int (0 : Int32))] [])) _
            refine XS.goto X283.here hx rfl (pc0 := 72) (pc' := 93) rfl (hb hby at_72) (by decide) (by decide) ?_
            show Steps p.tables e below (T283.setTop (mkF m 93 #[.val (.long x0), .second, .val (.long x1), .second, .val (.int x2), .val (.int (1 : Int32)), .val (.long (9223372036854775807 : Int64)), .second, .val (.ref b280), .val (.ref b282), .val (.int (0 : Int32))] [])) _
            refine XS.aload X283.here hx rfl (hb hby at_93) rfl rfl ?_
            show Steps p.tables e below (T283.setTop (mkF m 95 #[.val (.long x0), .second, .val (.long x1), .second, .val (.int x2), .val (.int (1 : Int32)), .val (.long (9223372036854775807 : Int64)), .second, .val (.ref b280), .val (.ref b282), .val (.int (0 : Int32))] [(.ref b282)])) _
            refine st296.trans ?_
            show Steps p.tables e below (T296.setTop (mkF m 98 #[.val (.long x0), .second, .val (.long x1), .second, .val (.int x2), .val (.int (1 : Int32)), .val (.long (9223372036854775807 : Int64)), .second, .val (.ref b280), .val (.ref b282), .val (.int (0 : Int32))] [(.int (0 : Int32))])) _
            refine XS.iload X296.here hx rfl (hb hby at_98) rfl ?_
            show Steps p.tables e below (T296.setTop (mkF m 100 #[.val (.long x0), .second, .val (.long x1), .second, .val (.int x2), .val (.int (1 : Int32)), .val (.long (9223372036854775807 : Int64)), .second, .val (.ref b280), .val (.ref b282), .val (.int (0 : Int32))] [(.int (0 : Int32)), (.int (0 : Int32))])) _
            refine XS.icmpNo X296.here hx rfl (hb hby at_100) rfl (teq ((by decide) : (0 : Int32) = (0 : Int32))).2 ?_
            show Steps p.tables e below (T296.setTop (mkF m 103 #[.val (.long x0), .second, .val (.long x1), .second, .val (.int x2), .val (.int (1 : Int32)), .val (.long (9223372036854775807 : Int64)), .second, .val (.ref b280), .val (.ref b282), .val (.int (0 : Int32))] [])) _
            refine XS.iconst X296.here hx rfl (hb hby at_103) ?_
            show Steps p.tables e below (T296.setTop (mkF m 104 #[.val (.long x0), .second, .val (.long x1), .second, .val (.int x2), .val (.int (1 : Int32)), .val (.long (9223372036854775807 : Int64)), .second, .val (.ref b280), .val (.ref b282), .val (.int (0 : Int32))] [(.int (1 : Int32))])) _
            refine XS.goto X296.here hx rfl (pc0 := 104) (pc' := 108) rfl (hb hby at_104) (by decide) (by decide) ?_
            exact kk)
          obtain ⟨fs, hr, hrun, hended, hW, hsame⟩ := X296.leave (v := some (.int (1 : Int32))) (fun h => by rw [Bd.returns] at h; cases h)
          refine ⟨_, _, pre297 _ ?_, hrun, hended, _, _, rfl, ?_, ⟨_, rfl⟩, hW, hsame.mono (by decide) (by decide)⟩
          · exact retN X296 hx (t := .boolean) Bd.returns (by simp) (hb hby at_108) hr
          · exact ⟨rfl, N296⟩
        ·
          by_cases hc298 : (127 : Int32) < x2
          ·
            obtain ⟨_, _, ⟨T299, L299, k299, n299⟩, -, X299, ⟨Lc299, hQ299, l299, y299, z299⟩, st299⟩ := Jvm.LawKit.callS X0 hx (y := (⟨"java/lang/Integer", "valueOf", "(I)Ljava/lang/Integer;"⟩ : MethodName)) hown (mvT hZ (hw _ (List.mem_of_getElem? (i := 0) rfl))) (mvT hZ (hw _ (List.mem_of_getElem? (i := 1) rfl))) (mvT hZ (hw _ (List.mem_of_getElem? (i := 2) rfl))) (mvT hZ (hw _ (List.mem_of_getElem? (i := 3) rfl))) (by decide) (backOf (W := 0) (rm8 l Z a0 hw [] x2 h0 n0 Z0 hc278 S_high hc298) hZ (hw _ (List.mem_of_getElem? (i := 3) rfl)) (hw _ (List.mem_of_getElem? (i := 2) rfl)) (by decide) (by decide)) (g := (mkF m 43 #[.val (.long x0), .second, .val (.long x1), .second, .val (.int x2), .val (.int (1 : Int32)), .val (.long (9223372036854775807 : Int64)), .second, .unset, .unset, .unset] [(.int x2)])) rfl (by rw [hml]; rfl) (argsL := [(.int x2)]) (rest := []) (lenOf pd_2 rfl) rfl (by show 2 * 0 + _ ≤ _; exact Nat.le_of_eq rfl) (hb hby at_43) (fun _ _ => ⟨rfl, e0, (by decide : 0 + 1 ≤ _), (by decide : 0 + 1 ≤ _)⟩)
            dsimp only [Pt.U, Pt.locs, Pt.cells, Pt.slots] at X299 l299 y299 z299 st299 hQ299
            subst l299 y299 z299
            obtain ⟨br299, rfl, N299q, h300, b300, g300, E300, A300, F300_value, h301, W301, e299, rfl⟩ := hQ299
            have N299 := Fr.app N0 N299q
            have G300 : n0 ≤ b300 := (Nat.le_trans Z0 (Nat.le_of_eq g300.symm))
            have Z300 : n0 ≤ h300.size := Nat.le_trans Z0 E300.1
            have Z301 : n0 ≤ h301.size := Nat.le_trans Z300 (Nat.le_of_eq W301.size.symm)
            have Fw301 := Fld.same W301 F300_value
            obtain ⟨T302, h302, X302, e302, E302, A302, D302, -, st302⟩ := newO X299 hx hZ hown (hw _ (List.mem_of_getElem? (i := 7) rfl)) (hw _ (List.mem_of_getElem? (i := 8) rfl)) (hw _ (List.mem_of_getElem? (i := 9) rfl)) e299 (g := (mkF m 48 #[.val (.long x0), .second, .val (.long x1), .second, .val (.int x2), .val (.int (1 : Int32)), .val (.long (9223372036854775807 : Int64)), .second, .val (.ref b300), .unset, .unset] [])) rfl (hb hby at_48) (by decide) (by decide)
            obtain ⟨b302, g302⟩ : ∃ z, z = h301.size := ⟨_, rfl⟩
            rw [← g302] at A302 D302 st302
            have F302_connection : Fld Z h302 b302 "com/example/grantd/grantd/front/Places$Waiting" "connection" "Ljava/lang/Object;" .null := D302 (Or.inr (hw _ (List.mem_of_getElem? (i := 22) rfl))) (ty := (.object "java/lang/Object")) (by decide)
            have F302_closableFrom : Fld Z h302 b302 "com/example/grantd/grantd/front/Places$Waiting" "closableFrom" "J" (.long (0 : Int64)) := D302 (Or.inr (hw _ (List.mem_of_getElem? (i := 24) rfl))) (ty := .long) (by decide)
            have F302_firstServed : Fld Z h302 b302 "com/example/grantd/grantd/front/Places$Waiting" "firstServed" "J" (.long (0 : Int64)) := D302 (Or.inr (hw _ (List.mem_of_getElem? (i := 26) rfl))) (ty := .long) (by decide)
            have F302_holdsHead : Fld Z h302 b302 "com/example/grantd/grantd/front/Places$Waiting" "holdsHead" "Z" (.int (0 : Int32)) := D302 (Or.inr (hw _ (List.mem_of_getElem? (i := 28) rfl))) (ty := .boolean) (by decide)
            have G302 : n0 ≤ b302 := (Nat.le_trans Z301 (Nat.le_of_eq g302.symm))
            have Z302 : n0 ≤ h302.size := Nat.le_trans Z301 E302.1
            obtain ⟨_, _, ⟨T303, L303, k303, n303⟩, -, X303, ⟨Lc303, hQ303, l303, y303, z303⟩, st303⟩ := X302.specialBack hx (y := (⟨"com/example/grantd/grantd/front/Places$Waiting", "<init>", "(Ljava/lang/Object;JJZ)V"⟩ : MethodName)) rfl hown (mvT hZ (hw _ (List.mem_of_getElem? (i := 10) rfl))) (mvT hZ (hw _ (List.mem_of_getElem? (i := 11) rfl))) (mvT hZ (hw _ (List.mem_of_getElem? (i := 12) rfl))) (by decide) (backOf (W := 1) (rm17 l Z a0 hw [] b302 b300 x0 h302 n0 Z302 A302 F302_connection G302 F302_closableFrom F302_firstServed F302_holdsHead) hZ (hw _ (List.mem_of_getElem? (i := 12) rfl)) (hw _ (List.mem_of_getElem? (i := 9) rfl)) (by decide) (by decide)) (g := (mkF m 59 #[.val (.long x0), .second, .val (.long x1), .second, .val (.int x2), .val (.int (1 : Int32)), .val (.long (9223372036854775807 : Int64)), .second, .val (.ref b300), .unset, .unset] [(.int (1 : Int32)), (.long (9223372036854775807 : Int64)), (.long x0), (.ref b300), (.ref b302), (.ref b302)])) rfl (by rw [hml]; rfl) (Steps.refl _) (a := b302) (argsL := [(.ref b300), (.long x0), (.long (9223372036854775807 : Int64)), (.int (1 : Int32))]) (rest := [(.ref b302)]) (lenOf pd_3 rfl) rfl (by show 2 * 0 + _ ≤ _; exact Nat.le_of_eq rfl) (hb hby at_59) (fun _ _ => ⟨rfl, e302, (by decide : 2 + 0 ≤ _), (by decide : 5 + 0 ≤ _)⟩)
            dsimp only [Pt.U, Pt.locs, Pt.cells, Pt.slots] at X303 l303 y303 z303 st303 hQ303
            subst l303 y303 z303
            obtain ⟨rfl, N303q, h304, W304, h305, W305, h306, W306, h307, W307, e303⟩ := hQ303
            have N303 := Fr.app N299 N303q
            have Z304 : n0 ≤ h304.size := Nat.le_trans Z302 (Nat.le_of_eq W304.size.symm)
            have Fw304 := Fld.same W304 F302_connection
            have f308 : Exa Z h304 b302 "com/example/grantd/grantd/front/Places$Waiting" := (A302.wr W304)
            have f309 : Fld Z h304 b302 "com/example/grantd/grantd/front/Places$Waiting" "closableFrom" "J" (.long (0 : Int64)) := (F302_closableFrom.other W304 (Or.inr (slot_ne (Or.inr (hw _ (List.mem_of_getElem? (i := 24) rfl))) (Or.inr (hw _ (List.mem_of_getElem? (i := 22) rfl))) (by decide) (t := .long) (t' := (.object "java/lang/Object")) (by decide) (by decide))))
            have Z305 : n0 ≤ h305.size := Nat.le_trans Z304 (Nat.le_of_eq W305.size.symm)
            have Fw305 := Fld.same W305 f309
            have f310 : Exa Z h305 b302 "com/example/grantd/grantd/front/Places$Waiting" := (f308.wr W305)
            have f311 : Fld Z h305 b302 "com/example/grantd/grantd/front/Places$Waiting" "firstServed" "J" (.long (0 : Int64)) := ((F302_firstServed.other W304 (Or.inr (slot_ne (Or.inr (hw _ (List.mem_of_getElem? (i := 26) rfl))) (Or.inr (hw _ (List.mem_of_getElem? (i := 22) rfl))) (by decide) (t := .long) (t' := (.object "java/lang/Object")) (by decide) (by decide)))).other W305 (Or.inr (slot_ne (Or.inr (hw _ (List.mem_of_getElem? (i := 26) rfl))) (Or.inr (hw _ (List.mem_of_getElem? (i := 24) rfl))) (by decide) (t := .long) (t' := .long) (by decide) (by decide))))
            have Z306 : n0 ≤ h306.size := Nat.le_trans Z305 (Nat.le_of_eq W306.size.symm)
            have Fw306 := Fld.same W306 f311
            have f312 : Exa Z h306 b302 "com/example/grantd/grantd/front/Places$Waiting" := (f310.wr W306)
            have f313 : Fld Z h306 b302 "com/example/grantd/grantd/front/Places$Waiting" "holdsHead" "Z" (.int (0 : Int32)) := (((F302_holdsHead.other W304 (Or.inr (slot_ne (Or.inr (hw _ (List.mem_of_getElem? (i := 28) rfl))) (Or.inr (hw _ (List.mem_of_getElem? (i := 22) rfl))) (by decide) (t := .boolean) (t' := (.object "java/lang/Object")) (by decide) (by decide)))).other W305 (Or.inr (slot_ne (Or.inr (hw _ (List.mem_of_getElem? (i := 28) rfl))) (Or.inr (hw _ (List.mem_of_getElem? (i := 24) rfl))) (by decide) (t := .boolean) (t' := .long) (by decide) (by decide)))).other W306 (Or.inr (slot_ne (Or.inr (hw _ (List.mem_of_getElem? (i := 28) rfl))) (Or.inr (hw _ (List.mem_of_getElem? (i := 26) rfl))) (by decide) (t := .boolean) (t' := .long) (by decide) (by decide))))
            have Z307 : n0 ≤ h307.size := Nat.le_trans Z306 (Nat.le_of_eq W307.size.symm)
            have Fw307 := Fld.same W307 f313
            have f314 : Exa Z h307 b302 "com/example/grantd/grantd/front/Places$Waiting" := (f312.wr W307)
            have f315 : Fld Z h307 b302 "com/example/grantd/grantd/front/Places$Waiting" "firstServed" "J" (.long (9223372036854775807 : Int64)) := (Fw306.other W307 (Or.inr (slot_ne (Or.inr (hw _ (List.mem_of_getElem? (i := 26) rfl))) (Or.inr (hw _ (List.mem_of_getElem? (i := 28) rfl))) (by decide) (t := .long) (t' := .boolean) (by decide) (by decide))))
            obtain ⟨cq316, kq316, q316a, q316b, q316c⟩ := isOf hZ e303 f314
            obtain ⟨_, _, ⟨T316, L316, k316, n316⟩, -, X316, ⟨Lc316, hQ316, l316, y316, z316⟩, st316⟩ := X303.virtualBack hx (y := (⟨"com/example/grantd/grantd/front/Places$Waiting", "isBetweenRequests", "()Z"⟩ : MethodName)) (z := (⟨"com/example/grantd/grantd/front/Places$Waiting", "isBetweenRequests", "()Z"⟩ : MethodName)) hown (mvT hZ (hw _ (List.mem_of_getElem? (i := 30) rfl))) (mvT hZ (hw _ (List.mem_of_getElem? (i := 31) rfl))) (notFace_of_selects (args := #[]) (mvT hZ (hw _ (List.mem_of_getElem? (i := 33) rfl)))) (mvT hZ (hw _ (List.mem_of_getElem? (i := 33) rfl))) (mvT hZ (hw _ (List.mem_of_getElem? (i := 32) rfl))) (by decide) (backOf (W := 0) (rm12 l Z a0 hw [] b302 h307 n0 Z307 f315) hZ (hw _ (List.mem_of_getElem? (i := 34) rfl)) (hw _ (List.mem_of_getElem? (i := 9) rfl)) (by decide) (by decide)) q316a q316c (g := (mkF m 95 #[.val (.long x0), .second, .val (.long x1), .second, .val (.int x2), .val (.int (1 : Int32)), .val (.long (9223372036854775807 : Int64)), .second, .val (.ref b300), .val (.ref b302), .val (.int (0 : Int32))] [(.ref b302)])) rfl (by rw [hml]; rfl) (Steps.refl _) (argsL := []) (rest := []) (lenOf pd_4 rfl) rfl (by show 2 * 0 + _ ≤ _; exact Nat.le_of_eq rfl) (hb hby at_95) (fun _ _ => ⟨rfl, e303, (by decide : 2 + 0 ≤ _), (by decide : 5 + 0 ≤ _)⟩)
            dsimp only [Pt.U, Pt.locs, Pt.cells, Pt.slots] at X316 l316 y316 z316 st316 hQ316
            subst l316 y316 z316
            obtain ⟨rfl, N316q, e316⟩ := hQ316
            have N316 := Fr.app N303 N316q
            have pre317 : ∀ t, Steps p.tables e below (T316.setTop (mkF m 108 #[.val (.long x0), .second, .val (.long x1), .second, .val (.int x2), .val (.int (1 : Int32)), .val (.long (9223372036854775807 : Int64)), .second, .val (.ref b300), .val (.ref b302), .val (.int (0 : Int32))] [(.int (1 : Int32))])) t → Steps p.tables e below (s₁.setTop (entryFrame m #[(.long x0), (.long x1), (.int x2)] maxLocals)) t := fun t kk => pre277 t (by
              show Steps p.tables e below (s₁.setTop (mkF m 43 #[.val (.long x0), .second, .val (.long x1), .second, .val (.int x2), .val (.int (1 : Int32)), .val (.long (9223372036854775807 : Int64)), .second, .unset, .unset, .unset] [(.int x2)])) _
              refine st299 _ ?_
              show Steps p.tables e below (T299.setTop (mkF m 46 #[.val (.long x0), .second, .val (.long x1), .second, .val (.int x2), .val (.int (1 : Int32)), .val (.long (9223372036854775807 : Int64)), .second, .unset, .unset, .unset] [(.ref b300)])) _
              refine XS.astore X299.here hx rfl (hb hby at_46) rfl rfl (l' := #[.val (.long x0), .second, .val (.long x1), .second, .val (.int x2), .val (.int (1 : Int32)), .val (.long (9223372036854775807 : Int64)), .second, .val (.ref b300), .unset, .unset]) rfl ?_
              show Steps p.tables e below (T299.setTop (mkF m 48 #[.val (.long x0), .second, .val (.long x1), .second, .val (.int x2), .val (.int (1 : Int32)), .val (.long (9223372036854775807 : Int64)), .second, .val (.ref b300), .unset, .unset] [])) _
              refine st302 _ ?_
              show Steps p.tables e below (T302.setTop (mkF m 51 #[.val (.long x0), .second, .val (.long x1), .second, .val (.int x2), .val (.int (1 : Int32)), .val (.long (9223372036854775807 : Int64)), .second, .val (.ref b300), .unset, .unset] [(.ref b302)])) _
              refine XS.dup X302.here hx rfl (hb hby at_51) rfl rfl ?_
              show Steps p.tables e below (T302.setTop (mkF m 52 #[.val (.long x0), .second, .val (.long x1), .second, .val (.int x2), .val (.int (1 : Int32)), .val (.long (9223372036854775807 : Int64)), .second, .val (.ref b300), .unset, .unset] [(.ref b302), (.ref b302)])) _
              refine XS.aload X302.here hx rfl (hb hby at_52) rfl rfl ?_
              show Steps p.tables e below (T302.setTop (mkF m 54 #[.val (.long x0), .second, .val (.long x1), .second, .val (.int x2), .val (.int (1 : Int32)), .val (.long (9223372036854775807 : Int64)), .second, .val (.ref b300), .unset, .unset] [(.ref b300), (.ref b302), (.ref b302)])) _
              refine XS.lloadN X302.here hx rfl (hb hby at_54) rfl ?_
              show Steps p.tables e below (T302.setTop (mkF m 55 #[.val (.long x0), .second, .val (.long x1), .second, .val (.int x2), .val (.int (1 : Int32)), .val (.long (9223372036854775807 : Int64)), .second, .val (.ref b300), .unset, .unset] [(.long x0), (.ref b300), (.ref b302), (.ref b302)])) _
              refine XS.lload X302.here hx rfl (hb hby at_55) rfl ?_
              show Steps p.tables e below (T302.setTop (mkF m 57 #[.val (.long x0), .second, .val (.long x1), .second, .val (.int x2), .val (.int (1 : Int32)), .val (.long (9223372036854775807 : Int64)), .second, .val (.ref b300), .unset, .unset] [(.long (9223372036854775807 : Int64)), (.long x0), (.ref b300), (.ref b302), (.ref b302)])) _
              refine XS.iload X302.here hx rfl (hb hby at_57) rfl ?_
              show Steps p.tables e below (T302.setTop (mkF m 59 #[.val (.long x0), .second, .val (.long x1), .second, .val (.int x2), .val (.int (1 : Int32)), .val (.long (9223372036854775807 : Int64)), .second, .val (.ref b300), .unset, .unset] [(.int (1 : Int32)), (.long (9223372036854775807 : Int64)), (.long x0), (.ref b300), (.ref b302), (.ref b302)])) _
              refine st303.trans ?_
              show Steps p.tables e below (T303.setTop (mkF m 62 #[.val (.long x0), .second, .val (.long x1), .second, .val (.int x2), .val (.int (1 : Int32)), .val (.long (9223372036854775807 : Int64)), .second, .val (.ref b300), .unset, .unset] [(.ref b302)])) _
              refine XS.astore X303.here hx rfl (hb hby at_62) rfl rfl (l' := #[.val (.long x0), .second, .val (.long x1), .second, .val (.int x2), .val (.int (1 : Int32)), .val (.long (9223372036854775807 : Int64)), .second, .val (.ref b300), .val (.ref b302), .unset]) rfl ?_
              show Steps p.tables e below (T303.setTop (mkF m 64 #[.val (.long x0), .second, .val (.long x1), .second, .val (.int x2), .val (.int (1 : Int32)), .val (.long (9223372036854775807 : Int64)), .second, .val (.ref b300), .val (.ref b302), .unset] [])) _
              refine XS.iload X303.here hx rfl (hb hby at_64) rfl ?_
              show Steps p.tables e below (T303.setTop (mkF m 66 #[.val (.long x0), .second, .val (.long x1), .second, .val (.int x2), .val (.int (1 : Int32)), .val (.long (9223372036854775807 : Int64)), .second, .val (.ref b300), .val (.ref b302), .unset] [(.int (1 : Int32))])) _
              refine XS.ifNo X303.here hx rfl (hb hby at_66) rfl ((if0 _ _).trans (feq ((by decide) : ¬ ((1 : Int32) = (0 : Int32)))).1) ?_
              show Steps p.tables e below (T303.setTop (mkF m 69 #[.val (.long x0), .second, .val (.long x1), .second, .val (.int x2), .val (.int (1 : Int32)), .val (.long (9223372036854775807 : Int64)), .second, .val (.ref b300), .val (.ref b302), .unset] [])) _
              refine XS.iconst X303.here hx rfl (hb hby at_69) ?_
              show Steps p.tables e below (T303.setTop (mkF m 70 #[.val (.long x0), .second, .val (.long x1), .second, .val (.int x2), .val (.int (1 : Int32)), .val (.long (9223372036854775807 : Int64)), .second, .val (.ref b300), .val (.ref b302), .unset] [(.int (0 : Int32))])) _
              refine XS.istore X303.here hx rfl (hb hby at_70) rfl (l' := #[.val (.long x0), .second, .val (.long x1), .second, .val (.int x2), .val (.int (1 : Int32)), .val (.long (9223372036854775807 : Int64)), .second, .val (.ref b300), .val (.ref b302), .val (.int (0 : Int32))]) rfl ?_
              show Steps p.tables e below (T303.setTop (mkF m 72 #[.val (.long x0), .second, .val (.long x1), .second, .val (.int x2), .val (.int (1 : Int32)), .val (.long (9223372036854775807 : Int64)), .second, .val (.ref b300), .val (.ref b302), .val (.int (0 : Int32))] [])) _
              refine XS.goto X303.here hx rfl (pc0 := 72) (pc' := 93) rfl (hb hby at_72) (by decide) (by decide) ?_
              show Steps p.tables e below (T303.setTop (mkF m 93 #[.val (.long x0), .second, .val (.long x1), .second, .val (.int x2), .val (.int (1 : Int32)), .val (.long (9223372036854775807 : Int64)), .second, .val (.ref b300), .val (.ref b302), .val (.int (0 : Int32))] [])) _
              refine XS.aload X303.here hx rfl (hb hby at_93) rfl rfl ?_
              show Steps p.tables e below (T303.setTop (mkF m 95 #[.val (.long x0), .second, .val (.long x1), .second, .val (.int x2), .val (.int (1 : Int32)), .val (.long (9223372036854775807 : Int64)), .second, .val (.ref b300), .val (.ref b302), .val (.int (0 : Int32))] [(.ref b302)])) _
              refine st316.trans ?_
              show Steps p.tables e below (T316.setTop (mkF m 98 #[.val (.long x0), .second, .val (.long x1), .second, .val (.int x2), .val (.int (1 : Int32)), .val (.long (9223372036854775807 : Int64)), .second, .val (.ref b300), .val (.ref b302), .val (.int (0 : Int32))] [(.int (0 : Int32))])) _
              refine XS.iload X316.here hx rfl (hb hby at_98) rfl ?_
              show Steps p.tables e below (T316.setTop (mkF m 100 #[.val (.long x0), .second, .val (.long x1), .second, .val (.int x2), .val (.int (1 : Int32)), .val (.long (9223372036854775807 : Int64)), .second, .val (.ref b300), .val (.ref b302), .val (.int (0 : Int32))] [(.int (0 : Int32)), (.int (0 : Int32))])) _
              refine XS.icmpNo X316.here hx rfl (hb hby at_100) rfl (teq ((by decide) : (0 : Int32) = (0 : Int32))).2 ?_
              show Steps p.tables e below (T316.setTop (mkF m 103 #[.val (.long x0), .second, .val (.long x1), .second, .val (.int x2), .val (.int (1 : Int32)), .val (.long (9223372036854775807 : Int64)), .second, .val (.ref b300), .val (.ref b302), .val (.int (0 : Int32))] [])) _
              refine XS.iconst X316.here hx rfl (hb hby at_103) ?_
              show Steps p.tables e below (T316.setTop (mkF m 104 #[.val (.long x0), .second, .val (.long x1), .second, .val (.int x2), .val (.int (1 : Int32)), .val (.long (9223372036854775807 : Int64)), .second, .val (.ref b300), .val (.ref b302), .val (.int (0 : Int32))] [(.int (1 : Int32))])) _
              refine XS.goto X316.here hx rfl (pc0 := 104) (pc' := 108) rfl (hb hby at_104) (by decide) (by decide) ?_
              exact kk)
            obtain ⟨fs, hr, hrun, hended, hW, hsame⟩ := X316.leave (v := some (.int (1 : Int32))) (fun h => by rw [Bd.returns] at h; cases h)
            refine ⟨_, _, pre317 _ ?_, hrun, hended, _, _, rfl, ?_, ⟨_, rfl⟩, hW, hsame.mono (by decide) (by decide)⟩
            · exact retN X316 hx (t := .boolean) Bd.returns (by simp) (hb hby at_108) hr
            · exact ⟨rfl, N316⟩
          ·
            obtain ⟨_, _, ⟨T318, L318, k318, n318⟩, -, X318, ⟨Lc318, hQ318, l318, y318, z318⟩, st318⟩ := Jvm.LawKit.callS X0 hx (y := (⟨"java/lang/Integer", "valueOf", "(I)Ljava/lang/Integer;"⟩ : MethodName)) hown (mvT hZ (hw _ (List.mem_of_getElem? (i := 0) rfl))) (mvT hZ (hw _ (List.mem_of_getElem? (i := 1) rfl))) (mvT hZ (hw _ (List.mem_of_getElem? (i := 2) rfl))) (mvT hZ (hw _ (List.mem_of_getElem? (i := 3) rfl))) (by decide) (backOf (W := 0) (rm9 l Z a0 hw [] x2 w_cache k_cache vsC h0 n0 Z0 hc278 S_high hc298 S_cache V_cache X_cache) hZ (hw _ (List.mem_of_getElem? (i := 3) rfl)) (hw _ (List.mem_of_getElem? (i := 2) rfl)) (by decide) (by decide)) (g := (mkF m 43 #[.val (.long x0), .second, .val (.long x1), .second, .val (.int x2), .val (.int (1 : Int32)), .val (.long (9223372036854775807 : Int64)), .second, .unset, .unset, .unset] [(.int x2)])) rfl (by rw [hml]; rfl) (argsL := [(.int x2)]) (rest := []) (lenOf pd_2 rfl) rfl (by show 2 * 0 + _ ≤ _; exact Nat.le_of_eq rfl) (hb hby at_43) (fun _ _ => ⟨rfl, e0, (by decide : 0 + 0 ≤ _), (by decide : 0 + 0 ≤ _)⟩)
            dsimp only [Pt.U, Pt.locs, Pt.cells, Pt.slots] at X318 l318 y318 z318 st318 hQ318
            subst l318 y318 z318
            obtain ⟨b318, rfl, N318q, A318, e318⟩ := hQ318
            have N318 := Fr.app N0 N318q
            obtain ⟨T319, h319, X319, e319, E319, A319, D319, -, st319⟩ := newO X318 hx hZ hown (hw _ (List.mem_of_getElem? (i := 7) rfl)) (hw _ (List.mem_of_getElem? (i := 8) rfl)) (hw _ (List.mem_of_getElem? (i := 9) rfl)) e318 (g := (mkF m 48 #[.val (.long x0), .second, .val (.long x1), .second, .val (.int x2), .val (.int (1 : Int32)), .val (.long (9223372036854775807 : Int64)), .second, .val (.ref b318), .unset, .unset] [])) rfl (hb hby at_48) (by decide) (by decide)
            obtain ⟨b319, g319⟩ : ∃ z, z = h0.size := ⟨_, rfl⟩
            rw [← g319] at A319 D319 st319
            have F319_connection : Fld Z h319 b319 "com/example/grantd/grantd/front/Places$Waiting" "connection" "Ljava/lang/Object;" .null := D319 (Or.inr (hw _ (List.mem_of_getElem? (i := 22) rfl))) (ty := (.object "java/lang/Object")) (by decide)
            have F319_closableFrom : Fld Z h319 b319 "com/example/grantd/grantd/front/Places$Waiting" "closableFrom" "J" (.long (0 : Int64)) := D319 (Or.inr (hw _ (List.mem_of_getElem? (i := 24) rfl))) (ty := .long) (by decide)
            have F319_firstServed : Fld Z h319 b319 "com/example/grantd/grantd/front/Places$Waiting" "firstServed" "J" (.long (0 : Int64)) := D319 (Or.inr (hw _ (List.mem_of_getElem? (i := 26) rfl))) (ty := .long) (by decide)
            have F319_holdsHead : Fld Z h319 b319 "com/example/grantd/grantd/front/Places$Waiting" "holdsHead" "Z" (.int (0 : Int32)) := D319 (Or.inr (hw _ (List.mem_of_getElem? (i := 28) rfl))) (ty := .boolean) (by decide)
            have G319 : n0 ≤ b319 := (Nat.le_trans Z0 (Nat.le_of_eq g319.symm))
            have Z319 : n0 ≤ h319.size := Nat.le_trans Z0 E319.1
            obtain ⟨_, _, ⟨T320, L320, k320, n320⟩, -, X320, ⟨Lc320, hQ320, l320, y320, z320⟩, st320⟩ := X319.specialBack hx (y := (⟨"com/example/grantd/grantd/front/Places$Waiting", "<init>", "(Ljava/lang/Object;JJZ)V"⟩ : MethodName)) rfl hown (mvT hZ (hw _ (List.mem_of_getElem? (i := 10) rfl))) (mvT hZ (hw _ (List.mem_of_getElem? (i := 11) rfl))) (mvT hZ (hw _ (List.mem_of_getElem? (i := 12) rfl))) (by decide) (backOf (W := 1) (rm17 l Z a0 hw [] b319 b318 x0 h319 n0 Z319 A319 F319_connection G319 F319_closableFrom F319_firstServed F319_holdsHead) hZ (hw _ (List.mem_of_getElem? (i := 12) rfl)) (hw _ (List.mem_of_getElem? (i := 9) rfl)) (by decide) (by decide)) (g := (mkF m 59 #[.val (.long x0), .second, .val (.long x1), .second, .val (.int x2), .val (.int (1 : Int32)), .val (.long (9223372036854775807 : Int64)), .second, .val (.ref b318), .unset, .unset] [(.int (1 : Int32)), (.long (9223372036854775807 : Int64)), (.long x0), (.ref b318), (.ref b319), (.ref b319)])) rfl (by rw [hml]; rfl) (Steps.refl _) (a := b319) (argsL := [(.ref b318), (.long x0), (.long (9223372036854775807 : Int64)), (.int (1 : Int32))]) (rest := [(.ref b319)]) (lenOf pd_3 rfl) rfl (by show 2 * 0 + _ ≤ _; exact Nat.le_of_eq rfl) (hb hby at_59) (fun _ _ => ⟨rfl, e319, (by decide : 1 + 0 ≤ _), (by decide : 4 + 0 ≤ _)⟩)
            dsimp only [Pt.U, Pt.locs, Pt.cells, Pt.slots] at X320 l320 y320 z320 st320 hQ320
            subst l320 y320 z320
            obtain ⟨rfl, N320q, h321, W321, h322, W322, h323, W323, h324, W324, e320⟩ := hQ320
            have N320 := Fr.app N318 N320q
            have Z321 : n0 ≤ h321.size := Nat.le_trans Z319 (Nat.le_of_eq W321.size.symm)
            have Fw321 := Fld.same W321 F319_connection
            have f325 : Exa Z h321 b319 "com/example/grantd/grantd/front/Places$Waiting" := (A319.wr W321)
            have f326 : Fld Z h321 b319 "com/example/grantd/grantd/front/Places$Waiting" "closableFrom" "J" (.long (0 : Int64)) := (F319_closableFrom.other W321 (Or.inr (slot_ne (Or.inr (hw _ (List.mem_of_getElem? (i := 24) rfl))) (Or.inr (hw _ (List.mem_of_getElem? (i := 22) rfl))) (by decide) (t := .long) (t' := (.object "java/lang/Object")) (by decide) (by decide))))
            have Z322 : n0 ≤ h322.size := Nat.le_trans Z321 (Nat.le_of_eq W322.size.symm)
            have Fw322 := Fld.same W322 f326
            have f327 : Exa Z h322 b319 "com/example/grantd/grantd/front/Places$Waiting" := (f325.wr W322)
            have f328 : Fld Z h322 b319 "com/example/grantd/grantd/front/Places$Waiting" "firstServed" "J" (.long (0 : Int64)) := ((F319_firstServed.other W321 (Or.inr (slot_ne (Or.inr (hw _ (List.mem_of_getElem? (i := 26) rfl))) (Or.inr (hw _ (List.mem_of_getElem? (i := 22) rfl))) (by decide) (t := .long) (t' := (.object "java/lang/Object")) (by decide) (by decide)))).other W322 (Or.inr (slot_ne (Or.inr (hw _ (List.mem_of_getElem? (i := 26) rfl))) (Or.inr (hw _ (List.mem_of_getElem? (i := 24) rfl))) (by decide) (t := .long) (t' := .long) (by decide) (by decide))))
            have Z323 : n0 ≤ h323.size := Nat.le_trans Z322 (Nat.le_of_eq W323.size.symm)
            have Fw323 := Fld.same W323 f328
            have f329 : Exa Z h323 b319 "com/example/grantd/grantd/front/Places$Waiting" := (f327.wr W323)
            have f330 : Fld Z h323 b319 "com/example/grantd/grantd/front/Places$Waiting" "holdsHead" "Z" (.int (0 : Int32)) := (((F319_holdsHead.other W321 (Or.inr (slot_ne (Or.inr (hw _ (List.mem_of_getElem? (i := 28) rfl))) (Or.inr (hw _ (List.mem_of_getElem? (i := 22) rfl))) (by decide) (t := .boolean) (t' := (.object "java/lang/Object")) (by decide) (by decide)))).other W322 (Or.inr (slot_ne (Or.inr (hw _ (List.mem_of_getElem? (i := 28) rfl))) (Or.inr (hw _ (List.mem_of_getElem? (i := 24) rfl))) (by decide) (t := .boolean) (t' := .long) (by decide) (by decide)))).other W323 (Or.inr (slot_ne (Or.inr (hw _ (List.mem_of_getElem? (i := 28) rfl))) (Or.inr (hw _ (List.mem_of_getElem? (i := 26) rfl))) (by decide) (t := .boolean) (t' := .long) (by decide) (by decide))))
            have Z324 : n0 ≤ h324.size := Nat.le_trans Z323 (Nat.le_of_eq W324.size.symm)
            have Fw324 := Fld.same W324 f330
            have f331 : Exa Z h324 b319 "com/example/grantd/grantd/front/Places$Waiting" := (f329.wr W324)
            have f332 : Fld Z h324 b319 "com/example/grantd/grantd/front/Places$Waiting" "firstServed" "J" (.long (9223372036854775807 : Int64)) := (Fw323.other W324 (Or.inr (slot_ne (Or.inr (hw _ (List.mem_of_getElem? (i := 26) rfl))) (Or.inr (hw _ (List.mem_of_getElem? (i := 28) rfl))) (by decide) (t := .long) (t' := .boolean) (by decide) (by decide))))
            obtain ⟨cq333, kq333, q333a, q333b, q333c⟩ := isOf hZ e320 f331
            obtain ⟨_, _, ⟨T333, L333, k333, n333⟩, -, X333, ⟨Lc333, hQ333, l333, y333, z333⟩, st333⟩ := X320.virtualBack hx (y := (⟨"com/example/grantd/grantd/front/Places$Waiting", "isBetweenRequests", "()Z"⟩ : MethodName)) (z := (⟨"com/example/grantd/grantd/front/Places$Waiting", "isBetweenRequests", "()Z"⟩ : MethodName)) hown (mvT hZ (hw _ (List.mem_of_getElem? (i := 30) rfl))) (mvT hZ (hw _ (List.mem_of_getElem? (i := 31) rfl))) (notFace_of_selects (args := #[]) (mvT hZ (hw _ (List.mem_of_getElem? (i := 33) rfl)))) (mvT hZ (hw _ (List.mem_of_getElem? (i := 33) rfl))) (mvT hZ (hw _ (List.mem_of_getElem? (i := 32) rfl))) (by decide) (backOf (W := 0) (rm12 l Z a0 hw [] b319 h324 n0 Z324 f332) hZ (hw _ (List.mem_of_getElem? (i := 34) rfl)) (hw _ (List.mem_of_getElem? (i := 9) rfl)) (by decide) (by decide)) q333a q333c (g := (mkF m 95 #[.val (.long x0), .second, .val (.long x1), .second, .val (.int x2), .val (.int (1 : Int32)), .val (.long (9223372036854775807 : Int64)), .second, .val (.ref b318), .val (.ref b319), .val (.int (0 : Int32))] [(.ref b319)])) rfl (by rw [hml]; rfl) (Steps.refl _) (argsL := []) (rest := []) (lenOf pd_4 rfl) rfl (by show 2 * 0 + _ ≤ _; exact Nat.le_of_eq rfl) (hb hby at_95) (fun _ _ => ⟨rfl, e320, (by decide : 1 + 0 ≤ _), (by decide : 4 + 0 ≤ _)⟩)
            dsimp only [Pt.U, Pt.locs, Pt.cells, Pt.slots] at X333 l333 y333 z333 st333 hQ333
            subst l333 y333 z333
            obtain ⟨rfl, N333q, e333⟩ := hQ333
            have N333 := Fr.app N320 N333q
            have pre334 : ∀ t, Steps p.tables e below (T333.setTop (mkF m 108 #[.val (.long x0), .second, .val (.long x1), .second, .val (.int x2), .val (.int (1 : Int32)), .val (.long (9223372036854775807 : Int64)), .second, .val (.ref b318), .val (.ref b319), .val (.int (0 : Int32))] [(.int (1 : Int32))])) t → Steps p.tables e below (s₁.setTop (entryFrame m #[(.long x0), (.long x1), (.int x2)] maxLocals)) t := fun t kk => pre277 t (by
              show Steps p.tables e below (s₁.setTop (mkF m 43 #[.val (.long x0), .second, .val (.long x1), .second, .val (.int x2), .val (.int (1 : Int32)), .val (.long (9223372036854775807 : Int64)), .second, .unset, .unset, .unset] [(.int x2)])) _
              refine st318 _ ?_
              show Steps p.tables e below (T318.setTop (mkF m 46 #[.val (.long x0), .second, .val (.long x1), .second, .val (.int x2), .val (.int (1 : Int32)), .val (.long (9223372036854775807 : Int64)), .second, .unset, .unset, .unset] [(.ref b318)])) _
              refine XS.astore X318.here hx rfl (hb hby at_46) rfl rfl (l' := #[.val (.long x0), .second, .val (.long x1), .second, .val (.int x2), .val (.int (1 : Int32)), .val (.long (9223372036854775807 : Int64)), .second, .val (.ref b318), .unset, .unset]) rfl ?_
              show Steps p.tables e below (T318.setTop (mkF m 48 #[.val (.long x0), .second, .val (.long x1), .second, .val (.int x2), .val (.int (1 : Int32)), .val (.long (9223372036854775807 : Int64)), .second, .val (.ref b318), .unset, .unset] [])) _
              refine st319 _ ?_
              show Steps p.tables e below (T319.setTop (mkF m 51 #[.val (.long x0), .second, .val (.long x1), .second, .val (.int x2), .val (.int (1 : Int32)), .val (.long (9223372036854775807 : Int64)), .second, .val (.ref b318), .unset, .unset] [(.ref b319)])) _
              refine XS.dup X319.here hx rfl (hb hby at_51) rfl rfl ?_
              show Steps p.tables e below (T319.setTop (mkF m 52 #[.val (.long x0), .second, .val (.long x1), .second, .val (.int x2), .val (.int (1 : Int32)), .val (.long (9223372036854775807 : Int64)), .second, .val (.ref b318), .unset, .unset] [(.ref b319), (.ref b319)])) _
              refine XS.aload X319.here hx rfl (hb hby at_52) rfl rfl ?_
              show Steps p.tables e below (T319.setTop (mkF m 54 #[.val (.long x0), .second, .val (.long x1), .second, .val (.int x2), .val (.int (1 : Int32)), .val (.long (9223372036854775807 : Int64)), .second, .val (.ref b318), .unset, .unset] [(.ref b318), (.ref b319), (.ref b319)])) _
              refine XS.lloadN X319.here hx rfl (hb hby at_54) rfl ?_
              show Steps p.tables e below (T319.setTop (mkF m 55 #[.val (.long x0), .second, .val (.long x1), .second, .val (.int x2), .val (.int (1 : Int32)), .val (.long (9223372036854775807 : Int64)), .second, .val (.ref b318), .unset, .unset] [(.long x0), (.ref b318), (.ref b319), (.ref b319)])) _
              refine XS.lload X319.here hx rfl (hb hby at_55) rfl ?_
              show Steps p.tables e below (T319.setTop (mkF m 57 #[.val (.long x0), .second, .val (.long x1), .second, .val (.int x2), .val (.int (1 : Int32)), .val (.long (9223372036854775807 : Int64)), .second, .val (.ref b318), .unset, .unset] [(.long (9223372036854775807 : Int64)), (.long x0), (.ref b318), (.ref b319), (.ref b319)])) _
              refine XS.iload X319.here hx rfl (hb hby at_57) rfl ?_
              show Steps p.tables e below (T319.setTop (mkF m 59 #[.val (.long x0), .second, .val (.long x1), .second, .val (.int x2), .val (.int (1 : Int32)), .val (.long (9223372036854775807 : Int64)), .second, .val (.ref b318), .unset, .unset] [(.int (1 : Int32)), (.long (9223372036854775807 : Int64)), (.long x0), (.ref b318), (.ref b319), (.ref b319)])) _
              refine st320.trans ?_
              show Steps p.tables e below (T320.setTop (mkF m 62 #[.val (.long x0), .second, .val (.long x1), .second, .val (.int x2), .val (.int (1 : Int32)), .val (.long (9223372036854775807 : Int64)), .second, .val (.ref b318), .unset, .unset] [(.ref b319)])) _
              refine XS.astore X320.here hx rfl (hb hby at_62) rfl rfl (l' := #[.val (.long x0), .second, .val (.long x1), .second, .val (.int x2), .val (.int (1 : Int32)), .val (.long (9223372036854775807 : Int64)), .second, .val (.ref b318), .val (.ref b319), .unset]) rfl ?_
              show Steps p.tables e below (T320.setTop (mkF m 64 #[.val (.long x0), .second, .val (.long x1), .second, .val (.int x2), .val (.int (1 : Int32)), .val (.long (9223372036854775807 : Int64)), .second, .val (.ref b318), .val (.ref b319), .unset] [])) _
              refine XS.iload X320.here hx rfl (hb hby at_64) rfl ?_
              show Steps p.tables e below (T320.setTop (mkF m 66 #[.val (.long x0), .second, .val (.long x1), .second, .val (.int x2), .val (.int (1 : Int32)), .val (.long (9223372036854775807 : Int64)), .second, .val (.ref b318), .val (.ref b319), .unset] [(.int (1 : Int32))])) _
              refine XS.ifNo X320.here hx rfl (hb hby at_66) rfl ((if0 _ _).trans (feq ((by decide) : ¬ ((1 : Int32) = (0 : Int32)))).1) ?_
              show Steps p.tables e below (T320.setTop (mkF m 69 #[.val (.long x0), .second, .val (.long x1), .second, .val (.int x2), .val (.int (1 : Int32)), .val (.long (9223372036854775807 : Int64)), .second, .val (.ref b318), .val (.ref b319), .unset] [])) _
              refine XS.iconst X320.here hx rfl (hb hby at_69) ?_
              show Steps p.tables e below (T320.setTop (mkF m 70 #[.val (.long x0), .second, .val (.long x1), .second, .val (.int x2), .val (.int (1 : Int32)), .val (.long (9223372036854775807 : Int64)), .second, .val (.ref b318), .val (.ref b319), .unset] [(.int (0 : Int32))])) _
              refine XS.istore X320.here hx rfl (hb hby at_70) rfl (l' := #[.val (.long x0), .second, .val (.long x1), .second, .val (.int x2), .val (.int (1 : Int32)), .val (.long (9223372036854775807 : Int64)), .second, .val (.ref b318), .val (.ref b319), .val (.int (0 : Int32))]) rfl ?_
              show Steps p.tables e below (T320.setTop (mkF m 72 #[.val (.long x0), .second, .val (.long x1), .second, .val (.int x2), .val (.int (1 : Int32)), .val (.long (9223372036854775807 : Int64)), .second, .val (.ref b318), .val (.ref b319), .val (.int (0 : Int32))] [])) _
              refine XS.goto X320.here hx rfl (pc0 := 72) (pc' := 93) rfl (hb hby at_72) (by decide) (by decide) ?_
              show Steps p.tables e below (T320.setTop (mkF m 93 #[.val (.long x0), .second, .val (.long x1), .second, .val (.int x2), .val (.int (1 : Int32)), .val (.long (9223372036854775807 : Int64)), .second, .val (.ref b318), .val (.ref b319), .val (.int (0 : Int32))] [])) _
              refine XS.aload X320.here hx rfl (hb hby at_93) rfl rfl ?_
              show Steps p.tables e below (T320.setTop (mkF m 95 #[.val (.long x0), .second, .val (.long x1), .second, .val (.int x2), .val (.int (1 : Int32)), .val (.long (9223372036854775807 : Int64)), .second, .val (.ref b318), .val (.ref b319), .val (.int (0 : Int32))] [(.ref b319)])) _
              refine st333.trans ?_
              show Steps p.tables e below (T333.setTop (mkF m 98 #[.val (.long x0), .second, .val (.long x1), .second, .val (.int x2), .val (.int (1 : Int32)), .val (.long (9223372036854775807 : Int64)), .second, .val (.ref b318), .val (.ref b319), .val (.int (0 : Int32))] [(.int (0 : Int32))])) _
              refine XS.iload X333.here hx rfl (hb hby at_98) rfl ?_
              show Steps p.tables e below (T333.setTop (mkF m 100 #[.val (.long x0), .second, .val (.long x1), .second, .val (.int x2), .val (.int (1 : Int32)), .val (.long (9223372036854775807 : Int64)), .second, .val (.ref b318), .val (.ref b319), .val (.int (0 : Int32))] [(.int (0 : Int32)), (.int (0 : Int32))])) _
              refine XS.icmpNo X333.here hx rfl (hb hby at_100) rfl (teq ((by decide) : (0 : Int32) = (0 : Int32))).2 ?_
              show Steps p.tables e below (T333.setTop (mkF m 103 #[.val (.long x0), .second, .val (.long x1), .second, .val (.int x2), .val (.int (1 : Int32)), .val (.long (9223372036854775807 : Int64)), .second, .val (.ref b318), .val (.ref b319), .val (.int (0 : Int32))] [])) _
              refine XS.iconst X333.here hx rfl (hb hby at_103) ?_
              show Steps p.tables e below (T333.setTop (mkF m 104 #[.val (.long x0), .second, .val (.long x1), .second, .val (.int x2), .val (.int (1 : Int32)), .val (.long (9223372036854775807 : Int64)), .second, .val (.ref b318), .val (.ref b319), .val (.int (0 : Int32))] [(.int (1 : Int32))])) _
              refine XS.goto X333.here hx rfl (pc0 := 104) (pc' := 108) rfl (hb hby at_104) (by decide) (by decide) ?_
              exact kk)
            obtain ⟨fs, hr, hrun, hended, hW, hsame⟩ := X333.leave (v := some (.int (1 : Int32))) (fun h => by rw [Bd.returns] at h; cases h)
            refine ⟨_, _, pre334 _ ?_, hrun, hended, _, _, rfl, ?_, ⟨_, rfl⟩, hW, hsame.mono (by decide) (by decide)⟩
            · exact retN X333 hx (t := .boolean) Bd.returns (by simp) (hb hby at_108) hr
            · exact ⟨rfl, N333⟩
      ·
        obtain ⟨T335, h335, X335, e335, E335, A335, D335, -, st335⟩ := newO X0 hx hZ hown (hw _ (List.mem_of_getElem? (i := 7) rfl)) (hw _ (List.mem_of_getElem? (i := 8) rfl)) (hw _ (List.mem_of_getElem? (i := 9) rfl)) e0 (g := (mkF m 48 #[.val (.long x0), .second, .val (.long x1), .second, .val (.int x2), .val (.int (1 : Int32)), .val (.long (9223372036854775807 : Int64)), .second, .val .null, .unset, .unset] [])) rfl (hb hby at_48) (by decide) (by decide)
        obtain ⟨b335, g335⟩ : ∃ z, z = h0.size := ⟨_, rfl⟩
        rw [← g335] at A335 D335 st335
        have F335_connection : Fld Z h335 b335 "com/example/grantd/grantd/front/Places$Waiting" "connection" "Ljava/lang/Object;" .null := D335 (Or.inr (hw _ (List.mem_of_getElem? (i := 22) rfl))) (ty := (.object "java/lang/Object")) (by decide)
        have F335_closableFrom : Fld Z h335 b335 "com/example/grantd/grantd/front/Places$Waiting" "closableFrom" "J" (.long (0 : Int64)) := D335 (Or.inr (hw _ (List.mem_of_getElem? (i := 24) rfl))) (ty := .long) (by decide)
        have F335_firstServed : Fld Z h335 b335 "com/example/grantd/grantd/front/Places$Waiting" "firstServed" "J" (.long (0 : Int64)) := D335 (Or.inr (hw _ (List.mem_of_getElem? (i := 26) rfl))) (ty := .long) (by decide)
        have F335_holdsHead : Fld Z h335 b335 "com/example/grantd/grantd/front/Places$Waiting" "holdsHead" "Z" (.int (0 : Int32)) := D335 (Or.inr (hw _ (List.mem_of_getElem? (i := 28) rfl))) (ty := .boolean) (by decide)
        have G335 : n0 ≤ b335 := (Nat.le_trans Z0 (Nat.le_of_eq g335.symm))
        have Z335 : n0 ≤ h335.size := Nat.le_trans Z0 E335.1
        obtain ⟨_, _, ⟨T336, L336, k336, n336⟩, -, X336, ⟨Lc336, hQ336, l336, y336, z336⟩, st336⟩ := X335.specialBack hx (y := (⟨"com/example/grantd/grantd/front/Places$Waiting", "<init>", "(Ljava/lang/Object;JJZ)V"⟩ : MethodName)) rfl hown (mvT hZ (hw _ (List.mem_of_getElem? (i := 10) rfl))) (mvT hZ (hw _ (List.mem_of_getElem? (i := 11) rfl))) (mvT hZ (hw _ (List.mem_of_getElem? (i := 12) rfl))) (by decide) (backOf (W := 1) (rm18 l Z a0 hw [] b335 x0 h335 n0 Z335 A335 F335_connection G335 F335_closableFrom F335_firstServed F335_holdsHead) hZ (hw _ (List.mem_of_getElem? (i := 12) rfl)) (hw _ (List.mem_of_getElem? (i := 9) rfl)) (by decide) (by decide)) (g := (mkF m 59 #[.val (.long x0), .second, .val (.long x1), .second, .val (.int x2), .val (.int (1 : Int32)), .val (.long (9223372036854775807 : Int64)), .second, .val .null, .unset, .unset] [(.int (1 : Int32)), (.long (9223372036854775807 : Int64)), (.long x0), .null, (.ref b335), (.ref b335)])) rfl (by rw [hml]; rfl) (Steps.refl _) (a := b335) (argsL := [.null, (.long x0), (.long (9223372036854775807 : Int64)), (.int (1 : Int32))]) (rest := [(.ref b335)]) (lenOf pd_3 rfl) rfl (by show 2 * 0 + _ ≤ _; exact Nat.le_of_eq rfl) (hb hby at_59) (fun _ _ => ⟨rfl, e335, (by decide : 1 + 0 ≤ _), (by decide : 4 + 0 ≤ _)⟩)
        dsimp only [Pt.U, Pt.locs, Pt.cells, Pt.slots] at X336 l336 y336 z336 st336 hQ336
        subst l336 y336 z336
        obtain ⟨rfl, N336q, h337, W337, h338, W338, h339, W339, h340, W340, e336⟩ := hQ336
        have N336 := Fr.app N0 N336q
        have Z337 : n0 ≤ h337.size := Nat.le_trans Z335 (Nat.le_of_eq W337.size.symm)
        have Fw337 := Fld.same W337 F335_connection
        have f341 : Exa Z h337 b335 "com/example/grantd/grantd/front/Places$Waiting" := (A335.wr W337)
        have f342 : Fld Z h337 b335 "com/example/grantd/grantd/front/Places$Waiting" "closableFrom" "J" (.long (0 : Int64)) := (F335_closableFrom.other W337 (Or.inr (slot_ne (Or.inr (hw _ (List.mem_of_getElem? (i := 24) rfl))) (Or.inr (hw _ (List.mem_of_getElem? (i := 22) rfl))) (by decide) (t := .long) (t' := (.object "java/lang/Object")) (by decide) (by decide))))
        have Z338 : n0 ≤ h338.size := Nat.le_trans Z337 (Nat.le_of_eq W338.size.symm)
        have Fw338 := Fld.same W338 f342
        have f343 : Exa Z h338 b335 "com/example/grantd/grantd/front/Places$Waiting" := (f341.wr W338)
        have f344 : Fld Z h338 b335 "com/example/grantd/grantd/front/Places$Waiting" "firstServed" "J" (.long (0 : Int64)) := ((F335_firstServed.other W337 (Or.inr (slot_ne (Or.inr (hw _ (List.mem_of_getElem? (i := 26) rfl))) (Or.inr (hw _ (List.mem_of_getElem? (i := 22) rfl))) (by decide) (t := .long) (t' := (.object "java/lang/Object")) (by decide) (by decide)))).other W338 (Or.inr (slot_ne (Or.inr (hw _ (List.mem_of_getElem? (i := 26) rfl))) (Or.inr (hw _ (List.mem_of_getElem? (i := 24) rfl))) (by decide) (t := .long) (t' := .long) (by decide) (by decide))))
        have Z339 : n0 ≤ h339.size := Nat.le_trans Z338 (Nat.le_of_eq W339.size.symm)
        have Fw339 := Fld.same W339 f344
        have f345 : Exa Z h339 b335 "com/example/grantd/grantd/front/Places$Waiting" := (f343.wr W339)
        have f346 : Fld Z h339 b335 "com/example/grantd/grantd/front/Places$Waiting" "holdsHead" "Z" (.int (0 : Int32)) := (((F335_holdsHead.other W337 (Or.inr (slot_ne (Or.inr (hw _ (List.mem_of_getElem? (i := 28) rfl))) (Or.inr (hw _ (List.mem_of_getElem? (i := 22) rfl))) (by decide) (t := .boolean) (t' := (.object "java/lang/Object")) (by decide) (by decide)))).other W338 (Or.inr (slot_ne (Or.inr (hw _ (List.mem_of_getElem? (i := 28) rfl))) (Or.inr (hw _ (List.mem_of_getElem? (i := 24) rfl))) (by decide) (t := .boolean) (t' := .long) (by decide) (by decide)))).other W339 (Or.inr (slot_ne (Or.inr (hw _ (List.mem_of_getElem? (i := 28) rfl))) (Or.inr (hw _ (List.mem_of_getElem? (i := 26) rfl))) (by decide) (t := .boolean) (t' := .long) (by decide) (by decide))))
        have Z340 : n0 ≤ h340.size := Nat.le_trans Z339 (Nat.le_of_eq W340.size.symm)
        have Fw340 := Fld.same W340 f346
        have f347 : Exa Z h340 b335 "com/example/grantd/grantd/front/Places$Waiting" := (f345.wr W340)
        have f348 : Fld Z h340 b335 "com/example/grantd/grantd/front/Places$Waiting" "firstServed" "J" (.long (9223372036854775807 : Int64)) := (Fw339.other W340 (Or.inr (slot_ne (Or.inr (hw _ (List.mem_of_getElem? (i := 26) rfl))) (Or.inr (hw _ (List.mem_of_getElem? (i := 28) rfl))) (by decide) (t := .long) (t' := .boolean) (by decide) (by decide))))
        obtain ⟨cq349, kq349, q349a, q349b, q349c⟩ := isOf hZ e336 f347
        obtain ⟨_, _, ⟨T349, L349, k349, n349⟩, -, X349, ⟨Lc349, hQ349, l349, y349, z349⟩, st349⟩ := X336.virtualBack hx (y := (⟨"com/example/grantd/grantd/front/Places$Waiting", "isBetweenRequests", "()Z"⟩ : MethodName)) (z := (⟨"com/example/grantd/grantd/front/Places$Waiting", "isBetweenRequests", "()Z"⟩ : MethodName)) hown (mvT hZ (hw _ (List.mem_of_getElem? (i := 30) rfl))) (mvT hZ (hw _ (List.mem_of_getElem? (i := 31) rfl))) (notFace_of_selects (args := #[]) (mvT hZ (hw _ (List.mem_of_getElem? (i := 33) rfl)))) (mvT hZ (hw _ (List.mem_of_getElem? (i := 33) rfl))) (mvT hZ (hw _ (List.mem_of_getElem? (i := 32) rfl))) (by decide) (backOf (W := 0) (rm12 l Z a0 hw [] b335 h340 n0 Z340 f348) hZ (hw _ (List.mem_of_getElem? (i := 34) rfl)) (hw _ (List.mem_of_getElem? (i := 9) rfl)) (by decide) (by decide)) q349a q349c (g := (mkF m 95 #[.val (.long x0), .second, .val (.long x1), .second, .val (.int x2), .val (.int (1 : Int32)), .val (.long (9223372036854775807 : Int64)), .second, .val .null, .val (.ref b335), .val (.int (0 : Int32))] [(.ref b335)])) rfl (by rw [hml]; rfl) (Steps.refl _) (argsL := []) (rest := []) (lenOf pd_4 rfl) rfl (by show 2 * 0 + _ ≤ _; exact Nat.le_of_eq rfl) (hb hby at_95) (fun _ _ => ⟨rfl, e336, (by decide : 1 + 0 ≤ _), (by decide : 4 + 0 ≤ _)⟩)
        dsimp only [Pt.U, Pt.locs, Pt.cells, Pt.slots] at X349 l349 y349 z349 st349 hQ349
        subst l349 y349 z349
        obtain ⟨rfl, N349q, e349⟩ := hQ349
        have N349 := Fr.app N336 N349q
        have pre350 : ∀ t, Steps p.tables e below (T349.setTop (mkF m 108 #[.val (.long x0), .second, .val (.long x1), .second, .val (.int x2), .val (.int (1 : Int32)), .val (.long (9223372036854775807 : Int64)), .second, .val .null, .val (.ref b335), .val (.int (0 : Int32))] [(.int (1 : Int32))])) t → Steps p.tables e below (s₁.setTop (entryFrame m #[(.long x0), (.long x1), (.int x2)] maxLocals)) t := fun t kk => pre275 t (by
          show Steps p.tables e below (s₁.setTop (mkF m 34 #[.val (.long x0), .second, .val (.long x1), .second, .val (.int x2), .val (.int (1 : Int32)), .val (.long (9223372036854775807 : Int64)), .second, .unset, .unset, .unset] [(.int (x2 &&& (4 : Int32)))])) _
          refine XS.ifNo X0.here hx rfl (hb hby at_34) rfl ((if0 _ _).trans (feq (hc276 : ¬ ((x2 &&& (4 : Int32)) = (0 : Int32)))).1) ?_
          show Steps p.tables e below (s₁.setTop (mkF m 37 #[.val (.long x0), .second, .val (.long x1), .second, .val (.int x2), .val (.int (1 : Int32)), .val (.long (9223372036854775807 : Int64)), .second, .unset, .unset, .unset] [])) _
          refine XS.aconstNull X0.here hx rfl (hb hby at_37) ?_
          show Steps p.tables e below (s₁.setTop (mkF m 38 #[.val (.long x0), .second, .val (.long x1), .second, .val (.int x2), .val (.int (1 : Int32)), .val (.long (9223372036854775807 : Int64)), .second, .unset, .unset, .unset] [.null])) _
          refine XS.goto X0.here hx rfl (pc0 := 38) (pc' := 46) rfl (hb hby at_38) (by decide) (by decide) ?_
          show Steps p.tables e below (s₁.setTop (mkF m 46 #[.val (.long x0), .second, .val (.long x1), .second, .val (.int x2), .val (.int (1 : Int32)), .val (.long (9223372036854775807 : Int64)), .second, .unset, .unset, .unset] [.null])) _
          refine XS.astore X0.here hx rfl (hb hby at_46) rfl rfl (l' := #[.val (.long x0), .second, .val (.long x1), .second, .val (.int x2), .val (.int (1 : Int32)), .val (.long (9223372036854775807 : Int64)), .second, .val .null, .unset, .unset]) rfl ?_
          show Steps p.tables e below (s₁.setTop (mkF m 48 #[.val (.long x0), .second, .val (.long x1), .second, .val (.int x2), .val (.int (1 : Int32)), .val (.long (9223372036854775807 : Int64)), .second, .val .null, .unset, .unset] [])) _
          refine st335 _ ?_
          show Steps p.tables e below (T335.setTop (mkF m 51 #[.val (.long x0), .second, .val (.long x1), .second, .val (.int x2), .val (.int (1 : Int32)), .val (.long (9223372036854775807 : Int64)), .second, .val .null, .unset, .unset] [(.ref b335)])) _
          refine XS.dup X335.here hx rfl (hb hby at_51) rfl rfl ?_
          show Steps p.tables e below (T335.setTop (mkF m 52 #[.val (.long x0), .second, .val (.long x1), .second, .val (.int x2), .val (.int (1 : Int32)), .val (.long (9223372036854775807 : Int64)), .second, .val .null, .unset, .unset] [(.ref b335), (.ref b335)])) _
          refine XS.aload X335.here hx rfl (hb hby at_52) rfl rfl ?_
          show Steps p.tables e below (T335.setTop (mkF m 54 #[.val (.long x0), .second, .val (.long x1), .second, .val (.int x2), .val (.int (1 : Int32)), .val (.long (9223372036854775807 : Int64)), .second, .val .null, .unset, .unset] [.null, (.ref b335), (.ref b335)])) _
          refine XS.lloadN X335.here hx rfl (hb hby at_54) rfl ?_
          show Steps p.tables e below (T335.setTop (mkF m 55 #[.val (.long x0), .second, .val (.long x1), .second, .val (.int x2), .val (.int (1 : Int32)), .val (.long (9223372036854775807 : Int64)), .second, .val .null, .unset, .unset] [(.long x0), .null, (.ref b335), (.ref b335)])) _
          refine XS.lload X335.here hx rfl (hb hby at_55) rfl ?_
          show Steps p.tables e below (T335.setTop (mkF m 57 #[.val (.long x0), .second, .val (.long x1), .second, .val (.int x2), .val (.int (1 : Int32)), .val (.long (9223372036854775807 : Int64)), .second, .val .null, .unset, .unset] [(.long (9223372036854775807 : Int64)), (.long x0), .null, (.ref b335), (.ref b335)])) _
          refine XS.iload X335.here hx rfl (hb hby at_57) rfl ?_
          show Steps p.tables e below (T335.setTop (mkF m 59 #[.val (.long x0), .second, .val (.long x1), .second, .val (.int x2), .val (.int (1 : Int32)), .val (.long (9223372036854775807 : Int64)), .second, .val .null, .unset, .unset] [(.int (1 : Int32)), (.long (9223372036854775807 : Int64)), (.long x0), .null, (.ref b335), (.ref b335)])) _
          refine st336.trans ?_
          show Steps p.tables e below (T336.setTop (mkF m 62 #[.val (.long x0), .second, .val (.long x1), .second, .val (.int x2), .val (.int (1 : Int32)), .val (.long (9223372036854775807 : Int64)), .second, .val .null, .unset, .unset] [(.ref b335)])) _
          refine XS.astore X336.here hx rfl (hb hby at_62) rfl rfl (l' := #[.val (.long x0), .second, .val (.long x1), .second, .val (.int x2), .val (.int (1 : Int32)), .val (.long (9223372036854775807 : Int64)), .second, .val .null, .val (.ref b335), .unset]) rfl ?_
          show Steps p.tables e below (T336.setTop (mkF m 64 #[.val (.long x0), .second, .val (.long x1), .second, .val (.int x2), .val (.int (1 : Int32)), .val (.long (9223372036854775807 : Int64)), .second, .val .null, .val (.ref b335), .unset] [])) _
          refine XS.iload X336.here hx rfl (hb hby at_64) rfl ?_
          show Steps p.tables e below (T336.setTop (mkF m 66 #[.val (.long x0), .second, .val (.long x1), .second, .val (.int x2), .val (.int (1 : Int32)), .val (.long (9223372036854775807 : Int64)), .second, .val .null, .val (.ref b335), .unset] [(.int (1 : Int32))])) _
          refine XS.ifNo X336.here hx rfl (hb hby at_66) rfl ((if0 _ _).trans (feq ((by decide) : ¬ ((1 : Int32) = (0 : Int32)))).1) ?_
          show Steps p.tables e below (T336.setTop (mkF m 69 #[.val (.long x0), .second, .val (.long x1), .second, .val (.int x2), .val (.int (1 : Int32)), .val (.long (9223372036854775807 : Int64)), .second, .val .null, .val (.ref b335), .unset] [])) _
          refine XS.iconst X336.here hx rfl (hb hby at_69) ?_
          show Steps p.tables e below (T336.setTop (mkF m 70 #[.val (.long x0), .second, .val (.long x1), .second, .val (.int x2), .val (.int (1 : Int32)), .val (.long (9223372036854775807 : Int64)), .second, .val .null, .val (.ref b335), .unset] [(.int (0 : Int32))])) _
          refine XS.istore X336.here hx rfl (hb hby at_70) rfl (l' := #[.val (.long x0), .second, .val (.long x1), .second, .val (.int x2), .val (.int (1 : Int32)), .val (.long (9223372036854775807 : Int64)), .second, .val .null, .val (.ref b335), .val (.int (0 : Int32))]) rfl ?_
          show Steps p.tables e below (T336.setTop (mkF m 72 #[.val (.long x0), .second, .val (.long x1), .second, .val (.int x2), .val (.int (1 : Int32)), .val (.long (9223372036854775807 : Int64)), .second, .val .null, .val (.ref b335), .val (.int (0 : Int32))] [])) _
          refine XS.goto X336.here hx rfl (pc0 := 72) (pc' := 93) rfl (hb hby at_72) (by decide) (by decide) ?_
          show Steps p.tables e below (T336.setTop (mkF m 93 #[.val (.long x0), .second, .val (.long x1), .second, .val (.int x2), .val (.int (1 : Int32)), .val (.long (9223372036854775807 : Int64)), .second, .val .null, .val (.ref b335), .val (.int (0 : Int32))] [])) _
          refine XS.aload X336.here hx rfl (hb hby at_93) rfl rfl ?_
          show Steps p.tables e below (T336.setTop (mkF m 95 #[.val (.long x0), .second, .val (.long x1), .second, .val (.int x2), .val (.int (1 : Int32)), .val (.long (9223372036854775807 : Int64)), .second, .val .null, .val (.ref b335), .val (.int (0 : Int32))] [(.ref b335)])) _
          refine st349.trans ?_
          show Steps p.tables e below (T349.setTop (mkF m 98 #[.val (.long x0), .second, .val (.long x1), .second, .val (.int x2), .val (.int (1 : Int32)), .val (.long (9223372036854775807 : Int64)), .second, .val .null, .val (.ref b335), .val (.int (0 : Int32))] [(.int (0 : Int32))])) _
          refine XS.iload X349.here hx rfl (hb hby at_98) rfl ?_
          show Steps p.tables e below (T349.setTop (mkF m 100 #[.val (.long x0), .second, .val (.long x1), .second, .val (.int x2), .val (.int (1 : Int32)), .val (.long (9223372036854775807 : Int64)), .second, .val .null, .val (.ref b335), .val (.int (0 : Int32))] [(.int (0 : Int32)), (.int (0 : Int32))])) _
          refine XS.icmpNo X349.here hx rfl (hb hby at_100) rfl (teq ((by decide) : (0 : Int32) = (0 : Int32))).2 ?_
          show Steps p.tables e below (T349.setTop (mkF m 103 #[.val (.long x0), .second, .val (.long x1), .second, .val (.int x2), .val (.int (1 : Int32)), .val (.long (9223372036854775807 : Int64)), .second, .val .null, .val (.ref b335), .val (.int (0 : Int32))] [])) _
          refine XS.iconst X349.here hx rfl (hb hby at_103) ?_
          show Steps p.tables e below (T349.setTop (mkF m 104 #[.val (.long x0), .second, .val (.long x1), .second, .val (.int x2), .val (.int (1 : Int32)), .val (.long (9223372036854775807 : Int64)), .second, .val .null, .val (.ref b335), .val (.int (0 : Int32))] [(.int (1 : Int32))])) _
          refine XS.goto X349.here hx rfl (pc0 := 104) (pc' := 108) rfl (hb hby at_104) (by decide) (by decide) ?_
          exact kk)
        obtain ⟨fs, hr, hrun, hended, hW, hsame⟩ := X349.leave (v := some (.int (1 : Int32))) (fun h => by rw [Bd.returns] at h; cases h)
        refine ⟨_, _, pre350 _ ?_, hrun, hended, _, _, rfl, ?_, ⟨_, rfl⟩, hW, hsame.mono (by decide) (by decide)⟩
        · exact retN X349 hx (t := .boolean) Bd.returns (by simp) (hb hby at_108) hr
        · exact ⟨rfl, N349⟩
set_option maxRecDepth 65536 in
set_option maxHeartbeats 40000000 in
theorem comes_1 {Post : Tables → Env → Array Value → State → Outcome → State → Prop} (hpost : ∀ tb e args s v u, (limb_1_1.after args s (.returned v) u = true ∧ limb_1_2.after args s (.returned v) u = true ∧ True) → FrameEnd s (.returned v) u (Jvm.fieldLocs frame_1_writes args s ++ Jvm.arrayLocs frame_1_arrays args s ++ Jvm.staticLocs frame_1_statics s) 16 128 → Post tb e args s (.returned v) u) :
    ArmFor flags0 classFile x code maxLocals ret World_1 tables_1 room_1 Calls_1 rest_1 Pre_1 Post := by
  intro l hfl _ _ p e ha hc hk s m args below hf hA hF happ hP
  obtain ⟨hcalls, hrest, hpre⟩ := hP
  obtain ⟨-, -, -, hnamed, -, -, -, hat⟩ := (Spec.applies_iff hf).mp happ
  obtain ⟨hg, hn⟩ := and_e (Cond.before_iff.mp (show (Jvm.Cond.and given_1 narrow_1).before args s = true from hpre))
  obtain ⟨hcount, hgs⟩ := and_e hg
  obtain ⟨hk0, hr0⟩ := and_e hgs
  obtain ⟨hk1, hr1⟩ := and_e hr0
  obtain ⟨v0, v1, v2, rfl⟩ : ∃ v0 v1 v2 : Value, args = #[v0, v1, v2] := by
    have hs : args.size = 3 := by simpa [Cond.value, given_1] using hcount
    obtain ⟨L⟩ := args
    match L, hs with
    | [v0, v1, v2], _ => exact ⟨v0, v1, v2, rfl⟩
  have hw := fun d (hd : d ∈ tables_1) => atoms_spec (ws := Jvm.Cond.code x code maxLocals ret :: tables_1) hat d (List.mem_cons_of_mem _ hd)
  have hfit : Fit s := fun {y c} hc i hi => by
    obtain ⟨ha, rfl⟩ := Array.getElem?_eq_some_iff.mp hc
    have q := List.all_eq_true.mp ((Array.all_eq_true_iff_forall_mem.mp hF) _ (Array.getElem_mem ha)) i (List.mem_range.mpr hi)
    simpa [Array.getElem?_eq_getElem hi] using q
  obtain ⟨hsets, hown0⟩ := atoms_of _ (rest_1_c_eq ▸ (show rest_1_c.before _ s = true from hrest))
  obtain ⟨i0, ei0⟩ := isL_v hk0
  obtain rfl : v0 = (.long i0) := Option.some.inj ei0
  obtain ⟨i1, ei1⟩ := isL_v hk1
  obtain rfl : v1 = (.long i1) := Option.some.inj ei1
  obtain ⟨i2, ei2⟩ := is_v hr1
  obtain rfl : v2 = (.int i2) := Option.some.inj ei2
  obtain ⟨w_cache, k_cache, vsC, hCh, hCc, hCv, hCx⟩ := own_cache hfit hsets
  have h_S_high := hCh
  have h_S_cache := hCc
  have h_V_cache := hCv
  have h_X_cache := hCx
  obtain ⟨n, o, h1, h2, h3, _, L, rfl, ⟨rfl, N⟩, hq⟩ := rm0 l s _ hw tables_1 i0 i1 i2 w_cache k_cache vsC s.heap s.heap.size (Nat.le_refl _) h_S_high h_S_cache h_V_cache h_X_cache p e ha hc hk s m _ below hf ((Spec.applies_iff_loose hf).mp happ).1 ⟨rfl, State.Warmed39.refl s, rfl⟩ trivial
  exact ⟨n, _, h1, h2, h3, hpost _ _ _ _ _ _ ⟨Cond.after_iff.mpr rfl, Cond.after_iff.mpr (eq_i res_at (Term.int_eval (1)) rfl), trivial⟩ ⟨hq.1, hq.2.1, (hq.2.2.sift fun y hy => Or.inr (N y hy)).mono (by decide) (by decide)⟩⟩
theorem main_1_1 : Claimed_1_1 := comes_1 fun _ _ _ _ _ _ h hF => ⟨h.1, hF⟩
theorem main_1_2 : Claimed_1_2 := comes_1 fun _ _ _ _ _ _ h hF => ⟨h.2.1, hF⟩
end Jvm.Pilot.@@N@@
namespace Jvm.Pilot.@@N@@
open Jvm Jvm.ClassFile Sem Op Lib Jvm.Free Jvm.Stand Jvm.Pilot.@@N@@.Jvm.D
/-! MADE BY PROGRAM (witnessworld.py) out of the Statement's table words and the real class files: 17 classes; the members and pool entries that the words name. The judged class is class 1, her method 1. -/
namespace start1
open Jvm.ClassFile
def u (s : String) : CpInfo := .utf8 (stringToUtf16 s)
/-- a pool by its gaps: so many unusable entries, then the entry; so many at the end -/
def gap : Nat → List CpInfo → List CpInfo
  | 0, r => r
  | n + 1, r => .unusable :: gap n r
def poolList (es : List (Nat × CpInfo)) (last : Nat) : List CpInfo := es.foldr (fun e r => gap e.1 (e.2 :: r)) (gap last [])
def pool (es : List (Nat × CpInfo)) (last : Nat) : Array CpInfo := ⟨poolList es last⟩
def fileOf (pool : Array CpInfo) (this : Nat) (attrs : Array Attribute := #[]) (ms : Array MethodInfo := #[]) (fl : Nat := 33) (sup : Nat := 0) (ifs : Array Nat := #[]) (fds : Array FieldInfo := #[]) : ClassFile where
  minorVersion := 0
  majorVersion := 65
  constantPool := pool
  accessFlags := fl
  thisClass := this
  superClass := sup
  interfaces := ifs
  fields := fds
  methods := ms
  attributes := attrs
def plain (name : String) (sup : Option ClassId) : Class where
  name := name
  kind := .ordinary
  loader := none
  accessFlags := 33
  super := sup
  interfaces := #[]
  cf := none
  fields := #[]
  methods := #[]
  instanceTypes := #[]
  staticTypes := #[]
  resolved := #[]
  callSites := []
  init := .initialized
  statics := none
  mirror := none

def pool0 : Array CpInfo := pool [(5, u "<init>"), (0, u "()V"), (1, .class_ 10), (1, u "java/lang/Object")] 113

def k0c0 : Code := { maxStack := 0, maxLocals := 1, code := object_method_1_code, exceptionTable := #[], attributes := #[] }
def k0m0 : Method := { name := "<init>", desc := "()V", sig := { parameters := [], returnType := none }, accessFlags := 1, code := some k0c0 }
/-- java/lang/Object -/
def k0 : Class := { plain "java/lang/Object" none with
  accessFlags := 33
  interfaces := #[]
  cf := some (fileOf pool0 8 #[] #[{ accessFlags := 1, nameIndex := 5, descriptorIndex := 6, attributes := #[] }] 33 0 #[] #[])
  fields := #[]
  methods := #[k0m0]
  instanceTypes := #[]
  staticTypes := #[]
  resolved := Array.replicate 124 none
  statics := none }

def pool1 : Array CpInfo := pool [(2, .class_ 4), (1, u "java/lang/Object"), (0, u "<init>"), (0, u "()V"), (2, .long 9223372036854775807), (1, .methodref 12 13), (0, .class_ 14), (0, .nameAndType 15 16), (0, u "java/lang/Integer"), (0, u "valueOf"), (0, u "(I)Ljava/lang/Integer;"), (0, .class_ 18), (0, u "com/example/grantd/grantd/front/Places$Waiting"), (0, .methodref 17 20), (0, .nameAndType 5 21), (0, u "(Ljava/lang/Object;JJZ)V"), (0, .methodref 17 23), (0, .nameAndType 24 25), (0, u "isBetweenRequests"), (0, u "()Z"), (0, .class_ 27), (0, u "com/example/grantd/grantd/front/WaitingIsBetweenRequestsPinLaw"), (2, u "law"), (0, u "(JJI)Z")] 7

def k1m0 : Method := { name := "<init>", desc := "()V", sig := { parameters := [], returnType := none }, accessFlags := 2, code := none }
def k1c1 : Code := { maxStack := 8, maxLocals := 11, code := code, exceptionTable := #[], attributes := #[] }
def k1m1 : Method := { name := "law", desc := "(JJI)Z", sig := { parameters := [.long, .long, .int], returnType := some .boolean }, accessFlags := 9, code := some k1c1 }
/-- com/example/grantd/grantd/front/WaitingIsBetweenRequestsPinLaw -/
def k1 : Class := { plain "com/example/grantd/grantd/front/WaitingIsBetweenRequestsPinLaw" (some 0) with
  accessFlags := 49
  interfaces := #[]
  cf := some (fileOf pool1 26 #[] #[{ accessFlags := 2, nameIndex := 5, descriptorIndex := 6, attributes := #[] }, { accessFlags := 9, nameIndex := 30, descriptorIndex := 31, attributes := #[] }] 49 2 #[] #[])
  fields := #[]
  methods := #[k1m0, k1m1]
  instanceTypes := #[]
  staticTypes := #[]
  resolved := Array.replicate 39 none
  statics := none }

def pool2 : Array CpInfo := pool [(1, .class_ 2), (0, u "java/io/Serializable"), (0, .class_ 4), (0, u "java/lang/Object")] 2

/-- java/io/Serializable -/
def k2 : Class := { plain "java/io/Serializable" (some 0) with
  accessFlags := 1537
  interfaces := #[]
  cf := some (fileOf pool2 1 #[] #[] 1537 3 #[] #[])
  fields := #[]
  methods := #[]
  instanceTypes := #[]
  staticTypes := #[]
  resolved := Array.replicate 7 none
  statics := none }

def pool3 : Array CpInfo := pool [(1, .methodref 2 3), (0, .class_ 4), (0, .nameAndType 5 6), (0, u "java/lang/Object"), (0, u "<init>"), (0, u "()V"), (1, .class_ 10), (1, u "java/lang/Number"), (2, .class_ 14), (0, u "java/io/Serializable"), (0, u "serialVersionUID"), (0, u "J")] 20

def k3c0 : Code := { maxStack := 1, maxLocals := 1, code := jdk_18_method_1_code, exceptionTable := #[], attributes := #[] }
def k3m0 : Method := { name := "<init>", desc := "()V", sig := { parameters := [], returnType := none }, accessFlags := 1, code := some k3c0 }
/-- java/lang/Number -/
def k3 : Class := { plain "java/lang/Number" (some 0) with
  accessFlags := 1057
  interfaces := #[2]
  cf := some (fileOf pool3 8 #[] #[{ accessFlags := 1, nameIndex := 5, descriptorIndex := 6, attributes := #[] }] 1057 2 #[13] #[{ accessFlags := 26, nameIndex := 15, descriptorIndex := 16, attributes := #[] }])
  fields := #[{ name := "serialVersionUID", type := .long, accessFlags := 26, slot := 0, constantValue := 0 }]
  methods := #[k3m0]
  instanceTypes := #[]
  staticTypes := #[.long]
  resolved := Array.replicate 37 none
  statics := none }

def pool4 : Array CpInfo := pool [(1, .class_ 2), (0, u "java/lang/Comparable"), (0, .class_ 4), (0, u "java/lang/Object")] 7

/-- java/lang/Comparable -/
def k4 : Class := { plain "java/lang/Comparable" (some 0) with
  accessFlags := 1537
  interfaces := #[]
  cf := some (fileOf pool4 1 #[] #[] 1537 3 #[] #[])
  fields := #[]
  methods := #[]
  instanceTypes := #[]
  staticTypes := #[]
  resolved := Array.replicate 12 none
  statics := none }

def pool5 : Array CpInfo := pool [(1, .class_ 2), (0, u "java/lang/constant/Constable"), (0, .class_ 4), (0, u "java/lang/Object")] 6

/-- java/lang/constant/Constable -/
def k5 : Class := { plain "java/lang/constant/Constable" (some 0) with
  accessFlags := 1537
  interfaces := #[]
  cf := some (fileOf pool5 1 #[] #[] 1537 3 #[] #[])
  fields := #[]
  methods := #[]
  instanceTypes := #[]
  staticTypes := #[]
  resolved := Array.replicate 11 none
  statics := none }

def pool6 : Array CpInfo := pool [(1, .class_ 2), (0, u "java/lang/constant/ConstantDesc"), (0, .class_ 4), (0, u "java/lang/Object")] 32

/-- java/lang/constant/ConstantDesc -/
def k6 : Class := { plain "java/lang/constant/ConstantDesc" (some 0) with
  accessFlags := 1537
  interfaces := #[]
  cf := some (fileOf pool6 1 #[] #[] 1537 3 #[] #[])
  fields := #[]
  methods := #[]
  instanceTypes := #[]
  staticTypes := #[]
  resolved := Array.replicate 37 none
  statics := none }

def pool7 : Array CpInfo := pool [(1, .class_ 2), (0, u "java/lang/Integer"), (16, u "digits"), (0, u "[C"), (46, u "<init>"), (17, u "DigitOnes"), (0, u "[B"), (2, u "DigitTens"), (10, .nameAndType 67 101), (0, u "()V"), (85, u "valueOf"), (0, u "(I)Ljava/lang/Integer;"), (0, .class_ 190), (0, u "java/lang/Integer$IntegerCache"), (0, .fieldref 189 192), (0, .nameAndType 193 194), (0, u "high"), (0, u "I"), (0, .fieldref 189 196), (0, .nameAndType 197 198), (0, u "cache"), (0, u "[Ljava/lang/Integer;"), (0, .methodref 1 200), (0, .nameAndType 67 201), (0, u "(I)V"), (0, .methodref 203 100), (0, .class_ 204), (0, u "java/lang/Number"), (0, .fieldref 1 206), (0, .nameAndType 207 194), (0, u "value"), (94, u "TYPE"), (0, u "Ljava/lang/Class;"), (0, .class_ 305), (0, u "java/lang/Comparable"), (0, .class_ 307), (0, u "java/lang/constant/Constable"), (0, .class_ 309), (0, u "java/lang/constant/ConstantDesc"), (0, u "MIN_VALUE"), (1, u "MAX_VALUE"), (3, u "SIZE"), (1, u "BYTES"), (1, u "serialVersionUID"), (0, u "J")] 131

def k7c0 : Code := { maxStack := 3, maxLocals := 1, code := jdk_33_method_22_code, exceptionTable := #[], attributes := #[] }
def k7m0 : Method := { name := "valueOf", desc := "(I)Ljava/lang/Integer;", sig := { parameters := [.int], returnType := some (.object "java/lang/Integer") }, accessFlags := 9, code := some k7c0 }
def k7c1 : Code := { maxStack := 2, maxLocals := 2, code := jdk_33_method_23_code, exceptionTable := #[], attributes := #[] }
def k7m1 : Method := { name := "<init>", desc := "(I)V", sig := { parameters := [.int], returnType := none }, accessFlags := 1, code := some k7c1 }
/-- java/lang/Integer -/
def k7 : Class := { plain "java/lang/Integer" (some 3) with
  accessFlags := 49
  interfaces := #[4, 5, 6]
  cf := some (fileOf pool7 1 #[.nestMembers #[189]] #[{ accessFlags := 9, nameIndex := 187, descriptorIndex := 188, attributes := #[] }, { accessFlags := 1, nameIndex := 67, descriptorIndex := 201, attributes := #[] }] 49 203 #[304, 306, 308] #[{ accessFlags := 25, nameIndex := 310, descriptorIndex := 194, attributes := #[] }, { accessFlags := 25, nameIndex := 312, descriptorIndex := 194, attributes := #[] }, { accessFlags := 25, nameIndex := 302, descriptorIndex := 303, attributes := #[] }, { accessFlags := 24, nameIndex := 19, descriptorIndex := 20, attributes := #[] }, { accessFlags := 24, nameIndex := 89, descriptorIndex := 86, attributes := #[] }, { accessFlags := 24, nameIndex := 85, descriptorIndex := 86, attributes := #[] }, { accessFlags := 18, nameIndex := 207, descriptorIndex := 194, attributes := #[] }, { accessFlags := 25, nameIndex := 316, descriptorIndex := 194, attributes := #[] }, { accessFlags := 25, nameIndex := 318, descriptorIndex := 194, attributes := #[] }, { accessFlags := 26, nameIndex := 320, descriptorIndex := 321, attributes := #[] }])
  fields := #[{ name := "MIN_VALUE", type := .int, accessFlags := 25, slot := 0, constantValue := 0 }, { name := "MAX_VALUE", type := .int, accessFlags := 25, slot := 1, constantValue := 0 }, { name := "TYPE", type := (.object "java/lang/Class"), accessFlags := 25, slot := 2, constantValue := 0 }, { name := "digits", type := (.array .char), accessFlags := 24, slot := 3, constantValue := 0 }, { name := "DigitTens", type := (.array .byte), accessFlags := 24, slot := 4, constantValue := 0 }, { name := "DigitOnes", type := (.array .byte), accessFlags := 24, slot := 5, constantValue := 0 }, { name := "value", type := .int, accessFlags := 18, slot := 0, constantValue := 0 }, { name := "SIZE", type := .int, accessFlags := 25, slot := 6, constantValue := 0 }, { name := "BYTES", type := .int, accessFlags := 25, slot := 7, constantValue := 0 }, { name := "serialVersionUID", type := .long, accessFlags := 26, slot := 8, constantValue := 0 }]
  methods := #[k7m0, k7m1]
  instanceTypes := #[.int]
  staticTypes := #[.int, .int, (.object "java/lang/Class"), (.array .char), (.array .byte), (.array .byte), .int, .int, .long]
  resolved := Array.replicate 453 none
  statics := none }

def pool8 : Array CpInfo := pool [(2, .class_ 4), (1, u "java/lang/Object"), (0, u "<init>"), (0, u "()V"), (0, .class_ 8), (0, u "java/lang/Integer"), (7, .class_ 18), (1, u "java/lang/Integer$IntegerCache"), (0, u "$assertionsDisabled"), (0, u "Z"), (26, u "high"), (0, u "I"), (8, u "archivedCache"), (0, u "[Ljava/lang/Integer;"), (12, u "cache"), (0, u "low")] 27

def k8m0 : Method := { name := "<init>", desc := "()V", sig := { parameters := [], returnType := none }, accessFlags := 2, code := none }
/-- java/lang/Integer$IntegerCache -/
def k8 : Class := { plain "java/lang/Integer$IntegerCache" (some 0) with
  accessFlags := 48
  interfaces := #[]
  cf := some (fileOf pool8 16 #[.nestHost 7] #[{ accessFlags := 2, nameIndex := 5, descriptorIndex := 6, attributes := #[] }] 48 2 #[] #[{ accessFlags := 24, nameIndex := 72, descriptorIndex := 48, attributes := #[] }, { accessFlags := 24, nameIndex := 47, descriptorIndex := 48, attributes := #[] }, { accessFlags := 24, nameIndex := 71, descriptorIndex := 58, attributes := #[] }, { accessFlags := 8, nameIndex := 57, descriptorIndex := 58, attributes := #[] }, { accessFlags := 4120, nameIndex := 19, descriptorIndex := 20, attributes := #[] }])
  fields := #[{ name := "low", type := .int, accessFlags := 24, slot := 0, constantValue := 0 }, { name := "high", type := .int, accessFlags := 24, slot := 1, constantValue := 0 }, { name := "cache", type := (.array (.object "java/lang/Integer")), accessFlags := 24, slot := 2, constantValue := 0 }, { name := "archivedCache", type := (.array (.object "java/lang/Integer")), accessFlags := 8, slot := 3, constantValue := 0 }, { name := "$assertionsDisabled", type := .boolean, accessFlags := 4120, slot := 4, constantValue := 0 }]
  methods := #[k8m0]
  instanceTypes := #[]
  staticTypes := #[.int, .int, (.array (.object "java/lang/Integer")), (.array (.object "java/lang/Integer")), .boolean]
  resolved := Array.replicate 100 none
  statics := some 0 }

def pool9 : Array CpInfo := pool [(1, .methodref 2 3), (0, .class_ 4), (0, .nameAndType 5 6), (0, u "java/lang/Object"), (0, u "<init>"), (0, u "()V"), (0, .class_ 8), (0, u "java/lang/Record")] 13

def k9c0 : Code := { maxStack := 1, maxLocals := 1, code := jdk_30_method_1_code, exceptionTable := #[], attributes := #[] }
def k9m0 : Method := { name := "<init>", desc := "()V", sig := { parameters := [], returnType := none }, accessFlags := 4, code := some k9c0 }
/-- java/lang/Record -/
def k9 : Class := { plain "java/lang/Record" (some 0) with
  accessFlags := 1057
  interfaces := #[]
  cf := some (fileOf pool9 7 #[] #[{ accessFlags := 4, nameIndex := 5, descriptorIndex := 6, attributes := #[] }] 1057 2 #[] #[])
  fields := #[]
  methods := #[k9m0]
  instanceTypes := #[]
  staticTypes := #[]
  resolved := Array.replicate 22 none
  statics := none }

def pool10 : Array CpInfo := pool [(1, .methodref 2 3), (0, .class_ 4), (0, .nameAndType 5 6), (0, u "java/lang/Record"), (0, u "<init>"), (0, u "()V"), (0, .fieldref 8 9), (0, .class_ 10), (0, .nameAndType 11 12), (0, u "com/example/grantd/grantd/front/Places$Waiting"), (0, u "connection"), (0, u "Ljava/lang/Object;"), (0, .fieldref 8 14), (0, .nameAndType 15 16), (0, u "closableFrom"), (0, u "J"), (0, .fieldref 8 18), (0, .nameAndType 19 16), (0, u "firstServed"), (0, .fieldref 8 21), (0, .nameAndType 22 23), (0, u "holdsHead"), (0, u "Z"), (2, .long 9223372036854775807), (15, u "(Ljava/lang/Object;JJZ)V"), (4, u "isBetweenRequests"), (0, u "()Z"), (11, .class_ 61), (0, u "com/example/grantd/grantd/front/Places")] 22

def k10c0 : Code := { maxStack := 3, maxLocals := 7, code := prog_29_method_1_code, exceptionTable := #[], attributes := #[] }
def k10m0 : Method := { name := "<init>", desc := "(Ljava/lang/Object;JJZ)V", sig := { parameters := [(.object "java/lang/Object"), .long, .long, .boolean], returnType := none }, accessFlags := 0, code := some k10c0 }
def k10c1 : Code := { maxStack := 4, maxLocals := 1, code := prog_29_method_2_code, exceptionTable := #[], attributes := #[] }
def k10m1 : Method := { name := "isBetweenRequests", desc := "()Z", sig := { parameters := [], returnType := some .boolean }, accessFlags := 0, code := some k10c1 }
/-- com/example/grantd/grantd/front/Places$Waiting -/
def k10 : Class := { plain "com/example/grantd/grantd/front/Places$Waiting" (some 9) with
  accessFlags := 48
  interfaces := #[]
  cf := some (fileOf pool10 8 #[.nestHost 60] #[{ accessFlags := 0, nameIndex := 5, descriptorIndex := 42, attributes := #[] }, { accessFlags := 0, nameIndex := 47, descriptorIndex := 48, attributes := #[] }] 48 2 #[] #[{ accessFlags := 18, nameIndex := 11, descriptorIndex := 12, attributes := #[] }, { accessFlags := 18, nameIndex := 15, descriptorIndex := 16, attributes := #[] }, { accessFlags := 18, nameIndex := 19, descriptorIndex := 16, attributes := #[] }, { accessFlags := 18, nameIndex := 22, descriptorIndex := 23, attributes := #[] }])
  fields := #[{ name := "connection", type := (.object "java/lang/Object"), accessFlags := 18, slot := 0, constantValue := 0 }, { name := "closableFrom", type := .long, accessFlags := 18, slot := 1, constantValue := 0 }, { name := "firstServed", type := .long, accessFlags := 18, slot := 2, constantValue := 0 }, { name := "holdsHead", type := .boolean, accessFlags := 18, slot := 3, constantValue := 0 }]
  methods := #[k10m0, k10m1]
  instanceTypes := #[(.object "java/lang/Object"), .long, .long, .boolean]
  staticTypes := #[]
  resolved := Array.replicate 84 none
  statics := none }

def pool11 : Array CpInfo := pool [(1, u "java/lang/Cloneable"), (0, .class_ 1), (0, u "java/lang/Object"), (0, .class_ 3)] 3

/-- java/lang/Cloneable -/
def k11 : Class := { plain "java/lang/Cloneable" (some 0) with
  accessFlags := 1537
  interfaces := #[]
  cf := some (fileOf pool11 2 #[] #[] 1537 4 #[] #[])
  fields := #[]
  methods := #[]
  instanceTypes := #[]
  staticTypes := #[]
  resolved := Array.replicate 8 none
  statics := none }

/-- the primitive byte -/
def k12 : Class := { plain "byte" none with kind := .primitive 'B', accessFlags := 0x411 }
/-- [B -/
def k13 : Class := { plain "[B" (some 0) with kind := .array 12 .byte, interfaces := #[11, 2], accessFlags := 1041 }

/-- the primitive int -/
def k14 : Class := { plain "int" none with kind := .primitive 'I', accessFlags := 0x411 }
/-- [I -/
def k15 : Class := { plain "[I" (some 0) with kind := .array 14 .int, interfaces := #[11, 2], accessFlags := 1041 }

/-- [Ljava/lang/Integer; -/
def k16 : Class := { plain "[Ljava/lang/Integer;" (some 0) with kind := .array 7 (.object "java/lang/Integer"), interfaces := #[11, 2], accessFlags := 1041 }

def heap : Heap := #[{ cls := 8, slots := #[.int 0, .int 127, .ref 1, .null, .int 0], vm := .statics 8 },
  { cls := 16, slots := #[.ref 2, .ref 3, .ref 4, .ref 5, .ref 6, .ref 7, .ref 8, .ref 9, .ref 10, .ref 11, .ref 12, .ref 13, .ref 14, .ref 15, .ref 16, .ref 17, .ref 18, .ref 19, .ref 20, .ref 21, .ref 22, .ref 23, .ref 24, .ref 25, .ref 26, .ref 27, .ref 28, .ref 29, .ref 30, .ref 31, .ref 32, .ref 33, .ref 34, .ref 35, .ref 36, .ref 37, .ref 38, .ref 39, .ref 40, .ref 41, .ref 42, .ref 43, .ref 44, .ref 45, .ref 46, .ref 47, .ref 48, .ref 49, .ref 50, .ref 51, .ref 52, .ref 53, .ref 54, .ref 55, .ref 56, .ref 57, .ref 58, .ref 59, .ref 60, .ref 61, .ref 62, .ref 63, .ref 64, .ref 65, .ref 66, .ref 67, .ref 68, .ref 69, .ref 70, .ref 71, .ref 72, .ref 73, .ref 74, .ref 75, .ref 76, .ref 77, .ref 78, .ref 79, .ref 80, .ref 81, .ref 82, .ref 83, .ref 84, .ref 85, .ref 86, .ref 87, .ref 88, .ref 89, .ref 90, .ref 91, .ref 92, .ref 93, .ref 94, .ref 95, .ref 96, .ref 97, .ref 98, .ref 99, .ref 100, .ref 101, .ref 102, .ref 103, .ref 104, .ref 105, .ref 106, .ref 107, .ref 108, .ref 109, .ref 110, .ref 111, .ref 112, .ref 113, .ref 114, .ref 115, .ref 116, .ref 117, .ref 118, .ref 119, .ref 120, .ref 121, .ref 122, .ref 123, .ref 124, .ref 125, .ref 126, .ref 127, .ref 128, .ref 129, .ref 130, .ref 131, .ref 132, .ref 133, .ref 134, .ref 135, .ref 136, .ref 137, .ref 138, .ref 139, .ref 140, .ref 141, .ref 142, .ref 143, .ref 144, .ref 145, .ref 146, .ref 147, .ref 148, .ref 149, .ref 150, .ref 151, .ref 152, .ref 153, .ref 154, .ref 155, .ref 156, .ref 157, .ref 158, .ref 159, .ref 160, .ref 161, .ref 162, .ref 163, .ref 164, .ref 165, .ref 166, .ref 167, .ref 168, .ref 169, .ref 170, .ref 171, .ref 172, .ref 173, .ref 174, .ref 175, .ref 176, .ref 177, .ref 178, .ref 179, .ref 180, .ref 181, .ref 182, .ref 183, .ref 184, .ref 185, .ref 186, .ref 187, .ref 188, .ref 189, .ref 190, .ref 191, .ref 192, .ref 193, .ref 194, .ref 195, .ref 196, .ref 197, .ref 198, .ref 199, .ref 200, .ref 201, .ref 202, .ref 203, .ref 204, .ref 205, .ref 206, .ref 207, .ref 208, .ref 209, .ref 210, .ref 211, .ref 212, .ref 213, .ref 214, .ref 215, .ref 216, .ref 217, .ref 218, .ref 219, .ref 220, .ref 221, .ref 222, .ref 223, .ref 224, .ref 225, .ref 226, .ref 227, .ref 228, .ref 229, .ref 230, .ref 231, .ref 232, .ref 233, .ref 234, .ref 235, .ref 236, .ref 237, .ref 238, .ref 239, .ref 240, .ref 241, .ref 242, .ref 243, .ref 244, .ref 245, .ref 246, .ref 247, .ref 248, .ref 249, .ref 250, .ref 251, .ref 252, .ref 253, .ref 254, .ref 255, .ref 256, .ref 257], vm := .none },
  { cls := 7, slots := #[.int (-128)] },
  { cls := 7, slots := #[.int (-127)] },
  { cls := 7, slots := #[.int (-126)] },
  { cls := 7, slots := #[.int (-125)] },
  { cls := 7, slots := #[.int (-124)] },
  { cls := 7, slots := #[.int (-123)] },
  { cls := 7, slots := #[.int (-122)] },
  { cls := 7, slots := #[.int (-121)] },
  { cls := 7, slots := #[.int (-120)] },
  { cls := 7, slots := #[.int (-119)] },
  { cls := 7, slots := #[.int (-118)] },
  { cls := 7, slots := #[.int (-117)] },
  { cls := 7, slots := #[.int (-116)] },
  { cls := 7, slots := #[.int (-115)] },
  { cls := 7, slots := #[.int (-114)] },
  { cls := 7, slots := #[.int (-113)] },
  { cls := 7, slots := #[.int (-112)] },
  { cls := 7, slots := #[.int (-111)] },
  { cls := 7, slots := #[.int (-110)] },
  { cls := 7, slots := #[.int (-109)] },
  { cls := 7, slots := #[.int (-108)] },
  { cls := 7, slots := #[.int (-107)] },
  { cls := 7, slots := #[.int (-106)] },
  { cls := 7, slots := #[.int (-105)] },
  { cls := 7, slots := #[.int (-104)] },
  { cls := 7, slots := #[.int (-103)] },
  { cls := 7, slots := #[.int (-102)] },
  { cls := 7, slots := #[.int (-101)] },
  { cls := 7, slots := #[.int (-100)] },
  { cls := 7, slots := #[.int (-99)] },
  { cls := 7, slots := #[.int (-98)] },
  { cls := 7, slots := #[.int (-97)] },
  { cls := 7, slots := #[.int (-96)] },
  { cls := 7, slots := #[.int (-95)] },
  { cls := 7, slots := #[.int (-94)] },
  { cls := 7, slots := #[.int (-93)] },
  { cls := 7, slots := #[.int (-92)] },
  { cls := 7, slots := #[.int (-91)] },
  { cls := 7, slots := #[.int (-90)] },
  { cls := 7, slots := #[.int (-89)] },
  { cls := 7, slots := #[.int (-88)] },
  { cls := 7, slots := #[.int (-87)] },
  { cls := 7, slots := #[.int (-86)] },
  { cls := 7, slots := #[.int (-85)] },
  { cls := 7, slots := #[.int (-84)] },
  { cls := 7, slots := #[.int (-83)] },
  { cls := 7, slots := #[.int (-82)] },
  { cls := 7, slots := #[.int (-81)] },
  { cls := 7, slots := #[.int (-80)] },
  { cls := 7, slots := #[.int (-79)] },
  { cls := 7, slots := #[.int (-78)] },
  { cls := 7, slots := #[.int (-77)] },
  { cls := 7, slots := #[.int (-76)] },
  { cls := 7, slots := #[.int (-75)] },
  { cls := 7, slots := #[.int (-74)] },
  { cls := 7, slots := #[.int (-73)] },
  { cls := 7, slots := #[.int (-72)] },
  { cls := 7, slots := #[.int (-71)] },
  { cls := 7, slots := #[.int (-70)] },
  { cls := 7, slots := #[.int (-69)] },
  { cls := 7, slots := #[.int (-68)] },
  { cls := 7, slots := #[.int (-67)] },
  { cls := 7, slots := #[.int (-66)] },
  { cls := 7, slots := #[.int (-65)] },
  { cls := 7, slots := #[.int (-64)] },
  { cls := 7, slots := #[.int (-63)] },
  { cls := 7, slots := #[.int (-62)] },
  { cls := 7, slots := #[.int (-61)] },
  { cls := 7, slots := #[.int (-60)] },
  { cls := 7, slots := #[.int (-59)] },
  { cls := 7, slots := #[.int (-58)] },
  { cls := 7, slots := #[.int (-57)] },
  { cls := 7, slots := #[.int (-56)] },
  { cls := 7, slots := #[.int (-55)] },
  { cls := 7, slots := #[.int (-54)] },
  { cls := 7, slots := #[.int (-53)] },
  { cls := 7, slots := #[.int (-52)] },
  { cls := 7, slots := #[.int (-51)] },
  { cls := 7, slots := #[.int (-50)] },
  { cls := 7, slots := #[.int (-49)] },
  { cls := 7, slots := #[.int (-48)] },
  { cls := 7, slots := #[.int (-47)] },
  { cls := 7, slots := #[.int (-46)] },
  { cls := 7, slots := #[.int (-45)] },
  { cls := 7, slots := #[.int (-44)] },
  { cls := 7, slots := #[.int (-43)] },
  { cls := 7, slots := #[.int (-42)] },
  { cls := 7, slots := #[.int (-41)] },
  { cls := 7, slots := #[.int (-40)] },
  { cls := 7, slots := #[.int (-39)] },
  { cls := 7, slots := #[.int (-38)] },
  { cls := 7, slots := #[.int (-37)] },
  { cls := 7, slots := #[.int (-36)] },
  { cls := 7, slots := #[.int (-35)] },
  { cls := 7, slots := #[.int (-34)] },
  { cls := 7, slots := #[.int (-33)] },
  { cls := 7, slots := #[.int (-32)] },
  { cls := 7, slots := #[.int (-31)] },
  { cls := 7, slots := #[.int (-30)] },
  { cls := 7, slots := #[.int (-29)] },
  { cls := 7, slots := #[.int (-28)] },
  { cls := 7, slots := #[.int (-27)] },
  { cls := 7, slots := #[.int (-26)] },
  { cls := 7, slots := #[.int (-25)] },
  { cls := 7, slots := #[.int (-24)] },
  { cls := 7, slots := #[.int (-23)] },
  { cls := 7, slots := #[.int (-22)] },
  { cls := 7, slots := #[.int (-21)] },
  { cls := 7, slots := #[.int (-20)] },
  { cls := 7, slots := #[.int (-19)] },
  { cls := 7, slots := #[.int (-18)] },
  { cls := 7, slots := #[.int (-17)] },
  { cls := 7, slots := #[.int (-16)] },
  { cls := 7, slots := #[.int (-15)] },
  { cls := 7, slots := #[.int (-14)] },
  { cls := 7, slots := #[.int (-13)] },
  { cls := 7, slots := #[.int (-12)] },
  { cls := 7, slots := #[.int (-11)] },
  { cls := 7, slots := #[.int (-10)] },
  { cls := 7, slots := #[.int (-9)] },
  { cls := 7, slots := #[.int (-8)] },
  { cls := 7, slots := #[.int (-7)] },
  { cls := 7, slots := #[.int (-6)] },
  { cls := 7, slots := #[.int (-5)] },
  { cls := 7, slots := #[.int (-4)] },
  { cls := 7, slots := #[.int (-3)] },
  { cls := 7, slots := #[.int (-2)] },
  { cls := 7, slots := #[.int (-1)] },
  { cls := 7, slots := #[.int 0] },
  { cls := 7, slots := #[.int 1] },
  { cls := 7, slots := #[.int 2] },
  { cls := 7, slots := #[.int 3] },
  { cls := 7, slots := #[.int 4] },
  { cls := 7, slots := #[.int 5] },
  { cls := 7, slots := #[.int 6] },
  { cls := 7, slots := #[.int 7] },
  { cls := 7, slots := #[.int 8] },
  { cls := 7, slots := #[.int 9] },
  { cls := 7, slots := #[.int 10] },
  { cls := 7, slots := #[.int 11] },
  { cls := 7, slots := #[.int 12] },
  { cls := 7, slots := #[.int 13] },
  { cls := 7, slots := #[.int 14] },
  { cls := 7, slots := #[.int 15] },
  { cls := 7, slots := #[.int 16] },
  { cls := 7, slots := #[.int 17] },
  { cls := 7, slots := #[.int 18] },
  { cls := 7, slots := #[.int 19] },
  { cls := 7, slots := #[.int 20] },
  { cls := 7, slots := #[.int 21] },
  { cls := 7, slots := #[.int 22] },
  { cls := 7, slots := #[.int 23] },
  { cls := 7, slots := #[.int 24] },
  { cls := 7, slots := #[.int 25] },
  { cls := 7, slots := #[.int 26] },
  { cls := 7, slots := #[.int 27] },
  { cls := 7, slots := #[.int 28] },
  { cls := 7, slots := #[.int 29] },
  { cls := 7, slots := #[.int 30] },
  { cls := 7, slots := #[.int 31] },
  { cls := 7, slots := #[.int 32] },
  { cls := 7, slots := #[.int 33] },
  { cls := 7, slots := #[.int 34] },
  { cls := 7, slots := #[.int 35] },
  { cls := 7, slots := #[.int 36] },
  { cls := 7, slots := #[.int 37] },
  { cls := 7, slots := #[.int 38] },
  { cls := 7, slots := #[.int 39] },
  { cls := 7, slots := #[.int 40] },
  { cls := 7, slots := #[.int 41] },
  { cls := 7, slots := #[.int 42] },
  { cls := 7, slots := #[.int 43] },
  { cls := 7, slots := #[.int 44] },
  { cls := 7, slots := #[.int 45] },
  { cls := 7, slots := #[.int 46] },
  { cls := 7, slots := #[.int 47] },
  { cls := 7, slots := #[.int 48] },
  { cls := 7, slots := #[.int 49] },
  { cls := 7, slots := #[.int 50] },
  { cls := 7, slots := #[.int 51] },
  { cls := 7, slots := #[.int 52] },
  { cls := 7, slots := #[.int 53] },
  { cls := 7, slots := #[.int 54] },
  { cls := 7, slots := #[.int 55] },
  { cls := 7, slots := #[.int 56] },
  { cls := 7, slots := #[.int 57] },
  { cls := 7, slots := #[.int 58] },
  { cls := 7, slots := #[.int 59] },
  { cls := 7, slots := #[.int 60] },
  { cls := 7, slots := #[.int 61] },
  { cls := 7, slots := #[.int 62] },
  { cls := 7, slots := #[.int 63] },
  { cls := 7, slots := #[.int 64] },
  { cls := 7, slots := #[.int 65] },
  { cls := 7, slots := #[.int 66] },
  { cls := 7, slots := #[.int 67] },
  { cls := 7, slots := #[.int 68] },
  { cls := 7, slots := #[.int 69] },
  { cls := 7, slots := #[.int 70] },
  { cls := 7, slots := #[.int 71] },
  { cls := 7, slots := #[.int 72] },
  { cls := 7, slots := #[.int 73] },
  { cls := 7, slots := #[.int 74] },
  { cls := 7, slots := #[.int 75] },
  { cls := 7, slots := #[.int 76] },
  { cls := 7, slots := #[.int 77] },
  { cls := 7, slots := #[.int 78] },
  { cls := 7, slots := #[.int 79] },
  { cls := 7, slots := #[.int 80] },
  { cls := 7, slots := #[.int 81] },
  { cls := 7, slots := #[.int 82] },
  { cls := 7, slots := #[.int 83] },
  { cls := 7, slots := #[.int 84] },
  { cls := 7, slots := #[.int 85] },
  { cls := 7, slots := #[.int 86] },
  { cls := 7, slots := #[.int 87] },
  { cls := 7, slots := #[.int 88] },
  { cls := 7, slots := #[.int 89] },
  { cls := 7, slots := #[.int 90] },
  { cls := 7, slots := #[.int 91] },
  { cls := 7, slots := #[.int 92] },
  { cls := 7, slots := #[.int 93] },
  { cls := 7, slots := #[.int 94] },
  { cls := 7, slots := #[.int 95] },
  { cls := 7, slots := #[.int 96] },
  { cls := 7, slots := #[.int 97] },
  { cls := 7, slots := #[.int 98] },
  { cls := 7, slots := #[.int 99] },
  { cls := 7, slots := #[.int 100] },
  { cls := 7, slots := #[.int 101] },
  { cls := 7, slots := #[.int 102] },
  { cls := 7, slots := #[.int 103] },
  { cls := 7, slots := #[.int 104] },
  { cls := 7, slots := #[.int 105] },
  { cls := 7, slots := #[.int 106] },
  { cls := 7, slots := #[.int 107] },
  { cls := 7, slots := #[.int 108] },
  { cls := 7, slots := #[.int 109] },
  { cls := 7, slots := #[.int 110] },
  { cls := 7, slots := #[.int 111] },
  { cls := 7, slots := #[.int 112] },
  { cls := 7, slots := #[.int 113] },
  { cls := 7, slots := #[.int 114] },
  { cls := 7, slots := #[.int 115] },
  { cls := 7, slots := #[.int 116] },
  { cls := 7, slots := #[.int 117] },
  { cls := 7, slots := #[.int 118] },
  { cls := 7, slots := #[.int 119] },
  { cls := 7, slots := #[.int 120] },
  { cls := 7, slots := #[.int 121] },
  { cls := 7, slots := #[.int 122] },
  { cls := 7, slots := #[.int 123] },
  { cls := 7, slots := #[.int 124] },
  { cls := 7, slots := #[.int 125] },
  { cls := 7, slots := #[.int 126] },
  { cls := 7, slots := #[.int 127] }]
def classes : Array Class := #[k0, k1, k2, k3, k4, k5, k6, k7, k8, k9, k10, k11, k12, k13, k14, k15, k16]
def interned : List (Array UInt16 × Addr) := []
def slotsUsed : Nat := 517
def theMethod : MethodId := ⟨1, 1⟩
def args0 : Array Value := #[.long 5, .long 6, .int 7]
def aboutOver (below : List Frame) : State where
  vm := { classes := classes, interned := interned.toArray }
  heap := heap
  slotsUsed := slotsUsed
  threads := #[{ frames := .invoking theMethod args0 :: below }]
def below0 : List Frame := [.native { method := ⟨0, 0⟩, args := #[] }]
def about1 : State := aboutOver below0
def p0 : Program := .bare "" "" ""
def e0 : Env := launch0.env 0 0 0
theorem w_frames : about1.frames = Frame.invoking theMethod args0 :: below0 := rfl
set_option maxRecDepth 65536 in
theorem w_args : argsFit about1.vm theMethod args0 = true := by decide +kernel
set_option maxRecDepth 65536 in
theorem w_heap : heapFits about1 = true := by decide +kernel
set_option maxRecDepth 65536 in
theorem w_runnable : about1.curStatus? = some .runnable := by decide +kernel
set_option maxRecDepth 65536 in
theorem w_alone : about1.alone = true := by decide +kernel
set_option maxRecDepth 65536 in
theorem w_named : about1.methodNamed? x = some theMethod := by decide +kernel
set_option maxRecDepth 65536 in
theorem w_hears : about1.hears theMethod below0 = true := by decide +kernel
set_option maxRecDepth 65536 in
theorem w_ripe : about1.ripe theMethod args0 below0 = true := by decide +kernel
theorem w_running : about1.status = .running := rfl
set_option maxRecDepth 65536 in
theorem w_room : about1.hasRoom e0.platform room_1 = true :=
  launch0.hasRoom_least _ room_1 (by decide +kernel) (by decide +kernel) (by decide +kernel) (by decide +kernel) (by decide +kernel) (by decide +kernel)
theorem allAtoms_all (ts : List Jvm.Cond) (a : Array Jvm.Value) (st : Jvm.State) : (allAtoms ts).before a st = ts.all (fun c => c.before a st) := by
  induction ts with
  | nil => rfl
  | cons c t ih =>
    show (Jvm.Cond.and c (allAtoms t)).before a st = _
    rw [Jvm.Cond.before_and, ih, List.all_cons]
def words1 : List Jvm.Cond := Jvm.Cond.code x code maxLocals ret :: tables_1
/-- a 'code' word, met by the world's own term for the bytes: nothing is compared byte by byte -/
theorem code_word {y : MethodName} {bytes : ByteArray} {mx : Nat} {rt : Option FieldType} {a : Array Value} {s : State} {m : MethodId} {meth : Method} {c : Code} (h1 : s.methodNamed? y = some m) (h2 : s.vm.method? m = some meth) (h3 : meth.code = some c) (h4 : c.code = bytes)
    (h5 : (c.maxLocals == mx && c.exceptionTable.isEmpty && decide (c.maxStack ≤ mostOperands) && decide (meth.sig.returnType = rt) && !meth.locks && decide (parseMethodDescriptor y.desc = some meth.sig)) = true) : (Jvm.Cond.code y bytes mx rt).before a s = true := by
  simp only [Bool.and_eq_true, beq_iff_eq, Bool.not_eq_true', decide_eq_true_eq] at h5
  obtain ⟨⟨⟨⟨⟨g1, g2⟩, g3⟩, g4⟩, g5⟩, g6⟩ := h5
  simp [Cond.before, Cond.holds, Cond.value, h1, h2, h3, h4, g1, g2, g3, g4, g5, g6]
def isCode : Jvm.Cond → Bool
  | .code _ _ _ _ => true
  | _ => false
theorem all_split {L : List Jvm.Cond} {P : Jvm.Cond → Bool} (h1 : L.all (fun c => isCode c || P c) = true) (h2 : ∀ c ∈ L.filter isCode, P c = true) : L.all P = true := by
  refine List.all_eq_true.mpr fun c hc => ?_
  have h := List.all_eq_true.mp h1 c hc
  rcases Bool.eq_false_or_eq_true (isCode c) with hi | hi
  · exact h2 c (List.mem_filter.mpr ⟨hc, hi⟩)
  · simpa [hi] using h
set_option maxRecDepth 65536 in
theorem w_c0 : (Jvm.Cond.code x code maxLocals ret).before args0 about1 = true := code_word (m := ⟨1, 1⟩) (meth := k1m1) (c := k1c1) (by decide +kernel) rfl rfl rfl (by decide +kernel)
set_option maxRecDepth 65536 in
theorem w_c1 : (Jvm.Cond.code ({ cls := "java/lang/Integer", name := "valueOf", desc := "(I)Ljava/lang/Integer;" } : Jvm.MethodName) jdk_33_method_22_code (1 : Nat) (Option.some (Jvm.ClassFile.FieldType.object "java/lang/Integer"))).before args0 about1 = true := code_word (m := ⟨7, 0⟩) (meth := k7m0) (c := k7c0) (by decide +kernel) rfl rfl rfl (by decide +kernel)
set_option maxRecDepth 65536 in
theorem w_c2 : (Jvm.Cond.code ({ cls := "com/example/grantd/grantd/front/Places$Waiting", name := "<init>", desc := "(Ljava/lang/Object;JJZ)V" } : Jvm.MethodName) prog_29_method_1_code (7 : Nat) (Option.none : Option Jvm.ClassFile.FieldType)).before args0 about1 = true := code_word (m := ⟨10, 0⟩) (meth := k10m0) (c := k10c0) (by decide +kernel) rfl rfl rfl (by decide +kernel)
set_option maxRecDepth 65536 in
theorem w_c3 : (Jvm.Cond.code ({ cls := "java/lang/Record", name := "<init>", desc := "()V" } : Jvm.MethodName) jdk_30_method_1_code (1 : Nat) (Option.none : Option Jvm.ClassFile.FieldType)).before args0 about1 = true := code_word (m := ⟨9, 0⟩) (meth := k9m0) (c := k9c0) (by decide +kernel) rfl rfl rfl (by decide +kernel)
set_option maxRecDepth 65536 in
theorem w_c4 : (Jvm.Cond.code ({ cls := "java/lang/Object", name := "<init>", desc := "()V" } : Jvm.MethodName) object_method_1_code (1 : Nat) (Option.none : Option Jvm.ClassFile.FieldType)).before args0 about1 = true := code_word (m := ⟨0, 0⟩) (meth := k0m0) (c := k0c0) (by decide +kernel) rfl rfl rfl (by decide +kernel)
set_option maxRecDepth 65536 in
theorem w_c5 : (Jvm.Cond.code ({ cls := "com/example/grantd/grantd/front/Places$Waiting", name := "isBetweenRequests", desc := "()Z" } : Jvm.MethodName) prog_29_method_2_code (1 : Nat) (Option.some Jvm.ClassFile.FieldType.boolean)).before args0 about1 = true := code_word (m := ⟨10, 1⟩) (meth := k10m1) (c := k10c1) (by decide +kernel) rfl rfl rfl (by decide +kernel)
set_option maxRecDepth 65536 in
theorem w_c6 : (Jvm.Cond.code ({ cls := "java/lang/Integer", name := "<init>", desc := "(I)V" } : Jvm.MethodName) jdk_33_method_23_code (2 : Nat) (Option.none : Option Jvm.ClassFile.FieldType)).before args0 about1 = true := code_word (m := ⟨7, 1⟩) (meth := k7m1) (c := k7c1) (by decide +kernel) rfl rfl rfl (by decide +kernel)
set_option maxRecDepth 65536 in
theorem w_c7 : (Jvm.Cond.code ({ cls := "java/lang/Number", name := "<init>", desc := "()V" } : Jvm.MethodName) jdk_18_method_1_code (1 : Nat) (Option.none : Option Jvm.ClassFile.FieldType)).before args0 about1 = true := code_word (m := ⟨3, 0⟩) (meth := k3m0) (c := k3c0) (by decide +kernel) rfl rfl rfl (by decide +kernel)
def codes1 : List Jvm.Cond := [Jvm.Cond.code x code maxLocals ret, Jvm.Cond.code ({ cls := "java/lang/Integer", name := "valueOf", desc := "(I)Ljava/lang/Integer;" } : Jvm.MethodName) jdk_33_method_22_code (1 : Nat) (Option.some (Jvm.ClassFile.FieldType.object "java/lang/Integer")), Jvm.Cond.code ({ cls := "com/example/grantd/grantd/front/Places$Waiting", name := "<init>", desc := "(Ljava/lang/Object;JJZ)V" } : Jvm.MethodName) prog_29_method_1_code (7 : Nat) (Option.none : Option Jvm.ClassFile.FieldType), Jvm.Cond.code ({ cls := "java/lang/Record", name := "<init>", desc := "()V" } : Jvm.MethodName) jdk_30_method_1_code (1 : Nat) (Option.none : Option Jvm.ClassFile.FieldType), Jvm.Cond.code ({ cls := "java/lang/Object", name := "<init>", desc := "()V" } : Jvm.MethodName) object_method_1_code (1 : Nat) (Option.none : Option Jvm.ClassFile.FieldType), Jvm.Cond.code ({ cls := "com/example/grantd/grantd/front/Places$Waiting", name := "isBetweenRequests", desc := "()Z" } : Jvm.MethodName) prog_29_method_2_code (1 : Nat) (Option.some Jvm.ClassFile.FieldType.boolean), Jvm.Cond.code ({ cls := "java/lang/Integer", name := "<init>", desc := "(I)V" } : Jvm.MethodName) jdk_33_method_23_code (2 : Nat) (Option.none : Option Jvm.ClassFile.FieldType), Jvm.Cond.code ({ cls := "java/lang/Number", name := "<init>", desc := "()V" } : Jvm.MethodName) jdk_18_method_1_code (1 : Nat) (Option.none : Option Jvm.ClassFile.FieldType)]
set_option maxRecDepth 65536 in
theorem codes_eq : words1.filter isCode = codes1 := rfl
theorem w_codes : ∀ c ∈ words1.filter isCode, c.before args0 about1 = true := by
  rw [codes_eq]
  intro c hc
  simp only [codes1, List.mem_cons, List.not_mem_nil, or_false] at hc
  rcases hc with rfl | rfl | rfl | rfl | rfl | rfl | rfl | rfl
  · exact w_c0
  · exact w_c1
  · exact w_c2
  · exact w_c3
  · exact w_c4
  · exact w_c5
  · exact w_c6
  · exact w_c7
set_option maxRecDepth 65536 in
theorem w_t1 : (words1.take 24).all (fun c => isCode c || c.before args0 about1) = true := by decide +kernel
set_option maxRecDepth 65536 in
theorem w_t2 : ((words1.drop 24).take 24).all (fun c => isCode c || c.before args0 about1) = true := by decide +kernel
set_option maxRecDepth 65536 in
theorem w_t3 : ((words1.drop 24).drop 24).all (fun c => isCode c || c.before args0 about1) = true := by decide +kernel
theorem w_tables : (allAtoms (Jvm.Cond.code x code maxLocals ret :: tables_1)).before args0 about1 = true := by
  rw [allAtoms_all]
  show words1.all (fun c => c.before args0 about1) = true
  refine all_split ?_ w_codes
  rw [← List.take_append_drop 24 words1, List.all_append, w_t1, ← List.take_append_drop 24 (words1.drop 24), List.all_append, w_t2, w_t3]
  rfl
set_option maxRecDepth 65536 in
theorem w_rest : rest_1_c.before args0 about1 = true := by decide +kernel
set_option maxRecDepth 65536 in
theorem w_case : (Jvm.Cond.and given_1 narrow_1).before args0 about1 = true := by decide +kernel
theorem w_applies : (headSpec (Jvm.Cond.code x code maxLocals ret :: tables_1) room_1).applies x e0.platform about1 = true :=
  (Spec.applies_iff w_frames).mpr ⟨w_running, w_runnable, w_alone, w_named, w_hears, w_ripe, w_room, w_tables⟩
theorem atStart : AtStart classFile x code maxLocals ret World_1 tables_1 room_1 Calls_1 rest_1 Pre_1 launch0 p0 e0 about1 theMethod args0 below0 :=
  ⟨lists_1, trivial, launch0.admits_env _ _ _, launch0.least_env, fairChoices_fair.cas, fairChoices_fair.clock, w_frames, w_args, w_heap, w_applies, trivial, w_rest, w_case⟩
end start1
theorem witness_1 : WitnessClaimed_1 := ⟨start1.p0, start1.e0, start1.about1, start1.theMethod, start1.args0, start1.below0, start1.atStart⟩
end Jvm.Pilot.@@N@@
