import JvmDerived
import JvmDerived.Pilot.@@N@@Statement
import JvmDerived.Pilot.@@N@@Code
set_option linter.unusedVariables false
set_option linter.unusedSimpArgs false
namespace Jvm.RoadKit
open Sem ClassFile Op Lib Jvm.Stand Jvm.Free Jvm.LawKit
section New
variable {p : Program} {l : Launch} {e : Env} {R : Room} {s : State} {m : MethodId} {args : Array Value} {below : List Frame} {meth : Method} {c : Code} {T : State} {locs : List Loc} {cells slots : Nat}
theorem retI (X : Stand p l e R s m args below meth c T locs cells slots) (hx : p.tables.exec = Jvm.exec) {pc : Nat} {Ls : Array Slot} {z : Int32} {rest : List Value} (hret : meth.sig.returnType = some .int) (hd : decode c.code pc = .ok (.ireturn, 1)) {fs : List Frame}
    (hl : ∀ (f : JFrame) (acts : List Action), f.method = m → f.locked = none → f.entered = [] → (doReturn e (T.setTop f) acts (some (.int z))).1 = T.setFrames fs) : Steps p.tables e below (T.setTop (mkF m pc Ls (.int z :: rest))) (T.setFrames fs) := by
  have hm' : T.vm.method? m = some meth := X.method'
  have hn : narrow .int (.int z) = .int z := rfl
  show Steps p.tables e below (T.setTop { method := m, pc := pc, locals := Ls, stack := _ :: rest, locked := none }) _
  jvm_step X.here [X.here.top, hx, hd, hm', hret, hn]
  first | (intro acts; rw [hl _ acts rfl rfl rfl]) | rw [hl _ _ rfl rfl rfl]
  exact Steps.refl _
end New
end Jvm.RoadKit
namespace Jvm.Pilot.@@N@@
open Jvm Jvm.ClassFile Sem Op Lib Jvm.Free Jvm.Stand Jvm.LawKit Jvm.RoadKit Bundle Jvm.Pilot.@@N@@.Jvm.D
theorem own_fld {Z : State} {args : Array Value} {t : Term} {C n d : String} {k : Int32} {x : Addr} (ht : t.eval args Z none [] Z = some (.ref x)) (h : (Jvm.Cond.eq (Term.field t C n d) (Term.int k)).value args Z none Z [] = some true) : Fld Z Z.heap x C n d (.int k) := by
  refine Fld.start ?_
  have e := fld_at (C := C) (n := n) (dd := d) ht
  obtain ⟨u, w, e1, e2, -, -⟩ := cmp_v (Or.inl h)
  rw [e] at e1
  have e3 : (Term.int k).eval args Z none [] Z = some (.int k) := Term.int_eval k
  cases e3.symm.trans e2
  have e4 : (Term.field t C n d).eval args Z none [] Z = some u := e.trans e1
  have h' := h
  cases u <;> simp [Jvm.Cond.value, e4, e3] at h'
  subst h'
  exact e1
theorem own_eqI {Z : State} {args : Array Value} {t : Term} {k : Int32} (h : (Jvm.Cond.eq t (Term.int k)).value args Z none Z [] = some true) : t.eval args Z none [] Z = some (.int k) := by
  obtain ⟨u, w, e1, e2, -, -⟩ := cmp_v (Or.inl h)
  have e3 : (Term.int k).eval args Z none [] Z = some (.int k) := Term.int_eval k
  cases e3.symm.trans e2
  have h' := h
  cases u <;> simp [Jvm.Cond.value, e1, e3] at h'
  subst h'
  exact e1
theorem own_maskHi (x m : Int32) (k : Nat) (hk : k ≤ 31) (hm : m.toBitVec.toNat = 2 ^ k - 1) : (x &&& m).toInt < ((2 ^ k : Nat) : Int) := by
  rw [c_mask x m k hk hm]; exact Int.emod_lt_of_pos _ (Int.natCast_pos.mpr (Nat.two_pow_pos k))
theorem own_maskLo (x m : Int32) (k : Nat) (hk : k ≤ 31) (hm : m.toBitVec.toNat = 2 ^ k - 1) : 0 ≤ (x &&& m).toInt := by
  rw [c_mask x m k hk hm]; exact Int.emod_nonneg _ (Int.natCast_ne_zero.mpr (Nat.ne_of_gt (Nat.two_pow_pos k)))
theorem own_remLo (x y : Int32) (hx : 0 ≤ x.toInt) (hy : 0 < y.toInt) : 0 ≤ (x % y).toInt := ((c_iremV x y).1 hx hy).1
theorem own_remHi (x y : Int32) (hx : 0 ≤ x.toInt) (hy : 0 < y.toInt) : (x % y).toInt < y.toInt := ((c_iremV x y).1 hx hy).2.1
theorem own_nf {s : State} {args : Array Value} {C : String} {z y : MethodName} (hsel : (Jvm.Cond.selects C z z).before args s = true) (e : z.cls = y.cls) : NotFace s y := fun r0 h0 => by
  obtain ⟨c2, r2, m2, -, -, q3, -, kP, hkP, hkPi⟩ := Cond.selects_spec hsel
  have a := findClass_of_methodNamed q3
  rw [e] at a
  have b : m2.cls = r0.cls := Option.some.inj (a.symm.trans (findClass_of_methodNamed h0))
  exact ⟨kP, b ▸ hkP, hkPi⟩
theorem own_privateBack {p : Program} {l : Launch} {e : Env} {R : Room} {s : State} {m : MethodId} {args : Array Value} {below : List Frame} {meth : Method} {c : Code} {T : State} {locs : List Loc} {cells slots : Nat} (X : Stand p l e R s m args below meth c T locs cells slots) (hexec : p.tables.exec = Jvm.exec) {own : String} {index : Nat} {y : MethodName} {bytes : ByteArray} {maxL : Nat} {ret : Option FieldType}
    (hown : s.vm.findClass own = some m.cls) (hlink : (Jvm.Cond.methodLink own index y).before args s = true) (hinst : (Jvm.Cond.instanceMethod y).before args s = true) (hnf : NotFace s y)
    (hpriv : s.PrivateAt y) (hcode : (Jvm.Cond.code y bytes maxL ret).before args s = true) (hy : y.cls ≠ "java/lang/invoke/MethodHandle" ∧ y.cls ≠ "java/lang/invoke/VarHandle")
    {W : Nat} {Pre : Pt → Array Value → Prop} {Post : Pt → Array Value → Option Value → Pt → Prop} (hK : Back l R p e below s args y 3 W Pre Post)
    {g : JFrame} (hg : g.method = m) (hsize : g.locals.size = c.maxLocals) {s₀ : State} (hcome : Steps p.tables e below s₀ (T.setTop g)) {a : Addr} {cell : Cell} (hcell : T.heap[a]? = some cell) (hobj : ∀ q, cell.vm ≠ .statics q)
    {argsL rest : List Value} (hlen : ∀ sig, parseMethodDescriptor y.desc = some sig → argsL.length = sig.parameters.length)
    (hstack : g.stack = argsL.reverse ++ .ref a :: rest) (hW : 2 * g.monitorRoom + (rest.map fun v => v.category).sum ≤ W) (hdg : decode c.code g.pc = .ok (.invokevirtual index, 3))
    (hpre : ∀ vm₁, s.WarmedH vm₁ → Pre ⟨T.setVm vm₁, locs, cells, slots⟩ (.ref a :: argsL).toArray) :
    ∃ (v : Option Value) (vm₁ : Vm) (B : Pt), s.WarmedH vm₁ ∧ Stand p l e R s m args below meth c B.U B.locs B.cells B.slots ∧ Post ⟨T.setVm vm₁, locs, cells, slots⟩ (.ref a :: argsL).toArray v B ∧
      Steps p.tables e below s₀ (B.U.setTop { g with pc := g.pc + 3, stack := v.toList ++ rest }) := by
  obtain ⟨mk, methM, hnamed, hmethM, hstM, habM⟩ := Cond.instanceMethod_spec hinst
  obtain ⟨_, _, hmeth2, -, -, -, -, -, -, hsigM⟩ := Cond.code_spec hnamed hcode
  cases hmethM.symm.trans hmeth2
  obtain ⟨kP, hkP, hkPi⟩ := hnf mk hnamed
  have hselP : selectMethod e.platform s.vm cell.cls mk = .method mk := selectMethod_private hmethM (hpriv mk methM hnamed hmethM)
  obtain ⟨vm₁, X₁, hstep₁⟩ := X.invokevirtual hexec hown hlink hnamed hmethM hstM hkP hkPi hy (a := a) (cell := cell) hcell hobj hselP hmethM habM hkP hkPi (g := g) hg (argsL := argsL) (rest := rest) (hlen _ hsigM) hstack hdg
  obtain ⟨v, B, X2, hpost, hsteps⟩ := hK m meth c ⟨T.setVm vm₁, locs, cells, slots⟩ { g with stack := rest } (.invokevirtual index) mk (.ref a :: argsL).toArray X₁ hg hsize hdg hW (X₁.named hnamed) (hpre vm₁ X₁.warmed)
  exact ⟨v, vm₁, B, X₁.warmed, X2, hpost, (hcome.trans (hstep₁ _ fun acts => by rw [doInvoke_state]; exact Steps.refl _)).trans hsteps⟩
theorem own_staKeep {Z : State} {h h' : Heap} {C n d : String} {v : Value} {ws : List Addr} (F : Sta Z h C n d v) (K : Keep h h' ws) (hn : ∀ x ∈ ws, ∀ cell : Cell, h[x]? = some cell → cell.vm.isStatics = false) : Sta Z h' C n d v := by
  obtain ⟨cf, i, k, f, st, cell, h1, h2, h3, h4, h5, h6, h7⟩ := F
  exact ⟨cf, i, k, f, st, cell, h1, h2, h3, h4, K.2.1 _ _ h5 (fun q => by rw [hn st q cell h5] at h6; cases h6), h6, h7⟩
theorem ef_0 (m : MethodId) (x0 : Int32) (x1 : Int64) (x2 : Int64) : entryFrame m #[(.int x0), (.long x1), (.long x2)] maxLocals = mkF m 0 #[.val (.int x0), .val (.long x1), .second, .val (.long x2), .second, .unset, .unset, .unset, .unset, .unset] [] := by first | (simp [entryFrame, mkF, argsToLocals, Value.category, maxLocals]; done) | rfl
theorem pn_0 : plainName "com/example/latticut/latticut/lang/ComparisonNegatedPinLaw" = true := by first | (simp [plainName, overriddenIn]; done) | decide +kernel
theorem d_method_2_0 : decode method_2_code 0 = .ok (.iload_n 0, 1) := by decide +kernel
theorem d_method_2_1 : decode method_2_code 1 = .ok (.ldc 7, 2) := by decide +kernel
theorem d_method_2_3 : decode method_2_code 3 = .ok (.iand, 1) := by decide +kernel
theorem d_method_2_4 : decode method_2_code 4 = .ok (.bipush 6, 2) := by decide +kernel
theorem d_method_2_6 : decode method_2_code 6 = .ok (.irem, 1) := by decide +kernel
theorem d_method_2_7 : decode method_2_code 7 = .ok (.istore_n 1, 1) := by decide +kernel
theorem d_method_2_8 : decode method_2_code 8 = .ok (.iload_n 1, 1) := by decide +kernel
theorem d_method_2_9 : decode method_2_code 9 = .ok (.ifCond .ne 7, 3) := by decide +kernel
theorem d_method_2_12 : decode method_2_code 12 = .ok (.getstatic 8, 3) := by decide +kernel
theorem d_method_2_15 : decode method_2_code 15 = .ok (.areturn, 1) := by decide +kernel
theorem ef_1 (m : MethodId) (x0 : Int32) : entryFrame m #[(.int x0)] 2 = mkF m 0 #[.val (.int x0), .unset] [] := by first | (simp [entryFrame, mkF, argsToLocals, Value.category, maxLocals]; done) | rfl
def Q1 (Z : State) (p1 : Int32) (a3 : Addr) (h0 : Heap) (n0 : Nat) (v : Option Value) (h : Heap) (L : List Loc) : Prop := v = some (.ref a3) ∧ Fr n0 L ∧ h = h0
set_option maxRecDepth 65536 in
set_option maxHeartbeats 40000000 in
theorem rm1 (l : Launch) (Z : State) (a0 : Array Value) (hw : ∀ d ∈ tables_1, d.before a0 Z = true) (ws : List Jvm.Cond) (p1 : Int32) (a3 : Addr) (h0 : Heap) (n0 : Nat) (Z0 : n0 ≤ h0.size) (hc2 : ((p1 &&& (2147483647 : Int32)) % (6 : Int32)) = (0 : Int32)) (S_EQUAL : Sta Z h0 "com/example/latticut/latticut/lang/Comparison" "EQUAL" "Lcom/example/latticut/latticut/lang/Comparison;" (.ref a3)) :
    MetFree l (⟨"com/example/latticut/latticut/lang/ComparisonNegatedPinLaw", "pick", "(I)Lcom/example/latticut/latticut/lang/Comparison;"⟩ : MethodName) (head1 (Jvm.Cond.code (⟨"com/example/latticut/latticut/lang/ComparisonNegatedPinLaw", "pick", "(I)Lcom/example/latticut/latticut/lang/Comparison;"⟩ : MethodName) method_2_code 2 (some (.object "com/example/latticut/latticut/lang/Comparison")) :: ws) ({ frames := 0, cells := 0, slots := 0, locals := 0 } : Room)) (fun a U => a = #[(.int p1)] ∧ Z.Warmed39 U.vm ∧ U.heap = h0) (fun _ _ _ _ _ => True) (fun _ U o U' => ∃ v L, o = .returned v ∧ Q1 Z p1 a3 h0 n0 v U'.heap L ∧ FrameEnd U o U' L ({ frames := 0, cells := 0, slots := 0, locals := 0 } : Room).cells ({ frames := 0, cells := 0, slots := 0, locals := 0 } : Room).slots) := by
  refine MetFree.of_bodySF (plainFor_of_name pn_0) hisR ?_
  intro p e s m args below meth c s₁ Bd hml0 hP hK
  obtain ⟨rfl, hZ, hh⟩ := hP
  have hx := Bd.exec
  have hby := Bd.bytes
  have hml : c.maxLocals = 2 := hml0
  have hown : s.vm.findClass "com/example/latticut/latticut/lang/ComparisonNegatedPinLaw" = some m.cls := findClass_of_methodNamed Bd.named
  have hnm := (name_of_methodNamed Bd.named Bd.method).1
  have X0 : Stand p l e ({ frames := 0, cells := 0, slots := 0, locals := 0 } : Room) s m #[(.int p1)] below meth c s₁ [] 0 0 := Stand.of_body Bd
  have e0 : s₁.heap = h0 := by rw [← hh, Bd.state]; rfl
  have N0 := Fr.nil n0
  have pre0 : ∀ t, Steps p.tables e below (s₁.setTop (mkF m 0 #[.val (.int p1), .unset] [])) t → Steps p.tables e below (s₁.setTop (entryFrame m #[(.int p1)] 2)) t := fun t k => castTop (ef_1 m (p1)) k
  obtain ⟨T4, X4, e4, st4⟩ := getS2 X0 hx hZ hown (host := "") (Or.inl (hw _ (List.mem_of_getElem? (i := 5) rfl))) Via.refl e0 S_EQUAL (g := (mkF m 12 #[.val (.int p1), .val (.int ((p1 &&& (2147483647 : Int32)) % (6 : Int32)))] [])) rfl (hb hby d_method_2_12)
  have pre5 : ∀ t, Steps p.tables e below (T4.setTop (mkF m 15 #[.val (.int p1), .val (.int ((p1 &&& (2147483647 : Int32)) % (6 : Int32)))] [(.ref a3)])) t → Steps p.tables e below (s₁.setTop (entryFrame m #[(.int p1)] 2)) t := fun t kk => pre0 t (by
    show Steps p.tables e below (s₁.setTop (mkF m 0 #[.val (.int p1), .unset] [])) _
    refine XS.iloadN X0.here hx rfl (hb hby d_method_2_0) rfl ?_
    show Steps p.tables e below (s₁.setTop (mkF m 1 #[.val (.int p1), .unset] [(.int p1)])) _
    refine X0.ldcInt hx hown (mvT hZ (hw _ (List.mem_of_getElem? (i := 4) rfl))) (g := (mkF m 1 #[.val (.int p1), .unset] [(.int p1)])) rfl (hb hby d_method_2_1) _ ?_
    show Steps p.tables e below (s₁.setTop (mkF m 3 #[.val (.int p1), .unset] [(.int (2147483647 : Int32)), (.int p1)])) _
    refine XS.iand X0.here hx rfl (hb hby d_method_2_3) rfl ?_
    show Steps p.tables e below (s₁.setTop (mkF m 4 #[.val (.int p1), .unset] [(.int (p1 &&& (2147483647 : Int32)))])) _
    refine XS.bipush X0.here hx rfl (hb hby d_method_2_4) ?_
    show Steps p.tables e below (s₁.setTop (mkF m 6 #[.val (.int p1), .unset] [(.int (6 : Int32)), (.int (p1 &&& (2147483647 : Int32)))])) _
    refine iremM X0 hx rfl (hb hby d_method_2_6) rfl (by decide) ?_
    show Steps p.tables e below (s₁.setTop (mkF m 7 #[.val (.int p1), .unset] [(.int ((p1 &&& (2147483647 : Int32)) % (6 : Int32)))])) _
    refine XS.istoreN X0.here hx rfl (hb hby d_method_2_7) rfl (l' := #[.val (.int p1), .val (.int ((p1 &&& (2147483647 : Int32)) % (6 : Int32)))]) rfl ?_
    show Steps p.tables e below (s₁.setTop (mkF m 8 #[.val (.int p1), .val (.int ((p1 &&& (2147483647 : Int32)) % (6 : Int32)))] [])) _
    refine XS.iloadN X0.here hx rfl (hb hby d_method_2_8) rfl ?_
    show Steps p.tables e below (s₁.setTop (mkF m 9 #[.val (.int p1), .val (.int ((p1 &&& (2147483647 : Int32)) % (6 : Int32)))] [(.int ((p1 &&& (2147483647 : Int32)) % (6 : Int32)))])) _
    refine XS.ifNo X0.here hx rfl (hb hby d_method_2_9) rfl ((if0 _ _).trans (teq (hc2 : ((p1 &&& (2147483647 : Int32)) % (6 : Int32)) = (0 : Int32))).2) ?_
    show Steps p.tables e below (s₁.setTop (mkF m 12 #[.val (.int p1), .val (.int ((p1 &&& (2147483647 : Int32)) % (6 : Int32)))] [])) _
    refine st4 _ ?_
    exact kk)
  obtain ⟨fs, hr, hrun, hended, hW, hsame⟩ := X4.leave (v := some (.ref a3)) (fun h => by rw [Bd.returns] at h; cases h)
  refine ⟨_, _, pre5 _ ?_, hrun, hended, _, _, rfl, ?_, ⟨_, rfl⟩, hW, hsame.mono (by decide) (by decide)⟩
  · exact retOut X4 hx Bd.returns rfl (Or.inr (Or.inr (Or.inr (Or.inr ⟨rfl, rfl, rfl⟩)))) (hb hby d_method_2_15) hr
  · show Q1 Z p1 a3 h0 n0 _ T4.heap _
    rw [e4]
    exact ⟨rfl, N0, rfl⟩
theorem pd_0 : parseMethodDescriptor "(I)Lcom/example/latticut/latticut/lang/Comparison;" = some ⟨[.int], some (.object "com/example/latticut/latticut/lang/Comparison")⟩ := by decide +kernel
theorem d_prog_137_method_8_0 : decode prog_137_method_8_code 0 = .ok (.aload_n 0, 1) := by decide +kernel
theorem d_prog_137_method_8_1 : decode prog_137_method_8_code 1 = .ok (.getstatic 3, 3) := by decide +kernel
theorem d_prog_137_method_8_4 : decode prog_137_method_8_code 4 = .ok (.if_acmp .ne 10, 3) := by decide +kernel
theorem d_prog_137_method_8_7 : decode prog_137_method_8_code 7 = .ok (.getstatic 7, 3) := by decide +kernel
theorem d_prog_137_method_8_10 : decode prog_137_method_8_code 10 = .ok (.astore_n 1, 1) := by decide +kernel
theorem d_prog_137_method_8_11 : decode prog_137_method_8_code 11 = .ok (.goto 63, 3) := by decide +kernel
theorem d_prog_137_method_8_74 : decode prog_137_method_8_code 74 = .ok (.aload_n 1, 1) := by decide +kernel
theorem d_prog_137_method_8_75 : decode prog_137_method_8_code 75 = .ok (.areturn, 1) := by decide +kernel
theorem ef_2 (m : MethodId) (x0 : Addr) : entryFrame m #[(.ref x0)] 2 = mkF m 0 #[.val (.ref x0), .unset] [] := by first | (simp [entryFrame, mkF, argsToLocals, Value.category, maxLocals]; done) | rfl
theorem pn_1 : plainName "com/example/latticut/latticut/lang/Comparison" = true := by first | (simp [plainName, overriddenIn]; done) | decide +kernel
def Q2 (Z : State) (a1 : Addr) (a3 : Addr) (h0 : Heap) (n0 : Nat) (v : Option Value) (h : Heap) (L : List Loc) : Prop := v = some (.ref a3) ∧ Fr n0 L ∧ h = h0
set_option maxRecDepth 65536 in
set_option maxHeartbeats 40000000 in
theorem rm2 (l : Launch) (Z : State) (a0 : Array Value) (hw : ∀ d ∈ tables_1, d.before a0 Z = true) (ws : List Jvm.Cond) (a1 : Addr) (a3 : Addr) (h0 : Heap) (n0 : Nat) (Z0 : n0 ≤ h0.size) (S_EQUAL : Sta Z h0 "com/example/latticut/latticut/lang/Comparison" "EQUAL" "Lcom/example/latticut/latticut/lang/Comparison;" (.ref a1)) (S_NOT_EQUAL : Sta Z h0 "com/example/latticut/latticut/lang/Comparison" "NOT_EQUAL" "Lcom/example/latticut/latticut/lang/Comparison;" (.ref a3)) :
    MetFree l (⟨"com/example/latticut/latticut/lang/Comparison", "negated", "()Lcom/example/latticut/latticut/lang/Comparison;"⟩ : MethodName) (head1 (Jvm.Cond.code (⟨"com/example/latticut/latticut/lang/Comparison", "negated", "()Lcom/example/latticut/latticut/lang/Comparison;"⟩ : MethodName) prog_137_method_8_code 2 (some (.object "com/example/latticut/latticut/lang/Comparison")) :: ws) ({ frames := 0, cells := 0, slots := 0, locals := 0 } : Room)) (fun a U => a = #[(.ref a1)] ∧ Z.Warmed39 U.vm ∧ U.heap = h0) (fun _ _ _ _ _ => True) (fun _ U o U' => ∃ v L, o = .returned v ∧ Q2 Z a1 a3 h0 n0 v U'.heap L ∧ FrameEnd U o U' L ({ frames := 0, cells := 0, slots := 0, locals := 0 } : Room).cells ({ frames := 0, cells := 0, slots := 0, locals := 0 } : Room).slots) := by
  refine MetFree.of_bodySF (plainFor_of_name pn_1) hisR ?_
  intro p e s m args below meth c s₁ Bd hml0 hP hK
  obtain ⟨rfl, hZ, hh⟩ := hP
  have hx := Bd.exec
  have hby := Bd.bytes
  have hml : c.maxLocals = 2 := hml0
  have hown : s.vm.findClass "com/example/latticut/latticut/lang/Comparison" = some m.cls := findClass_of_methodNamed Bd.named
  have hnm := (name_of_methodNamed Bd.named Bd.method).1
  have X0 : Stand p l e ({ frames := 0, cells := 0, slots := 0, locals := 0 } : Room) s m #[(.ref a1)] below meth c s₁ [] 0 0 := Stand.of_body Bd
  have e0 : s₁.heap = h0 := by rw [← hh, Bd.state]; rfl
  have N0 := Fr.nil n0
  have pre0 : ∀ t, Steps p.tables e below (s₁.setTop (mkF m 0 #[.val (.ref a1), .unset] [])) t → Steps p.tables e below (s₁.setTop (entryFrame m #[(.ref a1)] 2)) t := fun t k => castTop (ef_2 m a1) k
  obtain ⟨T2, X2, e2, st2⟩ := getS2 X0 hx hZ hown (host := "") (Or.inl (hw _ (List.mem_of_getElem? (i := 13) rfl))) Via.refl e0 S_EQUAL (g := (mkF m 1 #[.val (.ref a1), .unset] [(.ref a1)])) rfl (hb hby d_prog_137_method_8_1)
  obtain ⟨T4, X4, e4, st4⟩ := getS2 X2 hx hZ hown (host := "") (Or.inl (hw _ (List.mem_of_getElem? (i := 14) rfl))) Via.refl e2 S_NOT_EQUAL (g := (mkF m 7 #[.val (.ref a1), .unset] [])) rfl (hb hby d_prog_137_method_8_7)
  have pre5 : ∀ t, Steps p.tables e below (T4.setTop (mkF m 75 #[.val (.ref a1), .val (.ref a3)] [(.ref a3)])) t → Steps p.tables e below (s₁.setTop (entryFrame m #[(.ref a1)] 2)) t := fun t kk => pre0 t (by
    show Steps p.tables e below (s₁.setTop (mkF m 0 #[.val (.ref a1), .unset] [])) _
    refine XS.aloadN X0.here hx rfl (hb hby d_prog_137_method_8_0) rfl rfl ?_
    show Steps p.tables e below (s₁.setTop (mkF m 1 #[.val (.ref a1), .unset] [(.ref a1)])) _
    refine st2 _ ?_
    show Steps p.tables e below (T2.setTop (mkF m 4 #[.val (.ref a1), .unset] [(.ref a1), (.ref a1)])) _
    refine Jvm.RoadKit.acmp (g := (mkF m 4 #[.val (.ref a1), .unset] [(.ref a1), (.ref a1)])) X2 hx rfl rfl rfl (pc0 := 4) (pc' := 7) (same := true) rfl (hb hby d_prog_137_method_8_4) rfl (decide_eq_true rfl) (by decide) (by decide) ?_
    show Steps p.tables e below (T2.setTop (mkF m 7 #[.val (.ref a1), .unset] [])) _
    refine st4 _ ?_
    show Steps p.tables e below (T4.setTop (mkF m 10 #[.val (.ref a1), .unset] [(.ref a3)])) _
    refine XS.astoreN X4.here hx rfl (hb hby d_prog_137_method_8_10) rfl rfl (l' := #[.val (.ref a1), .val (.ref a3)]) rfl ?_
    show Steps p.tables e below (T4.setTop (mkF m 11 #[.val (.ref a1), .val (.ref a3)] [])) _
    refine XS.goto X4.here hx rfl (pc0 := 11) (pc' := 74) rfl (hb hby d_prog_137_method_8_11) (by decide) (by decide) ?_
    show Steps p.tables e below (T4.setTop (mkF m 74 #[.val (.ref a1), .val (.ref a3)] [])) _
    refine XS.aloadN X4.here hx rfl (hb hby d_prog_137_method_8_74) rfl rfl ?_
    exact kk)
  obtain ⟨fs, hr, hrun, hended, hW, hsame⟩ := X4.leave (v := some (.ref a3)) (fun h => by rw [Bd.returns] at h; cases h)
  refine ⟨_, _, pre5 _ ?_, hrun, hended, _, _, rfl, ?_, ⟨_, rfl⟩, hW, hsame.mono (by decide) (by decide)⟩
  · exact retOut X4 hx Bd.returns rfl (Or.inr (Or.inr (Or.inr (Or.inr ⟨rfl, rfl, rfl⟩)))) (hb hby d_prog_137_method_8_75) hr
  · show Q2 Z a1 a3 h0 n0 _ T4.heap _
    rw [e4]
    exact ⟨rfl, N0, rfl⟩
theorem pd_1 : parseMethodDescriptor "()Lcom/example/latticut/latticut/lang/Comparison;" = some ⟨[], some (.object "com/example/latticut/latticut/lang/Comparison")⟩ := by decide +kernel
theorem d_prog_137_method_6_0 : decode prog_137_method_6_code 0 = .ok (.aload_n 0, 1) := by decide +kernel
theorem d_prog_137_method_6_1 : decode prog_137_method_6_code 1 = .ok (.lload_n 1, 1) := by decide +kernel
theorem d_prog_137_method_6_2 : decode prog_137_method_6_code 2 = .ok (.lload_n 3, 1) := by decide +kernel
theorem d_prog_137_method_6_3 : decode prog_137_method_6_code 3 = .ok (.invokestatic 72, 3) := by decide +kernel
theorem d_jdk_35_method_42_0 : decode jdk_35_method_42_code 0 = .ok (.lload_n 0, 1) := by decide +kernel
theorem d_jdk_35_method_42_1 : decode jdk_35_method_42_code 1 = .ok (.lload_n 2, 1) := by decide +kernel
theorem d_jdk_35_method_42_2 : decode jdk_35_method_42_code 2 = .ok (.lcmp, 1) := by decide +kernel
theorem d_jdk_35_method_42_3 : decode jdk_35_method_42_code 3 = .ok (.ifCond .ge 7, 3) := by decide +kernel
theorem d_jdk_35_method_42_6 : decode jdk_35_method_42_code 6 = .ok (.iconst (-1), 1) := by decide +kernel
theorem d_jdk_35_method_42_7 : decode jdk_35_method_42_code 7 = .ok (.goto 14, 3) := by decide +kernel
theorem d_jdk_35_method_42_21 : decode jdk_35_method_42_code 21 = .ok (.ireturn, 1) := by decide +kernel
theorem ef_3 (m : MethodId) (x0 : Int64) (x1 : Int64) : entryFrame m #[(.long x0), (.long x1)] 4 = mkF m 0 #[.val (.long x0), .second, .val (.long x1), .second] [] := by first | (simp [entryFrame, mkF, argsToLocals, Value.category, maxLocals]; done) | rfl
theorem pn_2 : plainName "java/lang/Long" = true := by first | (simp [plainName, overriddenIn]; done) | decide +kernel
def Q3 (Z : State) (q1 : Int64) (q2 : Int64) (h0 : Heap) (n0 : Nat) (v : Option Value) (h : Heap) (L : List Loc) : Prop := v = some (.int (-1 : Int32)) ∧ Fr n0 L ∧ h = h0
set_option maxRecDepth 65536 in
set_option maxHeartbeats 40000000 in
theorem rm3 (l : Launch) (Z : State) (a0 : Array Value) (hw : ∀ d ∈ tables_1, d.before a0 Z = true) (ws : List Jvm.Cond) (q1 : Int64) (q2 : Int64) (h0 : Heap) (n0 : Nat) (Z0 : n0 ≤ h0.size) (hc3 : (lcmpW q1 q2) < (0 : Int32)) :
    MetFree l (⟨"java/lang/Long", "compare", "(JJ)I"⟩ : MethodName) (head1 (Jvm.Cond.code (⟨"java/lang/Long", "compare", "(JJ)I"⟩ : MethodName) jdk_35_method_42_code 4 (some .int) :: ws) ({ frames := 0, cells := 0, slots := 0, locals := 0 } : Room)) (fun a U => a = #[(.long q1), (.long q2)] ∧ Z.Warmed39 U.vm ∧ U.heap = h0) (fun _ _ _ _ _ => True) (fun _ U o U' => ∃ v L, o = .returned v ∧ Q3 Z q1 q2 h0 n0 v U'.heap L ∧ FrameEnd U o U' L ({ frames := 0, cells := 0, slots := 0, locals := 0 } : Room).cells ({ frames := 0, cells := 0, slots := 0, locals := 0 } : Room).slots) := by
  refine MetFree.of_bodySF (plainFor_of_name pn_2) hisR ?_
  intro p e s m args below meth c s₁ Bd hml0 hP hK
  obtain ⟨rfl, hZ, hh⟩ := hP
  have hx := Bd.exec
  have hby := Bd.bytes
  have hml : c.maxLocals = 4 := hml0
  have hown : s.vm.findClass "java/lang/Long" = some m.cls := findClass_of_methodNamed Bd.named
  have hnm := (name_of_methodNamed Bd.named Bd.method).1
  have X0 : Stand p l e ({ frames := 0, cells := 0, slots := 0, locals := 0 } : Room) s m #[(.long q1), (.long q2)] below meth c s₁ [] 0 0 := Stand.of_body Bd
  have e0 : s₁.heap = h0 := by rw [← hh, Bd.state]; rfl
  have N0 := Fr.nil n0
  have pre0 : ∀ t, Steps p.tables e below (s₁.setTop (mkF m 0 #[.val (.long q1), .second, .val (.long q2), .second] [])) t → Steps p.tables e below (s₁.setTop (entryFrame m #[(.long q1), (.long q2)] 4)) t := fun t k => castTop (ef_3 m (q1) (q2)) k
  have pre4 : ∀ t, Steps p.tables e below (s₁.setTop (mkF m 21 #[.val (.long q1), .second, .val (.long q2), .second] [(.int (-1 : Int32))])) t → Steps p.tables e below (s₁.setTop (entryFrame m #[(.long q1), (.long q2)] 4)) t := fun t kk => pre0 t (by
    show Steps p.tables e below (s₁.setTop (mkF m 0 #[.val (.long q1), .second, .val (.long q2), .second] [])) _
    refine XS.lloadN X0.here hx rfl (hb hby d_jdk_35_method_42_0) rfl ?_
    show Steps p.tables e below (s₁.setTop (mkF m 1 #[.val (.long q1), .second, .val (.long q2), .second] [(.long q1)])) _
    refine XS.lloadN X0.here hx rfl (hb hby d_jdk_35_method_42_1) rfl ?_
    show Steps p.tables e below (s₁.setTop (mkF m 2 #[.val (.long q1), .second, .val (.long q2), .second] [(.long q2), (.long q1)])) _
    refine XS.lcmp X0.here hx rfl (hb hby d_jdk_35_method_42_2) rfl ?_
    show Steps p.tables e below (s₁.setTop (mkF m 3 #[.val (.long q1), .second, .val (.long q2), .second] [(.int (lcmpW q1 q2))])) _
    refine XS.ifNo X0.here hx rfl (hb hby d_jdk_35_method_42_3) rfl ((if0 _ _).trans (tlt (hc3 : (lcmpW q1 q2) < (0 : Int32))).2.1) ?_
    show Steps p.tables e below (s₁.setTop (mkF m 6 #[.val (.long q1), .second, .val (.long q2), .second] [])) _
    refine XS.iconst X0.here hx rfl (hb hby d_jdk_35_method_42_6) ?_
    show Steps p.tables e below (s₁.setTop (mkF m 7 #[.val (.long q1), .second, .val (.long q2), .second] [(.int (-1 : Int32))])) _
    refine XS.goto X0.here hx rfl (pc0 := 7) (pc' := 21) rfl (hb hby d_jdk_35_method_42_7) (by decide) (by decide) ?_
    exact kk)
  obtain ⟨fs, hr, hrun, hended, hW, hsame⟩ := X0.leave (v := some (.int (-1 : Int32))) (fun h => by rw [Bd.returns] at h; cases h)
  refine ⟨_, _, pre4 _ ?_, hrun, hended, _, _, rfl, ?_, ⟨_, rfl⟩, hW, hsame.mono (by decide) (by decide)⟩
  · exact retI X0 hx Bd.returns (hb hby d_jdk_35_method_42_21) hr
  · show Q3 Z q1 q2 h0 n0 _ s₁.heap _
    rw [e0]
    exact ⟨rfl, N0, rfl⟩
theorem pd_2 : parseMethodDescriptor "(JJ)I" = some ⟨[.long, .long], some .int⟩ := by decide +kernel
theorem d_prog_137_method_6_6 : decode prog_137_method_6_code 6 = .ok (.invokevirtual 78, 3) := by decide +kernel
theorem d_prog_137_method_9_0 : decode prog_137_method_9_code 0 = .ok (.iload_n 1, 1) := by decide +kernel
theorem d_prog_137_method_9_1 : decode prog_137_method_9_code 1 = .ok (.ifCond .ge 10, 3) := by decide +kernel
theorem d_prog_137_method_9_4 : decode prog_137_method_9_code 4 = .ok (.aload_n 0, 1) := by decide +kernel
theorem d_prog_137_method_9_5 : decode prog_137_method_9_code 5 = .ok (.getfield 45, 3) := by decide +kernel
theorem d_prog_137_method_9_8 : decode prog_137_method_9_code 8 = .ok (.goto 18, 3) := by decide +kernel
theorem d_prog_137_method_9_26 : decode prog_137_method_9_code 26 = .ok (.ireturn, 1) := by decide +kernel
theorem ef_4 (m : MethodId) (x0 : Addr) : entryFrame m #[(.ref x0), (.int (-1 : Int32))] 2 = mkF m 0 #[.val (.ref x0), .val (.int (-1 : Int32))] [] := by first | (simp [entryFrame, mkF, argsToLocals, Value.category, maxLocals]; done) | rfl
def Q4 (Z : State) (a1 : Addr) (h0 : Heap) (n0 : Nat) (v : Option Value) (h : Heap) (L : List Loc) : Prop := v = some (.int (1 : Int32)) ∧ Fr n0 L ∧ h = h0
set_option maxRecDepth 65536 in
set_option maxHeartbeats 40000000 in
theorem rm4 (l : Launch) (Z : State) (a0 : Array Value) (hw : ∀ d ∈ tables_1, d.before a0 Z = true) (ws : List Jvm.Cond) (a1 : Addr) (h0 : Heap) (n0 : Nat) (Z0 : n0 ≤ h0.size) (F_whenLess_a1 : Fld Z h0 a1 "com/example/latticut/latticut/lang/Comparison" "whenLess" "Z" (.int (1 : Int32))) :
    MetFree l (⟨"com/example/latticut/latticut/lang/Comparison", "holds", "(I)Z"⟩ : MethodName) (head1 (Jvm.Cond.code (⟨"com/example/latticut/latticut/lang/Comparison", "holds", "(I)Z"⟩ : MethodName) prog_137_method_9_code 2 (some .boolean) :: ws) ({ frames := 0, cells := 0, slots := 0, locals := 0 } : Room)) (fun a U => a = #[(.ref a1), (.int (-1 : Int32))] ∧ Z.Warmed39 U.vm ∧ U.heap = h0) (fun _ _ _ _ _ => True) (fun _ U o U' => ∃ v L, o = .returned v ∧ Q4 Z a1 h0 n0 v U'.heap L ∧ FrameEnd U o U' L ({ frames := 0, cells := 0, slots := 0, locals := 0 } : Room).cells ({ frames := 0, cells := 0, slots := 0, locals := 0 } : Room).slots) := by
  refine MetFree.of_bodySF (plainFor_of_name pn_1) hisR ?_
  intro p e s m args below meth c s₁ Bd hml0 hP hK
  obtain ⟨rfl, hZ, hh⟩ := hP
  have hx := Bd.exec
  have hby := Bd.bytes
  have hml : c.maxLocals = 2 := hml0
  have hown : s.vm.findClass "com/example/latticut/latticut/lang/Comparison" = some m.cls := findClass_of_methodNamed Bd.named
  have hnm := (name_of_methodNamed Bd.named Bd.method).1
  have X0 : Stand p l e ({ frames := 0, cells := 0, slots := 0, locals := 0 } : Room) s m #[(.ref a1), (.int (-1 : Int32))] below meth c s₁ [] 0 0 := Stand.of_body Bd
  have e0 : s₁.heap = h0 := by rw [← hh, Bd.state]; rfl
  have N0 := Fr.nil n0
  have pre0 : ∀ t, Steps p.tables e below (s₁.setTop (mkF m 0 #[.val (.ref a1), .val (.int (-1 : Int32))] [])) t → Steps p.tables e below (s₁.setTop (entryFrame m #[(.ref a1), (.int (-1 : Int32))] 2)) t := fun t k => castTop (ef_4 m a1) k
  obtain ⟨T2, X2, e2, st2⟩ := getF X0 hx hZ hown (host := "") (Or.inl (hw _ (List.mem_of_getElem? (i := 33) rfl))) Via.refl e0 F_whenLess_a1 (g := (mkF m 5 #[.val (.ref a1), .val (.int (-1 : Int32))] [(.ref a1)])) rfl rfl (hb hby d_prog_137_method_9_5)
  have pre3 : ∀ t, Steps p.tables e below (T2.setTop (mkF m 26 #[.val (.ref a1), .val (.int (-1 : Int32))] [(.int (1 : Int32))])) t → Steps p.tables e below (s₁.setTop (entryFrame m #[(.ref a1), (.int (-1 : Int32))] 2)) t := fun t kk => pre0 t (by
    show Steps p.tables e below (s₁.setTop (mkF m 0 #[.val (.ref a1), .val (.int (-1 : Int32))] [])) _
    refine XS.iloadN X0.here hx rfl (hb hby d_prog_137_method_9_0) rfl ?_
    show Steps p.tables e below (s₁.setTop (mkF m 1 #[.val (.ref a1), .val (.int (-1 : Int32))] [(.int (-1 : Int32))])) _
    refine XS.ifNo X0.here hx rfl (hb hby d_prog_137_method_9_1) rfl ((if0 _ _).trans (tlt ((by decide) : (-1 : Int32) < (0 : Int32))).2.1) ?_
    show Steps p.tables e below (s₁.setTop (mkF m 4 #[.val (.ref a1), .val (.int (-1 : Int32))] [])) _
    refine XS.aloadN X0.here hx rfl (hb hby d_prog_137_method_9_4) rfl rfl ?_
    show Steps p.tables e below (s₁.setTop (mkF m 5 #[.val (.ref a1), .val (.int (-1 : Int32))] [(.ref a1)])) _
    refine st2 _ ?_
    show Steps p.tables e below (T2.setTop (mkF m 8 #[.val (.ref a1), .val (.int (-1 : Int32))] [(.int (1 : Int32))])) _
    refine XS.goto X2.here hx rfl (pc0 := 8) (pc' := 26) rfl (hb hby d_prog_137_method_9_8) (by decide) (by decide) ?_
    exact kk)
  obtain ⟨fs, hr, hrun, hended, hW, hsame⟩ := X2.leave (v := some (.int (1 : Int32))) (fun h => by rw [Bd.returns] at h; cases h)
  refine ⟨_, _, pre3 _ ?_, hrun, hended, _, _, rfl, ?_, ⟨_, rfl⟩, hW, hsame.mono (by decide) (by decide)⟩
  · exact retN X2 hx (t := .boolean) Bd.returns (by simp) (hb hby d_prog_137_method_9_26) hr
  · show Q4 Z a1 h0 n0 _ T2.heap _
    rw [e2]
    exact ⟨rfl, N0, rfl⟩
theorem pd_3 : parseMethodDescriptor "(I)Z" = some ⟨[.int], some .boolean⟩ := by decide +kernel
theorem d_prog_137_method_6_9 : decode prog_137_method_6_code 9 = .ok (.ireturn, 1) := by decide +kernel
theorem ef_5 (m : MethodId) (x0 : Addr) (x1 : Int64) (x2 : Int64) : entryFrame m #[(.ref x0), (.long x1), (.long x2)] 5 = mkF m 0 #[.val (.ref x0), .val (.long x1), .second, .val (.long x2), .second] [] := by first | (simp [entryFrame, mkF, argsToLocals, Value.category, maxLocals]; done) | rfl
def Q5 (Z : State) (a1 : Addr) (q2 : Int64) (q3 : Int64) (h0 : Heap) (n0 : Nat) (v : Option Value) (h : Heap) (L : List Loc) : Prop := v = some (.int (1 : Int32)) ∧ Fr n0 L ∧ h = h0
set_option maxRecDepth 65536 in
set_option maxHeartbeats 40000000 in
theorem rm5 (l : Launch) (Z : State) (a0 : Array Value) (hw : ∀ d ∈ tables_1, d.before a0 Z = true) (ws : List Jvm.Cond) (a1 : Addr) (q2 : Int64) (q3 : Int64) (h0 : Heap) (n0 : Nat) (Z0 : n0 ≤ h0.size) (hc4 : (lcmpW q2 q3) < (0 : Int32)) (F_whenLess_a1 : Fld Z h0 a1 "com/example/latticut/latticut/lang/Comparison" "whenLess" "Z" (.int (1 : Int32))) (E_a1 : Exa Z h0 a1 "com/example/latticut/latticut/lang/Comparison") :
    MetFree l (⟨"com/example/latticut/latticut/lang/Comparison", "test", "(JJ)Z"⟩ : MethodName) (head1 (Jvm.Cond.code (⟨"com/example/latticut/latticut/lang/Comparison", "test", "(JJ)Z"⟩ : MethodName) prog_137_method_6_code 5 (some .boolean) :: ws) ({ frames := 1, cells := 0, slots := 0, locals := 16 } : Room)) (fun a U => a = #[(.ref a1), (.long q2), (.long q3)] ∧ Z.Warmed39 U.vm ∧ U.heap = h0) (fun _ _ _ _ _ => True) (fun _ U o U' => ∃ v L, o = .returned v ∧ Q5 Z a1 q2 q3 h0 n0 v U'.heap L ∧ FrameEnd U o U' L ({ frames := 1, cells := 0, slots := 0, locals := 16 } : Room).cells ({ frames := 1, cells := 0, slots := 0, locals := 16 } : Room).slots) := by
  refine MetFree.of_bodySF (plainFor_of_name pn_1) hisR ?_
  intro p e s m args below meth c s₁ Bd hml0 hP hK
  obtain ⟨rfl, hZ, hh⟩ := hP
  have hx := Bd.exec
  have hby := Bd.bytes
  have hml : c.maxLocals = 5 := hml0
  have hown : s.vm.findClass "com/example/latticut/latticut/lang/Comparison" = some m.cls := findClass_of_methodNamed Bd.named
  have hnm := (name_of_methodNamed Bd.named Bd.method).1
  have X0 : Stand p l e ({ frames := 1, cells := 0, slots := 0, locals := 16 } : Room) s m #[(.ref a1), (.long q2), (.long q3)] below meth c s₁ [] 0 0 := Stand.of_body Bd
  have e0 : s₁.heap = h0 := by rw [← hh, Bd.state]; rfl
  have N0 := Fr.nil n0
  have pre0 : ∀ t, Steps p.tables e below (s₁.setTop (mkF m 0 #[.val (.ref a1), .val (.long q2), .second, .val (.long q3), .second] [])) t → Steps p.tables e below (s₁.setTop (entryFrame m #[(.ref a1), (.long q2), (.long q3)] 5)) t := fun t k => castTop (ef_5 m a1 (q2) (q3)) k
  obtain ⟨_, _, ⟨T5, L5, k5, n5⟩, -, X5, ⟨Lc5, hQ5, l5, y5, z5⟩, st5⟩ := Jvm.LawKit.callS X0 hx (y := (⟨"java/lang/Long", "compare", "(JJ)I"⟩ : MethodName)) hown (mvT hZ (hw _ (List.mem_of_getElem? (i := 21) rfl))) (mvT hZ (hw _ (List.mem_of_getElem? (i := 22) rfl))) (mvT hZ (hw _ (List.mem_of_getElem? (i := 23) rfl))) (mvT hZ (hw _ (List.mem_of_getElem? (i := 24) rfl))) (by decide) (backOf (W := 1) (rm3 l Z a0 hw [] q2 q3 h0 n0 Z0 hc4) hZ (hw _ (List.mem_of_getElem? (i := 24) rfl)) (hw _ (List.mem_of_getElem? (i := 23) rfl)) (by decide) (by decide)) (g := (mkF m 3 #[.val (.ref a1), .val (.long q2), .second, .val (.long q3), .second] [(.long q3), (.long q2), (.ref a1)])) rfl (by rw [hml]; rfl) (argsL := [(.long q2), (.long q3)]) (rest := [(.ref a1)]) (lenOf pd_2 rfl) rfl (by show 2 * 0 + _ ≤ _; exact Nat.le_of_eq rfl) (hb hby d_prog_137_method_6_3) (fun _ _ => ⟨rfl, e0, (by decide : 0 + 0 ≤ _), (by decide : 0 + 0 ≤ _)⟩)
  dsimp only [Pt.U, Pt.locs, Pt.cells, Pt.slots] at X5 l5 y5 z5 st5 hQ5
  subst l5 y5 z5
  obtain ⟨rfl, N5q, e5⟩ := hQ5
  have N5 := Fr.app N0 N5q
  obtain ⟨cq6, q6, q6'⟩ := E_a1.cell
  obtain ⟨_, _, ⟨T6, L6, k6, n6⟩, -, X6, ⟨Lc6, hQ6, l6, y6, z6⟩, st6⟩ := own_privateBack X5 hx (y := (⟨"com/example/latticut/latticut/lang/Comparison", "holds", "(I)Z"⟩ : MethodName)) hown (mvT hZ (hw _ (List.mem_of_getElem? (i := 25) rfl))) (mvT hZ (hw _ (List.mem_of_getElem? (i := 26) rfl))) (own_nf (args := #[]) (mvT hZ (hw _ (List.mem_of_getElem? (i := 19) rfl))) rfl) (Cond.privateMethod_at (mvP hZ (hw _ (List.mem_of_getElem? (i := 27) rfl)) (args := #[]))) (mvT hZ (hw _ (List.mem_of_getElem? (i := 28) rfl))) (by decide) (backOf (W := 0) (rm4 l Z a0 hw [] a1 h0 n0 Z0 F_whenLess_a1) hZ (hw _ (List.mem_of_getElem? (i := 28) rfl)) (hw _ (List.mem_of_getElem? (i := 6) rfl)) (by decide) (by decide)) (g := (mkF m 6 #[.val (.ref a1), .val (.long q2), .second, .val (.long q3), .second] [(.int (-1 : Int32)), (.ref a1)])) rfl (by rw [hml]; rfl) (Steps.refl _) (a := a1) (by rw [e5]; exact q6) q6' (argsL := [(.int (-1 : Int32))]) (rest := []) (lenOf pd_3 rfl) rfl (by show 2 * 0 + _ ≤ _; exact Nat.le_of_eq rfl) (hb hby d_prog_137_method_6_6) (fun _ _ => ⟨rfl, e5, (by decide : 0 + 0 ≤ _), (by decide : 0 + 0 ≤ _)⟩)
  dsimp only [Pt.U, Pt.locs, Pt.cells, Pt.slots] at X6 l6 y6 z6 st6 hQ6
  subst l6 y6 z6
  obtain ⟨rfl, N6q, e6⟩ := hQ6
  have N6 := Fr.app N5 N6q
  have pre7 : ∀ t, Steps p.tables e below (T6.setTop (mkF m 9 #[.val (.ref a1), .val (.long q2), .second, .val (.long q3), .second] [(.int (1 : Int32))])) t → Steps p.tables e below (s₁.setTop (entryFrame m #[(.ref a1), (.long q2), (.long q3)] 5)) t := fun t kk => pre0 t (by
    show Steps p.tables e below (s₁.setTop (mkF m 0 #[.val (.ref a1), .val (.long q2), .second, .val (.long q3), .second] [])) _
    refine XS.aloadN X0.here hx rfl (hb hby d_prog_137_method_6_0) rfl rfl ?_
    show Steps p.tables e below (s₁.setTop (mkF m 1 #[.val (.ref a1), .val (.long q2), .second, .val (.long q3), .second] [(.ref a1)])) _
    refine XS.lloadN X0.here hx rfl (hb hby d_prog_137_method_6_1) rfl ?_
    show Steps p.tables e below (s₁.setTop (mkF m 2 #[.val (.ref a1), .val (.long q2), .second, .val (.long q3), .second] [(.long q2), (.ref a1)])) _
    refine XS.lloadN X0.here hx rfl (hb hby d_prog_137_method_6_2) rfl ?_
    show Steps p.tables e below (s₁.setTop (mkF m 3 #[.val (.ref a1), .val (.long q2), .second, .val (.long q3), .second] [(.long q3), (.long q2), (.ref a1)])) _
    refine st5 _ ?_
    show Steps p.tables e below (T5.setTop (mkF m 6 #[.val (.ref a1), .val (.long q2), .second, .val (.long q3), .second] [(.int (-1 : Int32)), (.ref a1)])) _
    refine st6.trans ?_
    exact kk)
  obtain ⟨fs, hr, hrun, hended, hW, hsame⟩ := X6.leave (v := some (.int (1 : Int32))) (fun h => by rw [Bd.returns] at h; cases h)
  refine ⟨_, _, pre7 _ ?_, hrun, hended, _, _, rfl, ?_, ⟨_, rfl⟩, hW, hsame.mono (by decide) (by decide)⟩
  · exact retN X6 hx (t := .boolean) Bd.returns (by simp) (hb hby d_prog_137_method_6_9) hr
  · show Q5 Z a1 q2 q3 h0 n0 _ T6.heap _
    rw [e6]
    exact ⟨rfl, N6, rfl⟩
theorem pd_4 : parseMethodDescriptor "(JJ)Z" = some ⟨[.long, .long], some .boolean⟩ := by decide +kernel
def Q6 (Z : State) (a1 : Addr) (h0 : Heap) (n0 : Nat) (v : Option Value) (h : Heap) (L : List Loc) : Prop := v = some (.int (0 : Int32)) ∧ Fr n0 L ∧ h = h0
set_option maxRecDepth 65536 in
set_option maxHeartbeats 40000000 in
theorem rm6 (l : Launch) (Z : State) (a0 : Array Value) (hw : ∀ d ∈ tables_1, d.before a0 Z = true) (ws : List Jvm.Cond) (a1 : Addr) (h0 : Heap) (n0 : Nat) (Z0 : n0 ≤ h0.size) (F_whenLess_a1 : Fld Z h0 a1 "com/example/latticut/latticut/lang/Comparison" "whenLess" "Z" (.int (0 : Int32))) :
    MetFree l (⟨"com/example/latticut/latticut/lang/Comparison", "holds", "(I)Z"⟩ : MethodName) (head1 (Jvm.Cond.code (⟨"com/example/latticut/latticut/lang/Comparison", "holds", "(I)Z"⟩ : MethodName) prog_137_method_9_code 2 (some .boolean) :: ws) ({ frames := 0, cells := 0, slots := 0, locals := 0 } : Room)) (fun a U => a = #[(.ref a1), (.int (-1 : Int32))] ∧ Z.Warmed39 U.vm ∧ U.heap = h0) (fun _ _ _ _ _ => True) (fun _ U o U' => ∃ v L, o = .returned v ∧ Q6 Z a1 h0 n0 v U'.heap L ∧ FrameEnd U o U' L ({ frames := 0, cells := 0, slots := 0, locals := 0 } : Room).cells ({ frames := 0, cells := 0, slots := 0, locals := 0 } : Room).slots) := by
  refine MetFree.of_bodySF (plainFor_of_name pn_1) hisR ?_
  intro p e s m args below meth c s₁ Bd hml0 hP hK
  obtain ⟨rfl, hZ, hh⟩ := hP
  have hx := Bd.exec
  have hby := Bd.bytes
  have hml : c.maxLocals = 2 := hml0
  have hown : s.vm.findClass "com/example/latticut/latticut/lang/Comparison" = some m.cls := findClass_of_methodNamed Bd.named
  have hnm := (name_of_methodNamed Bd.named Bd.method).1
  have X0 : Stand p l e ({ frames := 0, cells := 0, slots := 0, locals := 0 } : Room) s m #[(.ref a1), (.int (-1 : Int32))] below meth c s₁ [] 0 0 := Stand.of_body Bd
  have e0 : s₁.heap = h0 := by rw [← hh, Bd.state]; rfl
  have N0 := Fr.nil n0
  have pre0 : ∀ t, Steps p.tables e below (s₁.setTop (mkF m 0 #[.val (.ref a1), .val (.int (-1 : Int32))] [])) t → Steps p.tables e below (s₁.setTop (entryFrame m #[(.ref a1), (.int (-1 : Int32))] 2)) t := fun t k => castTop (ef_4 m a1) k
  obtain ⟨T2, X2, e2, st2⟩ := getF X0 hx hZ hown (host := "") (Or.inl (hw _ (List.mem_of_getElem? (i := 33) rfl))) Via.refl e0 F_whenLess_a1 (g := (mkF m 5 #[.val (.ref a1), .val (.int (-1 : Int32))] [(.ref a1)])) rfl rfl (hb hby d_prog_137_method_9_5)
  have pre3 : ∀ t, Steps p.tables e below (T2.setTop (mkF m 26 #[.val (.ref a1), .val (.int (-1 : Int32))] [(.int (0 : Int32))])) t → Steps p.tables e below (s₁.setTop (entryFrame m #[(.ref a1), (.int (-1 : Int32))] 2)) t := fun t kk => pre0 t (by
    show Steps p.tables e below (s₁.setTop (mkF m 0 #[.val (.ref a1), .val (.int (-1 : Int32))] [])) _
    refine XS.iloadN X0.here hx rfl (hb hby d_prog_137_method_9_0) rfl ?_
    show Steps p.tables e below (s₁.setTop (mkF m 1 #[.val (.ref a1), .val (.int (-1 : Int32))] [(.int (-1 : Int32))])) _
    refine XS.ifNo X0.here hx rfl (hb hby d_prog_137_method_9_1) rfl ((if0 _ _).trans (tlt ((by decide) : (-1 : Int32) < (0 : Int32))).2.1) ?_
    show Steps p.tables e below (s₁.setTop (mkF m 4 #[.val (.ref a1), .val (.int (-1 : Int32))] [])) _
    refine XS.aloadN X0.here hx rfl (hb hby d_prog_137_method_9_4) rfl rfl ?_
    show Steps p.tables e below (s₁.setTop (mkF m 5 #[.val (.ref a1), .val (.int (-1 : Int32))] [(.ref a1)])) _
    refine st2 _ ?_
    show Steps p.tables e below (T2.setTop (mkF m 8 #[.val (.ref a1), .val (.int (-1 : Int32))] [(.int (0 : Int32))])) _
    refine XS.goto X2.here hx rfl (pc0 := 8) (pc' := 26) rfl (hb hby d_prog_137_method_9_8) (by decide) (by decide) ?_
    exact kk)
  obtain ⟨fs, hr, hrun, hended, hW, hsame⟩ := X2.leave (v := some (.int (0 : Int32))) (fun h => by rw [Bd.returns] at h; cases h)
  refine ⟨_, _, pre3 _ ?_, hrun, hended, _, _, rfl, ?_, ⟨_, rfl⟩, hW, hsame.mono (by decide) (by decide)⟩
  · exact retN X2 hx (t := .boolean) Bd.returns (by simp) (hb hby d_prog_137_method_9_26) hr
  · show Q6 Z a1 h0 n0 _ T2.heap _
    rw [e2]
    exact ⟨rfl, N0, rfl⟩
def Q7 (Z : State) (a1 : Addr) (q2 : Int64) (q3 : Int64) (h0 : Heap) (n0 : Nat) (v : Option Value) (h : Heap) (L : List Loc) : Prop := v = some (.int (0 : Int32)) ∧ Fr n0 L ∧ h = h0
set_option maxRecDepth 65536 in
set_option maxHeartbeats 40000000 in
theorem rm7 (l : Launch) (Z : State) (a0 : Array Value) (hw : ∀ d ∈ tables_1, d.before a0 Z = true) (ws : List Jvm.Cond) (a1 : Addr) (q2 : Int64) (q3 : Int64) (h0 : Heap) (n0 : Nat) (Z0 : n0 ≤ h0.size) (hc4 : (lcmpW q2 q3) < (0 : Int32)) (F_whenLess_a1 : Fld Z h0 a1 "com/example/latticut/latticut/lang/Comparison" "whenLess" "Z" (.int (0 : Int32))) (E_a1 : Exa Z h0 a1 "com/example/latticut/latticut/lang/Comparison") :
    MetFree l (⟨"com/example/latticut/latticut/lang/Comparison", "test", "(JJ)Z"⟩ : MethodName) (head1 (Jvm.Cond.code (⟨"com/example/latticut/latticut/lang/Comparison", "test", "(JJ)Z"⟩ : MethodName) prog_137_method_6_code 5 (some .boolean) :: ws) ({ frames := 1, cells := 0, slots := 0, locals := 16 } : Room)) (fun a U => a = #[(.ref a1), (.long q2), (.long q3)] ∧ Z.Warmed39 U.vm ∧ U.heap = h0) (fun _ _ _ _ _ => True) (fun _ U o U' => ∃ v L, o = .returned v ∧ Q7 Z a1 q2 q3 h0 n0 v U'.heap L ∧ FrameEnd U o U' L ({ frames := 1, cells := 0, slots := 0, locals := 16 } : Room).cells ({ frames := 1, cells := 0, slots := 0, locals := 16 } : Room).slots) := by
  refine MetFree.of_bodySF (plainFor_of_name pn_1) hisR ?_
  intro p e s m args below meth c s₁ Bd hml0 hP hK
  obtain ⟨rfl, hZ, hh⟩ := hP
  have hx := Bd.exec
  have hby := Bd.bytes
  have hml : c.maxLocals = 5 := hml0
  have hown : s.vm.findClass "com/example/latticut/latticut/lang/Comparison" = some m.cls := findClass_of_methodNamed Bd.named
  have hnm := (name_of_methodNamed Bd.named Bd.method).1
  have X0 : Stand p l e ({ frames := 1, cells := 0, slots := 0, locals := 16 } : Room) s m #[(.ref a1), (.long q2), (.long q3)] below meth c s₁ [] 0 0 := Stand.of_body Bd
  have e0 : s₁.heap = h0 := by rw [← hh, Bd.state]; rfl
  have N0 := Fr.nil n0
  have pre0 : ∀ t, Steps p.tables e below (s₁.setTop (mkF m 0 #[.val (.ref a1), .val (.long q2), .second, .val (.long q3), .second] [])) t → Steps p.tables e below (s₁.setTop (entryFrame m #[(.ref a1), (.long q2), (.long q3)] 5)) t := fun t k => castTop (ef_5 m a1 (q2) (q3)) k
  obtain ⟨_, _, ⟨T5, L5, k5, n5⟩, -, X5, ⟨Lc5, hQ5, l5, y5, z5⟩, st5⟩ := Jvm.LawKit.callS X0 hx (y := (⟨"java/lang/Long", "compare", "(JJ)I"⟩ : MethodName)) hown (mvT hZ (hw _ (List.mem_of_getElem? (i := 21) rfl))) (mvT hZ (hw _ (List.mem_of_getElem? (i := 22) rfl))) (mvT hZ (hw _ (List.mem_of_getElem? (i := 23) rfl))) (mvT hZ (hw _ (List.mem_of_getElem? (i := 24) rfl))) (by decide) (backOf (W := 1) (rm3 l Z a0 hw [] q2 q3 h0 n0 Z0 hc4) hZ (hw _ (List.mem_of_getElem? (i := 24) rfl)) (hw _ (List.mem_of_getElem? (i := 23) rfl)) (by decide) (by decide)) (g := (mkF m 3 #[.val (.ref a1), .val (.long q2), .second, .val (.long q3), .second] [(.long q3), (.long q2), (.ref a1)])) rfl (by rw [hml]; rfl) (argsL := [(.long q2), (.long q3)]) (rest := [(.ref a1)]) (lenOf pd_2 rfl) rfl (by show 2 * 0 + _ ≤ _; exact Nat.le_of_eq rfl) (hb hby d_prog_137_method_6_3) (fun _ _ => ⟨rfl, e0, (by decide : 0 + 0 ≤ _), (by decide : 0 + 0 ≤ _)⟩)
  dsimp only [Pt.U, Pt.locs, Pt.cells, Pt.slots] at X5 l5 y5 z5 st5 hQ5
  subst l5 y5 z5
  obtain ⟨rfl, N5q, e5⟩ := hQ5
  have N5 := Fr.app N0 N5q
  obtain ⟨cq6, q6, q6'⟩ := E_a1.cell
  obtain ⟨_, _, ⟨T6, L6, k6, n6⟩, -, X6, ⟨Lc6, hQ6, l6, y6, z6⟩, st6⟩ := own_privateBack X5 hx (y := (⟨"com/example/latticut/latticut/lang/Comparison", "holds", "(I)Z"⟩ : MethodName)) hown (mvT hZ (hw _ (List.mem_of_getElem? (i := 25) rfl))) (mvT hZ (hw _ (List.mem_of_getElem? (i := 26) rfl))) (own_nf (args := #[]) (mvT hZ (hw _ (List.mem_of_getElem? (i := 19) rfl))) rfl) (Cond.privateMethod_at (mvP hZ (hw _ (List.mem_of_getElem? (i := 27) rfl)) (args := #[]))) (mvT hZ (hw _ (List.mem_of_getElem? (i := 28) rfl))) (by decide) (backOf (W := 0) (rm6 l Z a0 hw [] a1 h0 n0 Z0 F_whenLess_a1) hZ (hw _ (List.mem_of_getElem? (i := 28) rfl)) (hw _ (List.mem_of_getElem? (i := 6) rfl)) (by decide) (by decide)) (g := (mkF m 6 #[.val (.ref a1), .val (.long q2), .second, .val (.long q3), .second] [(.int (-1 : Int32)), (.ref a1)])) rfl (by rw [hml]; rfl) (Steps.refl _) (a := a1) (by rw [e5]; exact q6) q6' (argsL := [(.int (-1 : Int32))]) (rest := []) (lenOf pd_3 rfl) rfl (by show 2 * 0 + _ ≤ _; exact Nat.le_of_eq rfl) (hb hby d_prog_137_method_6_6) (fun _ _ => ⟨rfl, e5, (by decide : 0 + 0 ≤ _), (by decide : 0 + 0 ≤ _)⟩)
  dsimp only [Pt.U, Pt.locs, Pt.cells, Pt.slots] at X6 l6 y6 z6 st6 hQ6
  subst l6 y6 z6
  obtain ⟨rfl, N6q, e6⟩ := hQ6
  have N6 := Fr.app N5 N6q
  have pre7 : ∀ t, Steps p.tables e below (T6.setTop (mkF m 9 #[.val (.ref a1), .val (.long q2), .second, .val (.long q3), .second] [(.int (0 : Int32))])) t → Steps p.tables e below (s₁.setTop (entryFrame m #[(.ref a1), (.long q2), (.long q3)] 5)) t := fun t kk => pre0 t (by
    show Steps p.tables e below (s₁.setTop (mkF m 0 #[.val (.ref a1), .val (.long q2), .second, .val (.long q3), .second] [])) _
    refine XS.aloadN X0.here hx rfl (hb hby d_prog_137_method_6_0) rfl rfl ?_
    show Steps p.tables e below (s₁.setTop (mkF m 1 #[.val (.ref a1), .val (.long q2), .second, .val (.long q3), .second] [(.ref a1)])) _
    refine XS.lloadN X0.here hx rfl (hb hby d_prog_137_method_6_1) rfl ?_
    show Steps p.tables e below (s₁.setTop (mkF m 2 #[.val (.ref a1), .val (.long q2), .second, .val (.long q3), .second] [(.long q2), (.ref a1)])) _
    refine XS.lloadN X0.here hx rfl (hb hby d_prog_137_method_6_2) rfl ?_
    show Steps p.tables e below (s₁.setTop (mkF m 3 #[.val (.ref a1), .val (.long q2), .second, .val (.long q3), .second] [(.long q3), (.long q2), (.ref a1)])) _
    refine st5 _ ?_
    show Steps p.tables e below (T5.setTop (mkF m 6 #[.val (.ref a1), .val (.long q2), .second, .val (.long q3), .second] [(.int (-1 : Int32)), (.ref a1)])) _
    refine st6.trans ?_
    exact kk)
  obtain ⟨fs, hr, hrun, hended, hW, hsame⟩ := X6.leave (v := some (.int (0 : Int32))) (fun h => by rw [Bd.returns] at h; cases h)
  refine ⟨_, _, pre7 _ ?_, hrun, hended, _, _, rfl, ?_, ⟨_, rfl⟩, hW, hsame.mono (by decide) (by decide)⟩
  · exact retN X6 hx (t := .boolean) Bd.returns (by simp) (hb hby d_prog_137_method_6_9) hr
  · show Q7 Z a1 q2 q3 h0 n0 _ T6.heap _
    rw [e6]
    exact ⟨rfl, N6, rfl⟩
theorem own_ar0 (x1 : Int64) (x2 : Int64) (h0 : (lcmpW x1 x2) < (0 : Int32)) : ¬ ((lcmpW x1 x1) < (0 : Int32)) := by
  refine fun q => ?_
  have q' : (lcmpW x1 x1).toInt < (0 : Int32).toInt := Int32.lt_iff_toInt_lt.mp q
  have k0 : (lcmpW x1 x2).toInt < (0 : Int32).toInt := Int32.lt_iff_toInt_lt.mp h0
  have z0 := rng64 x1
  have z1 := rng64 x2
  have z2 := rng32 (lcmpW x1 x2)
  have z3 := c_lcmp x1 x2
  have z4 : (0 : Int32).toInt = 0 := by decide
  have z5 := rng32 (lcmpW x1 x1)
  have z6 := c_lcmp x1 x1
  clear h0 q
  try generalize (lcmpW x1 x2).toInt = t0 at *
  try generalize (lcmpW x1 x1).toInt = t1 at *
  try generalize (0 : Int32).toInt = t2 at *
  try generalize x1.toInt = t3 at *
  try generalize x2.toInt = t4 at *
  omega
theorem d_jdk_35_method_42_10 : decode jdk_35_method_42_code 10 = .ok (.lload_n 0, 1) := by decide +kernel
theorem d_jdk_35_method_42_11 : decode jdk_35_method_42_code 11 = .ok (.lload_n 2, 1) := by decide +kernel
theorem d_jdk_35_method_42_12 : decode jdk_35_method_42_code 12 = .ok (.lcmp, 1) := by decide +kernel
theorem d_jdk_35_method_42_13 : decode jdk_35_method_42_code 13 = .ok (.ifCond .ne 7, 3) := by decide +kernel
theorem own_ar1 (x1 : Int64) (x2 : Int64) (h0 : (lcmpW x1 x2) < (0 : Int32)) : (lcmpW x1 x1) = (0 : Int32) := by
  refine Int32.toInt_inj.mp ?_
  have k0 : (lcmpW x1 x2).toInt < (0 : Int32).toInt := Int32.lt_iff_toInt_lt.mp h0
  have z0 := rng64 x1
  have z1 := rng64 x2
  have z2 := rng32 (lcmpW x1 x2)
  have z3 := c_lcmp x1 x2
  have z4 : (0 : Int32).toInt = 0 := by decide
  have z5 := rng32 (lcmpW x1 x1)
  have z6 := c_lcmp x1 x1
  clear h0
  try generalize (lcmpW x1 x2).toInt = t0 at *
  try generalize (lcmpW x1 x1).toInt = t1 at *
  try generalize (0 : Int32).toInt = t2 at *
  try generalize x1.toInt = t3 at *
  try generalize x2.toInt = t4 at *
  omega
theorem d_jdk_35_method_42_16 : decode jdk_35_method_42_code 16 = .ok (.iconst 0, 1) := by decide +kernel
theorem d_jdk_35_method_42_17 : decode jdk_35_method_42_code 17 = .ok (.goto 4, 3) := by decide +kernel
def Q8 (Z : State) (q1 : Int64) (h0 : Heap) (n0 : Nat) (v : Option Value) (h : Heap) (L : List Loc) : Prop := v = some (.int (0 : Int32)) ∧ Fr n0 L ∧ h = h0
set_option maxRecDepth 65536 in
set_option maxHeartbeats 40000000 in
theorem rm8 (l : Launch) (Z : State) (a0 : Array Value) (hw : ∀ d ∈ tables_1, d.before a0 Z = true) (ws : List Jvm.Cond) (q1 : Int64) (h0 : Heap) (n0 : Nat) (Z0 : n0 ≤ h0.size) (hc2 : ¬ ((lcmpW q1 q1) < (0 : Int32))) (hc3 : (lcmpW q1 q1) = (0 : Int32)) :
    MetFree l (⟨"java/lang/Long", "compare", "(JJ)I"⟩ : MethodName) (head1 (Jvm.Cond.code (⟨"java/lang/Long", "compare", "(JJ)I"⟩ : MethodName) jdk_35_method_42_code 4 (some .int) :: ws) ({ frames := 0, cells := 0, slots := 0, locals := 0 } : Room)) (fun a U => a = #[(.long q1), (.long q1)] ∧ Z.Warmed39 U.vm ∧ U.heap = h0) (fun _ _ _ _ _ => True) (fun _ U o U' => ∃ v L, o = .returned v ∧ Q8 Z q1 h0 n0 v U'.heap L ∧ FrameEnd U o U' L ({ frames := 0, cells := 0, slots := 0, locals := 0 } : Room).cells ({ frames := 0, cells := 0, slots := 0, locals := 0 } : Room).slots) := by
  refine MetFree.of_bodySF (plainFor_of_name pn_2) hisR ?_
  intro p e s m args below meth c s₁ Bd hml0 hP hK
  obtain ⟨rfl, hZ, hh⟩ := hP
  have hx := Bd.exec
  have hby := Bd.bytes
  have hml : c.maxLocals = 4 := hml0
  have hown : s.vm.findClass "java/lang/Long" = some m.cls := findClass_of_methodNamed Bd.named
  have hnm := (name_of_methodNamed Bd.named Bd.method).1
  have X0 : Stand p l e ({ frames := 0, cells := 0, slots := 0, locals := 0 } : Room) s m #[(.long q1), (.long q1)] below meth c s₁ [] 0 0 := Stand.of_body Bd
  have e0 : s₁.heap = h0 := by rw [← hh, Bd.state]; rfl
  have N0 := Fr.nil n0
  have pre0 : ∀ t, Steps p.tables e below (s₁.setTop (mkF m 0 #[.val (.long q1), .second, .val (.long q1), .second] [])) t → Steps p.tables e below (s₁.setTop (entryFrame m #[(.long q1), (.long q1)] 4)) t := fun t k => castTop (ef_3 m (q1) (q1)) k
  have pre4 : ∀ t, Steps p.tables e below (s₁.setTop (mkF m 21 #[.val (.long q1), .second, .val (.long q1), .second] [(.int (0 : Int32))])) t → Steps p.tables e below (s₁.setTop (entryFrame m #[(.long q1), (.long q1)] 4)) t := fun t kk => pre0 t (by
    show Steps p.tables e below (s₁.setTop (mkF m 0 #[.val (.long q1), .second, .val (.long q1), .second] [])) _
    refine XS.lloadN X0.here hx rfl (hb hby d_jdk_35_method_42_0) rfl ?_
    show Steps p.tables e below (s₁.setTop (mkF m 1 #[.val (.long q1), .second, .val (.long q1), .second] [(.long q1)])) _
    refine XS.lloadN X0.here hx rfl (hb hby d_jdk_35_method_42_1) rfl ?_
    show Steps p.tables e below (s₁.setTop (mkF m 2 #[.val (.long q1), .second, .val (.long q1), .second] [(.long q1), (.long q1)])) _
    refine XS.lcmp X0.here hx rfl (hb hby d_jdk_35_method_42_2) rfl ?_
    show Steps p.tables e below (s₁.setTop (mkF m 3 #[.val (.long q1), .second, .val (.long q1), .second] [(.int (lcmpW q1 q1))])) _
    refine XS.ifYes X0.here hx rfl (pc0 := 3) (pc' := 10) rfl (hb hby d_jdk_35_method_42_3) rfl ((if0 _ _).trans (flt (hc2 : ¬ ((lcmpW q1 q1) < (0 : Int32)))).2.1) (by decide) (by decide) ?_
    show Steps p.tables e below (s₁.setTop (mkF m 10 #[.val (.long q1), .second, .val (.long q1), .second] [])) _
    refine XS.lloadN X0.here hx rfl (hb hby d_jdk_35_method_42_10) rfl ?_
    show Steps p.tables e below (s₁.setTop (mkF m 11 #[.val (.long q1), .second, .val (.long q1), .second] [(.long q1)])) _
    refine XS.lloadN X0.here hx rfl (hb hby d_jdk_35_method_42_11) rfl ?_
    show Steps p.tables e below (s₁.setTop (mkF m 12 #[.val (.long q1), .second, .val (.long q1), .second] [(.long q1), (.long q1)])) _
    refine XS.lcmp X0.here hx rfl (hb hby d_jdk_35_method_42_12) rfl ?_
    show Steps p.tables e below (s₁.setTop (mkF m 13 #[.val (.long q1), .second, .val (.long q1), .second] [(.int (lcmpW q1 q1))])) _
    refine XS.ifNo X0.here hx rfl (hb hby d_jdk_35_method_42_13) rfl ((if0 _ _).trans (teq (hc3 : (lcmpW q1 q1) = (0 : Int32))).2) ?_
    show Steps p.tables e below (s₁.setTop (mkF m 16 #[.val (.long q1), .second, .val (.long q1), .second] [])) _
    refine XS.iconst X0.here hx rfl (hb hby d_jdk_35_method_42_16) ?_
    show Steps p.tables e below (s₁.setTop (mkF m 17 #[.val (.long q1), .second, .val (.long q1), .second] [(.int (0 : Int32))])) _
    refine XS.goto X0.here hx rfl (pc0 := 17) (pc' := 21) rfl (hb hby d_jdk_35_method_42_17) (by decide) (by decide) ?_
    exact kk)
  obtain ⟨fs, hr, hrun, hended, hW, hsame⟩ := X0.leave (v := some (.int (0 : Int32))) (fun h => by rw [Bd.returns] at h; cases h)
  refine ⟨_, _, pre4 _ ?_, hrun, hended, _, _, rfl, ?_, ⟨_, rfl⟩, hW, hsame.mono (by decide) (by decide)⟩
  · exact retI X0 hx Bd.returns (hb hby d_jdk_35_method_42_21) hr
  · show Q8 Z q1 h0 n0 _ s₁.heap _
    rw [e0]
    exact ⟨rfl, N0, rfl⟩
theorem d_prog_137_method_9_11 : decode prog_137_method_9_code 11 = .ok (.iload_n 1, 1) := by decide +kernel
theorem d_prog_137_method_9_12 : decode prog_137_method_9_code 12 = .ok (.ifCond .ne 10, 3) := by decide +kernel
theorem d_prog_137_method_9_15 : decode prog_137_method_9_code 15 = .ok (.aload_n 0, 1) := by decide +kernel
theorem d_prog_137_method_9_16 : decode prog_137_method_9_code 16 = .ok (.getfield 49, 3) := by decide +kernel
theorem d_prog_137_method_9_19 : decode prog_137_method_9_code 19 = .ok (.goto 7, 3) := by decide +kernel
theorem ef_6 (m : MethodId) (x0 : Addr) : entryFrame m #[(.ref x0), (.int (0 : Int32))] 2 = mkF m 0 #[.val (.ref x0), .val (.int (0 : Int32))] [] := by first | (simp [entryFrame, mkF, argsToLocals, Value.category, maxLocals]; done) | rfl
def Q9 (Z : State) (a1 : Addr) (h0 : Heap) (n0 : Nat) (v : Option Value) (h : Heap) (L : List Loc) : Prop := v = some (.int (0 : Int32)) ∧ Fr n0 L ∧ h = h0
set_option maxRecDepth 65536 in
set_option maxHeartbeats 40000000 in
theorem rm9 (l : Launch) (Z : State) (a0 : Array Value) (hw : ∀ d ∈ tables_1, d.before a0 Z = true) (ws : List Jvm.Cond) (a1 : Addr) (h0 : Heap) (n0 : Nat) (Z0 : n0 ≤ h0.size) (F_whenEqual_a1 : Fld Z h0 a1 "com/example/latticut/latticut/lang/Comparison" "whenEqual" "Z" (.int (0 : Int32))) :
    MetFree l (⟨"com/example/latticut/latticut/lang/Comparison", "holds", "(I)Z"⟩ : MethodName) (head1 (Jvm.Cond.code (⟨"com/example/latticut/latticut/lang/Comparison", "holds", "(I)Z"⟩ : MethodName) prog_137_method_9_code 2 (some .boolean) :: ws) ({ frames := 0, cells := 0, slots := 0, locals := 0 } : Room)) (fun a U => a = #[(.ref a1), (.int (0 : Int32))] ∧ Z.Warmed39 U.vm ∧ U.heap = h0) (fun _ _ _ _ _ => True) (fun _ U o U' => ∃ v L, o = .returned v ∧ Q9 Z a1 h0 n0 v U'.heap L ∧ FrameEnd U o U' L ({ frames := 0, cells := 0, slots := 0, locals := 0 } : Room).cells ({ frames := 0, cells := 0, slots := 0, locals := 0 } : Room).slots) := by
  refine MetFree.of_bodySF (plainFor_of_name pn_1) hisR ?_
  intro p e s m args below meth c s₁ Bd hml0 hP hK
  obtain ⟨rfl, hZ, hh⟩ := hP
  have hx := Bd.exec
  have hby := Bd.bytes
  have hml : c.maxLocals = 2 := hml0
  have hown : s.vm.findClass "com/example/latticut/latticut/lang/Comparison" = some m.cls := findClass_of_methodNamed Bd.named
  have hnm := (name_of_methodNamed Bd.named Bd.method).1
  have X0 : Stand p l e ({ frames := 0, cells := 0, slots := 0, locals := 0 } : Room) s m #[(.ref a1), (.int (0 : Int32))] below meth c s₁ [] 0 0 := Stand.of_body Bd
  have e0 : s₁.heap = h0 := by rw [← hh, Bd.state]; rfl
  have N0 := Fr.nil n0
  have pre0 : ∀ t, Steps p.tables e below (s₁.setTop (mkF m 0 #[.val (.ref a1), .val (.int (0 : Int32))] [])) t → Steps p.tables e below (s₁.setTop (entryFrame m #[(.ref a1), (.int (0 : Int32))] 2)) t := fun t k => castTop (ef_6 m a1) k
  obtain ⟨T2, X2, e2, st2⟩ := getF X0 hx hZ hown (host := "") (Or.inl (hw _ (List.mem_of_getElem? (i := 31) rfl))) Via.refl e0 F_whenEqual_a1 (g := (mkF m 16 #[.val (.ref a1), .val (.int (0 : Int32))] [(.ref a1)])) rfl rfl (hb hby d_prog_137_method_9_16)
  have pre3 : ∀ t, Steps p.tables e below (T2.setTop (mkF m 26 #[.val (.ref a1), .val (.int (0 : Int32))] [(.int (0 : Int32))])) t → Steps p.tables e below (s₁.setTop (entryFrame m #[(.ref a1), (.int (0 : Int32))] 2)) t := fun t kk => pre0 t (by
    show Steps p.tables e below (s₁.setTop (mkF m 0 #[.val (.ref a1), .val (.int (0 : Int32))] [])) _
    refine XS.iloadN X0.here hx rfl (hb hby d_prog_137_method_9_0) rfl ?_
    show Steps p.tables e below (s₁.setTop (mkF m 1 #[.val (.ref a1), .val (.int (0 : Int32))] [(.int (0 : Int32))])) _
    refine XS.ifYes X0.here hx rfl (pc0 := 1) (pc' := 11) rfl (hb hby d_prog_137_method_9_1) rfl ((if0 _ _).trans (flt ((by decide) : ¬ ((0 : Int32) < (0 : Int32)))).2.1) (by decide) (by decide) ?_
    show Steps p.tables e below (s₁.setTop (mkF m 11 #[.val (.ref a1), .val (.int (0 : Int32))] [])) _
    refine XS.iloadN X0.here hx rfl (hb hby d_prog_137_method_9_11) rfl ?_
    show Steps p.tables e below (s₁.setTop (mkF m 12 #[.val (.ref a1), .val (.int (0 : Int32))] [(.int (0 : Int32))])) _
    refine XS.ifNo X0.here hx rfl (hb hby d_prog_137_method_9_12) rfl ((if0 _ _).trans (teq ((by decide) : (0 : Int32) = (0 : Int32))).2) ?_
    show Steps p.tables e below (s₁.setTop (mkF m 15 #[.val (.ref a1), .val (.int (0 : Int32))] [])) _
    refine XS.aloadN X0.here hx rfl (hb hby d_prog_137_method_9_15) rfl rfl ?_
    show Steps p.tables e below (s₁.setTop (mkF m 16 #[.val (.ref a1), .val (.int (0 : Int32))] [(.ref a1)])) _
    refine st2 _ ?_
    show Steps p.tables e below (T2.setTop (mkF m 19 #[.val (.ref a1), .val (.int (0 : Int32))] [(.int (0 : Int32))])) _
    refine XS.goto X2.here hx rfl (pc0 := 19) (pc' := 26) rfl (hb hby d_prog_137_method_9_19) (by decide) (by decide) ?_
    exact kk)
  obtain ⟨fs, hr, hrun, hended, hW, hsame⟩ := X2.leave (v := some (.int (0 : Int32))) (fun h => by rw [Bd.returns] at h; cases h)
  refine ⟨_, _, pre3 _ ?_, hrun, hended, _, _, rfl, ?_, ⟨_, rfl⟩, hW, hsame.mono (by decide) (by decide)⟩
  · exact retN X2 hx (t := .boolean) Bd.returns (by simp) (hb hby d_prog_137_method_9_26) hr
  · show Q9 Z a1 h0 n0 _ T2.heap _
    rw [e2]
    exact ⟨rfl, N0, rfl⟩
def Q10 (Z : State) (a1 : Addr) (q2 : Int64) (h0 : Heap) (n0 : Nat) (v : Option Value) (h : Heap) (L : List Loc) : Prop := v = some (.int (0 : Int32)) ∧ Fr n0 L ∧ h = h0
set_option maxRecDepth 65536 in
set_option maxHeartbeats 40000000 in
theorem rm10 (l : Launch) (Z : State) (a0 : Array Value) (hw : ∀ d ∈ tables_1, d.before a0 Z = true) (ws : List Jvm.Cond) (a1 : Addr) (q2 : Int64) (h0 : Heap) (n0 : Nat) (Z0 : n0 ≤ h0.size) (hc3 : ¬ ((lcmpW q2 q2) < (0 : Int32))) (hc4 : (lcmpW q2 q2) = (0 : Int32)) (F_whenEqual_a1 : Fld Z h0 a1 "com/example/latticut/latticut/lang/Comparison" "whenEqual" "Z" (.int (0 : Int32))) (E_a1 : Exa Z h0 a1 "com/example/latticut/latticut/lang/Comparison") :
    MetFree l (⟨"com/example/latticut/latticut/lang/Comparison", "test", "(JJ)Z"⟩ : MethodName) (head1 (Jvm.Cond.code (⟨"com/example/latticut/latticut/lang/Comparison", "test", "(JJ)Z"⟩ : MethodName) prog_137_method_6_code 5 (some .boolean) :: ws) ({ frames := 1, cells := 0, slots := 0, locals := 16 } : Room)) (fun a U => a = #[(.ref a1), (.long q2), (.long q2)] ∧ Z.Warmed39 U.vm ∧ U.heap = h0) (fun _ _ _ _ _ => True) (fun _ U o U' => ∃ v L, o = .returned v ∧ Q10 Z a1 q2 h0 n0 v U'.heap L ∧ FrameEnd U o U' L ({ frames := 1, cells := 0, slots := 0, locals := 16 } : Room).cells ({ frames := 1, cells := 0, slots := 0, locals := 16 } : Room).slots) := by
  refine MetFree.of_bodySF (plainFor_of_name pn_1) hisR ?_
  intro p e s m args below meth c s₁ Bd hml0 hP hK
  obtain ⟨rfl, hZ, hh⟩ := hP
  have hx := Bd.exec
  have hby := Bd.bytes
  have hml : c.maxLocals = 5 := hml0
  have hown : s.vm.findClass "com/example/latticut/latticut/lang/Comparison" = some m.cls := findClass_of_methodNamed Bd.named
  have hnm := (name_of_methodNamed Bd.named Bd.method).1
  have X0 : Stand p l e ({ frames := 1, cells := 0, slots := 0, locals := 16 } : Room) s m #[(.ref a1), (.long q2), (.long q2)] below meth c s₁ [] 0 0 := Stand.of_body Bd
  have e0 : s₁.heap = h0 := by rw [← hh, Bd.state]; rfl
  have N0 := Fr.nil n0
  have pre0 : ∀ t, Steps p.tables e below (s₁.setTop (mkF m 0 #[.val (.ref a1), .val (.long q2), .second, .val (.long q2), .second] [])) t → Steps p.tables e below (s₁.setTop (entryFrame m #[(.ref a1), (.long q2), (.long q2)] 5)) t := fun t k => castTop (ef_5 m a1 (q2) (q2)) k
  obtain ⟨_, _, ⟨T5, L5, k5, n5⟩, -, X5, ⟨Lc5, hQ5, l5, y5, z5⟩, st5⟩ := Jvm.LawKit.callS X0 hx (y := (⟨"java/lang/Long", "compare", "(JJ)I"⟩ : MethodName)) hown (mvT hZ (hw _ (List.mem_of_getElem? (i := 21) rfl))) (mvT hZ (hw _ (List.mem_of_getElem? (i := 22) rfl))) (mvT hZ (hw _ (List.mem_of_getElem? (i := 23) rfl))) (mvT hZ (hw _ (List.mem_of_getElem? (i := 24) rfl))) (by decide) (backOf (W := 1) (rm8 l Z a0 hw [] q2 h0 n0 Z0 hc3 hc4) hZ (hw _ (List.mem_of_getElem? (i := 24) rfl)) (hw _ (List.mem_of_getElem? (i := 23) rfl)) (by decide) (by decide)) (g := (mkF m 3 #[.val (.ref a1), .val (.long q2), .second, .val (.long q2), .second] [(.long q2), (.long q2), (.ref a1)])) rfl (by rw [hml]; rfl) (argsL := [(.long q2), (.long q2)]) (rest := [(.ref a1)]) (lenOf pd_2 rfl) rfl (by show 2 * 0 + _ ≤ _; exact Nat.le_of_eq rfl) (hb hby d_prog_137_method_6_3) (fun _ _ => ⟨rfl, e0, (by decide : 0 + 0 ≤ _), (by decide : 0 + 0 ≤ _)⟩)
  dsimp only [Pt.U, Pt.locs, Pt.cells, Pt.slots] at X5 l5 y5 z5 st5 hQ5
  subst l5 y5 z5
  obtain ⟨rfl, N5q, e5⟩ := hQ5
  have N5 := Fr.app N0 N5q
  obtain ⟨cq6, q6, q6'⟩ := E_a1.cell
  obtain ⟨_, _, ⟨T6, L6, k6, n6⟩, -, X6, ⟨Lc6, hQ6, l6, y6, z6⟩, st6⟩ := own_privateBack X5 hx (y := (⟨"com/example/latticut/latticut/lang/Comparison", "holds", "(I)Z"⟩ : MethodName)) hown (mvT hZ (hw _ (List.mem_of_getElem? (i := 25) rfl))) (mvT hZ (hw _ (List.mem_of_getElem? (i := 26) rfl))) (own_nf (args := #[]) (mvT hZ (hw _ (List.mem_of_getElem? (i := 19) rfl))) rfl) (Cond.privateMethod_at (mvP hZ (hw _ (List.mem_of_getElem? (i := 27) rfl)) (args := #[]))) (mvT hZ (hw _ (List.mem_of_getElem? (i := 28) rfl))) (by decide) (backOf (W := 0) (rm9 l Z a0 hw [] a1 h0 n0 Z0 F_whenEqual_a1) hZ (hw _ (List.mem_of_getElem? (i := 28) rfl)) (hw _ (List.mem_of_getElem? (i := 6) rfl)) (by decide) (by decide)) (g := (mkF m 6 #[.val (.ref a1), .val (.long q2), .second, .val (.long q2), .second] [(.int (0 : Int32)), (.ref a1)])) rfl (by rw [hml]; rfl) (Steps.refl _) (a := a1) (by rw [e5]; exact q6) q6' (argsL := [(.int (0 : Int32))]) (rest := []) (lenOf pd_3 rfl) rfl (by show 2 * 0 + _ ≤ _; exact Nat.le_of_eq rfl) (hb hby d_prog_137_method_6_6) (fun _ _ => ⟨rfl, e5, (by decide : 0 + 0 ≤ _), (by decide : 0 + 0 ≤ _)⟩)
  dsimp only [Pt.U, Pt.locs, Pt.cells, Pt.slots] at X6 l6 y6 z6 st6 hQ6
  subst l6 y6 z6
  obtain ⟨rfl, N6q, e6⟩ := hQ6
  have N6 := Fr.app N5 N6q
  have pre7 : ∀ t, Steps p.tables e below (T6.setTop (mkF m 9 #[.val (.ref a1), .val (.long q2), .second, .val (.long q2), .second] [(.int (0 : Int32))])) t → Steps p.tables e below (s₁.setTop (entryFrame m #[(.ref a1), (.long q2), (.long q2)] 5)) t := fun t kk => pre0 t (by
    show Steps p.tables e below (s₁.setTop (mkF m 0 #[.val (.ref a1), .val (.long q2), .second, .val (.long q2), .second] [])) _
    refine XS.aloadN X0.here hx rfl (hb hby d_prog_137_method_6_0) rfl rfl ?_
    show Steps p.tables e below (s₁.setTop (mkF m 1 #[.val (.ref a1), .val (.long q2), .second, .val (.long q2), .second] [(.ref a1)])) _
    refine XS.lloadN X0.here hx rfl (hb hby d_prog_137_method_6_1) rfl ?_
    show Steps p.tables e below (s₁.setTop (mkF m 2 #[.val (.ref a1), .val (.long q2), .second, .val (.long q2), .second] [(.long q2), (.ref a1)])) _
    refine XS.lloadN X0.here hx rfl (hb hby d_prog_137_method_6_2) rfl ?_
    show Steps p.tables e below (s₁.setTop (mkF m 3 #[.val (.ref a1), .val (.long q2), .second, .val (.long q2), .second] [(.long q2), (.long q2), (.ref a1)])) _
    refine st5 _ ?_
    show Steps p.tables e below (T5.setTop (mkF m 6 #[.val (.ref a1), .val (.long q2), .second, .val (.long q2), .second] [(.int (0 : Int32)), (.ref a1)])) _
    refine st6.trans ?_
    exact kk)
  obtain ⟨fs, hr, hrun, hended, hW, hsame⟩ := X6.leave (v := some (.int (0 : Int32))) (fun h => by rw [Bd.returns] at h; cases h)
  refine ⟨_, _, pre7 _ ?_, hrun, hended, _, _, rfl, ?_, ⟨_, rfl⟩, hW, hsame.mono (by decide) (by decide)⟩
  · exact retN X6 hx (t := .boolean) Bd.returns (by simp) (hb hby d_prog_137_method_6_9) hr
  · show Q10 Z a1 q2 h0 n0 _ T6.heap _
    rw [e6]
    exact ⟨rfl, N6, rfl⟩
def Q11 (Z : State) (a1 : Addr) (h0 : Heap) (n0 : Nat) (v : Option Value) (h : Heap) (L : List Loc) : Prop := v = some (.int (1 : Int32)) ∧ Fr n0 L ∧ h = h0
set_option maxRecDepth 65536 in
set_option maxHeartbeats 40000000 in
theorem rm11 (l : Launch) (Z : State) (a0 : Array Value) (hw : ∀ d ∈ tables_1, d.before a0 Z = true) (ws : List Jvm.Cond) (a1 : Addr) (h0 : Heap) (n0 : Nat) (Z0 : n0 ≤ h0.size) (F_whenEqual_a1 : Fld Z h0 a1 "com/example/latticut/latticut/lang/Comparison" "whenEqual" "Z" (.int (1 : Int32))) :
    MetFree l (⟨"com/example/latticut/latticut/lang/Comparison", "holds", "(I)Z"⟩ : MethodName) (head1 (Jvm.Cond.code (⟨"com/example/latticut/latticut/lang/Comparison", "holds", "(I)Z"⟩ : MethodName) prog_137_method_9_code 2 (some .boolean) :: ws) ({ frames := 0, cells := 0, slots := 0, locals := 0 } : Room)) (fun a U => a = #[(.ref a1), (.int (0 : Int32))] ∧ Z.Warmed39 U.vm ∧ U.heap = h0) (fun _ _ _ _ _ => True) (fun _ U o U' => ∃ v L, o = .returned v ∧ Q11 Z a1 h0 n0 v U'.heap L ∧ FrameEnd U o U' L ({ frames := 0, cells := 0, slots := 0, locals := 0 } : Room).cells ({ frames := 0, cells := 0, slots := 0, locals := 0 } : Room).slots) := by
  refine MetFree.of_bodySF (plainFor_of_name pn_1) hisR ?_
  intro p e s m args below meth c s₁ Bd hml0 hP hK
  obtain ⟨rfl, hZ, hh⟩ := hP
  have hx := Bd.exec
  have hby := Bd.bytes
  have hml : c.maxLocals = 2 := hml0
  have hown : s.vm.findClass "com/example/latticut/latticut/lang/Comparison" = some m.cls := findClass_of_methodNamed Bd.named
  have hnm := (name_of_methodNamed Bd.named Bd.method).1
  have X0 : Stand p l e ({ frames := 0, cells := 0, slots := 0, locals := 0 } : Room) s m #[(.ref a1), (.int (0 : Int32))] below meth c s₁ [] 0 0 := Stand.of_body Bd
  have e0 : s₁.heap = h0 := by rw [← hh, Bd.state]; rfl
  have N0 := Fr.nil n0
  have pre0 : ∀ t, Steps p.tables e below (s₁.setTop (mkF m 0 #[.val (.ref a1), .val (.int (0 : Int32))] [])) t → Steps p.tables e below (s₁.setTop (entryFrame m #[(.ref a1), (.int (0 : Int32))] 2)) t := fun t k => castTop (ef_6 m a1) k
  obtain ⟨T2, X2, e2, st2⟩ := getF X0 hx hZ hown (host := "") (Or.inl (hw _ (List.mem_of_getElem? (i := 31) rfl))) Via.refl e0 F_whenEqual_a1 (g := (mkF m 16 #[.val (.ref a1), .val (.int (0 : Int32))] [(.ref a1)])) rfl rfl (hb hby d_prog_137_method_9_16)
  have pre3 : ∀ t, Steps p.tables e below (T2.setTop (mkF m 26 #[.val (.ref a1), .val (.int (0 : Int32))] [(.int (1 : Int32))])) t → Steps p.tables e below (s₁.setTop (entryFrame m #[(.ref a1), (.int (0 : Int32))] 2)) t := fun t kk => pre0 t (by
    show Steps p.tables e below (s₁.setTop (mkF m 0 #[.val (.ref a1), .val (.int (0 : Int32))] [])) _
    refine XS.iloadN X0.here hx rfl (hb hby d_prog_137_method_9_0) rfl ?_
    show Steps p.tables e below (s₁.setTop (mkF m 1 #[.val (.ref a1), .val (.int (0 : Int32))] [(.int (0 : Int32))])) _
    refine XS.ifYes X0.here hx rfl (pc0 := 1) (pc' := 11) rfl (hb hby d_prog_137_method_9_1) rfl ((if0 _ _).trans (flt ((by decide) : ¬ ((0 : Int32) < (0 : Int32)))).2.1) (by decide) (by decide) ?_
    show Steps p.tables e below (s₁.setTop (mkF m 11 #[.val (.ref a1), .val (.int (0 : Int32))] [])) _
    refine XS.iloadN X0.here hx rfl (hb hby d_prog_137_method_9_11) rfl ?_
    show Steps p.tables e below (s₁.setTop (mkF m 12 #[.val (.ref a1), .val (.int (0 : Int32))] [(.int (0 : Int32))])) _
    refine XS.ifNo X0.here hx rfl (hb hby d_prog_137_method_9_12) rfl ((if0 _ _).trans (teq ((by decide) : (0 : Int32) = (0 : Int32))).2) ?_
    show Steps p.tables e below (s₁.setTop (mkF m 15 #[.val (.ref a1), .val (.int (0 : Int32))] [])) _
    refine XS.aloadN X0.here hx rfl (hb hby d_prog_137_method_9_15) rfl rfl ?_
    show Steps p.tables e below (s₁.setTop (mkF m 16 #[.val (.ref a1), .val (.int (0 : Int32))] [(.ref a1)])) _
    refine st2 _ ?_
    show Steps p.tables e below (T2.setTop (mkF m 19 #[.val (.ref a1), .val (.int (0 : Int32))] [(.int (1 : Int32))])) _
    refine XS.goto X2.here hx rfl (pc0 := 19) (pc' := 26) rfl (hb hby d_prog_137_method_9_19) (by decide) (by decide) ?_
    exact kk)
  obtain ⟨fs, hr, hrun, hended, hW, hsame⟩ := X2.leave (v := some (.int (1 : Int32))) (fun h => by rw [Bd.returns] at h; cases h)
  refine ⟨_, _, pre3 _ ?_, hrun, hended, _, _, rfl, ?_, ⟨_, rfl⟩, hW, hsame.mono (by decide) (by decide)⟩
  · exact retN X2 hx (t := .boolean) Bd.returns (by simp) (hb hby d_prog_137_method_9_26) hr
  · show Q11 Z a1 h0 n0 _ T2.heap _
    rw [e2]
    exact ⟨rfl, N0, rfl⟩
def Q12 (Z : State) (a1 : Addr) (q2 : Int64) (h0 : Heap) (n0 : Nat) (v : Option Value) (h : Heap) (L : List Loc) : Prop := v = some (.int (1 : Int32)) ∧ Fr n0 L ∧ h = h0
set_option maxRecDepth 65536 in
set_option maxHeartbeats 40000000 in
theorem rm12 (l : Launch) (Z : State) (a0 : Array Value) (hw : ∀ d ∈ tables_1, d.before a0 Z = true) (ws : List Jvm.Cond) (a1 : Addr) (q2 : Int64) (h0 : Heap) (n0 : Nat) (Z0 : n0 ≤ h0.size) (hc3 : ¬ ((lcmpW q2 q2) < (0 : Int32))) (hc4 : (lcmpW q2 q2) = (0 : Int32)) (F_whenEqual_a1 : Fld Z h0 a1 "com/example/latticut/latticut/lang/Comparison" "whenEqual" "Z" (.int (1 : Int32))) (E_a1 : Exa Z h0 a1 "com/example/latticut/latticut/lang/Comparison") :
    MetFree l (⟨"com/example/latticut/latticut/lang/Comparison", "test", "(JJ)Z"⟩ : MethodName) (head1 (Jvm.Cond.code (⟨"com/example/latticut/latticut/lang/Comparison", "test", "(JJ)Z"⟩ : MethodName) prog_137_method_6_code 5 (some .boolean) :: ws) ({ frames := 1, cells := 0, slots := 0, locals := 16 } : Room)) (fun a U => a = #[(.ref a1), (.long q2), (.long q2)] ∧ Z.Warmed39 U.vm ∧ U.heap = h0) (fun _ _ _ _ _ => True) (fun _ U o U' => ∃ v L, o = .returned v ∧ Q12 Z a1 q2 h0 n0 v U'.heap L ∧ FrameEnd U o U' L ({ frames := 1, cells := 0, slots := 0, locals := 16 } : Room).cells ({ frames := 1, cells := 0, slots := 0, locals := 16 } : Room).slots) := by
  refine MetFree.of_bodySF (plainFor_of_name pn_1) hisR ?_
  intro p e s m args below meth c s₁ Bd hml0 hP hK
  obtain ⟨rfl, hZ, hh⟩ := hP
  have hx := Bd.exec
  have hby := Bd.bytes
  have hml : c.maxLocals = 5 := hml0
  have hown : s.vm.findClass "com/example/latticut/latticut/lang/Comparison" = some m.cls := findClass_of_methodNamed Bd.named
  have hnm := (name_of_methodNamed Bd.named Bd.method).1
  have X0 : Stand p l e ({ frames := 1, cells := 0, slots := 0, locals := 16 } : Room) s m #[(.ref a1), (.long q2), (.long q2)] below meth c s₁ [] 0 0 := Stand.of_body Bd
  have e0 : s₁.heap = h0 := by rw [← hh, Bd.state]; rfl
  have N0 := Fr.nil n0
  have pre0 : ∀ t, Steps p.tables e below (s₁.setTop (mkF m 0 #[.val (.ref a1), .val (.long q2), .second, .val (.long q2), .second] [])) t → Steps p.tables e below (s₁.setTop (entryFrame m #[(.ref a1), (.long q2), (.long q2)] 5)) t := fun t k => castTop (ef_5 m a1 (q2) (q2)) k
  obtain ⟨_, _, ⟨T5, L5, k5, n5⟩, -, X5, ⟨Lc5, hQ5, l5, y5, z5⟩, st5⟩ := Jvm.LawKit.callS X0 hx (y := (⟨"java/lang/Long", "compare", "(JJ)I"⟩ : MethodName)) hown (mvT hZ (hw _ (List.mem_of_getElem? (i := 21) rfl))) (mvT hZ (hw _ (List.mem_of_getElem? (i := 22) rfl))) (mvT hZ (hw _ (List.mem_of_getElem? (i := 23) rfl))) (mvT hZ (hw _ (List.mem_of_getElem? (i := 24) rfl))) (by decide) (backOf (W := 1) (rm8 l Z a0 hw [] q2 h0 n0 Z0 hc3 hc4) hZ (hw _ (List.mem_of_getElem? (i := 24) rfl)) (hw _ (List.mem_of_getElem? (i := 23) rfl)) (by decide) (by decide)) (g := (mkF m 3 #[.val (.ref a1), .val (.long q2), .second, .val (.long q2), .second] [(.long q2), (.long q2), (.ref a1)])) rfl (by rw [hml]; rfl) (argsL := [(.long q2), (.long q2)]) (rest := [(.ref a1)]) (lenOf pd_2 rfl) rfl (by show 2 * 0 + _ ≤ _; exact Nat.le_of_eq rfl) (hb hby d_prog_137_method_6_3) (fun _ _ => ⟨rfl, e0, (by decide : 0 + 0 ≤ _), (by decide : 0 + 0 ≤ _)⟩)
  dsimp only [Pt.U, Pt.locs, Pt.cells, Pt.slots] at X5 l5 y5 z5 st5 hQ5
  subst l5 y5 z5
  obtain ⟨rfl, N5q, e5⟩ := hQ5
  have N5 := Fr.app N0 N5q
  obtain ⟨cq6, q6, q6'⟩ := E_a1.cell
  obtain ⟨_, _, ⟨T6, L6, k6, n6⟩, -, X6, ⟨Lc6, hQ6, l6, y6, z6⟩, st6⟩ := own_privateBack X5 hx (y := (⟨"com/example/latticut/latticut/lang/Comparison", "holds", "(I)Z"⟩ : MethodName)) hown (mvT hZ (hw _ (List.mem_of_getElem? (i := 25) rfl))) (mvT hZ (hw _ (List.mem_of_getElem? (i := 26) rfl))) (own_nf (args := #[]) (mvT hZ (hw _ (List.mem_of_getElem? (i := 19) rfl))) rfl) (Cond.privateMethod_at (mvP hZ (hw _ (List.mem_of_getElem? (i := 27) rfl)) (args := #[]))) (mvT hZ (hw _ (List.mem_of_getElem? (i := 28) rfl))) (by decide) (backOf (W := 0) (rm11 l Z a0 hw [] a1 h0 n0 Z0 F_whenEqual_a1) hZ (hw _ (List.mem_of_getElem? (i := 28) rfl)) (hw _ (List.mem_of_getElem? (i := 6) rfl)) (by decide) (by decide)) (g := (mkF m 6 #[.val (.ref a1), .val (.long q2), .second, .val (.long q2), .second] [(.int (0 : Int32)), (.ref a1)])) rfl (by rw [hml]; rfl) (Steps.refl _) (a := a1) (by rw [e5]; exact q6) q6' (argsL := [(.int (0 : Int32))]) (rest := []) (lenOf pd_3 rfl) rfl (by show 2 * 0 + _ ≤ _; exact Nat.le_of_eq rfl) (hb hby d_prog_137_method_6_6) (fun _ _ => ⟨rfl, e5, (by decide : 0 + 0 ≤ _), (by decide : 0 + 0 ≤ _)⟩)
  dsimp only [Pt.U, Pt.locs, Pt.cells, Pt.slots] at X6 l6 y6 z6 st6 hQ6
  subst l6 y6 z6
  obtain ⟨rfl, N6q, e6⟩ := hQ6
  have N6 := Fr.app N5 N6q
  have pre7 : ∀ t, Steps p.tables e below (T6.setTop (mkF m 9 #[.val (.ref a1), .val (.long q2), .second, .val (.long q2), .second] [(.int (1 : Int32))])) t → Steps p.tables e below (s₁.setTop (entryFrame m #[(.ref a1), (.long q2), (.long q2)] 5)) t := fun t kk => pre0 t (by
    show Steps p.tables e below (s₁.setTop (mkF m 0 #[.val (.ref a1), .val (.long q2), .second, .val (.long q2), .second] [])) _
    refine XS.aloadN X0.here hx rfl (hb hby d_prog_137_method_6_0) rfl rfl ?_
    show Steps p.tables e below (s₁.setTop (mkF m 1 #[.val (.ref a1), .val (.long q2), .second, .val (.long q2), .second] [(.ref a1)])) _
    refine XS.lloadN X0.here hx rfl (hb hby d_prog_137_method_6_1) rfl ?_
    show Steps p.tables e below (s₁.setTop (mkF m 2 #[.val (.ref a1), .val (.long q2), .second, .val (.long q2), .second] [(.long q2), (.ref a1)])) _
    refine XS.lloadN X0.here hx rfl (hb hby d_prog_137_method_6_2) rfl ?_
    show Steps p.tables e below (s₁.setTop (mkF m 3 #[.val (.ref a1), .val (.long q2), .second, .val (.long q2), .second] [(.long q2), (.long q2), (.ref a1)])) _
    refine st5 _ ?_
    show Steps p.tables e below (T5.setTop (mkF m 6 #[.val (.ref a1), .val (.long q2), .second, .val (.long q2), .second] [(.int (0 : Int32)), (.ref a1)])) _
    refine st6.trans ?_
    exact kk)
  obtain ⟨fs, hr, hrun, hended, hW, hsame⟩ := X6.leave (v := some (.int (1 : Int32))) (fun h => by rw [Bd.returns] at h; cases h)
  refine ⟨_, _, pre7 _ ?_, hrun, hended, _, _, rfl, ?_, ⟨_, rfl⟩, hW, hsame.mono (by decide) (by decide)⟩
  · exact retN X6 hx (t := .boolean) Bd.returns (by simp) (hb hby d_prog_137_method_6_9) hr
  · show Q12 Z a1 q2 h0 n0 _ T6.heap _
    rw [e6]
    exact ⟨rfl, N6, rfl⟩
theorem own_ar2 (x1 : Int64) (x2 : Int64) (h0 : (lcmpW x1 x2) < (0 : Int32)) : ¬ ((lcmpW x2 x1) < (0 : Int32)) := by
  refine fun q => ?_
  have q' : (lcmpW x2 x1).toInt < (0 : Int32).toInt := Int32.lt_iff_toInt_lt.mp q
  have k0 : (lcmpW x1 x2).toInt < (0 : Int32).toInt := Int32.lt_iff_toInt_lt.mp h0
  have z0 := rng64 x1
  have z1 := rng64 x2
  have z2 := rng32 (lcmpW x1 x2)
  have z3 := c_lcmp x1 x2
  have z4 : (0 : Int32).toInt = 0 := by decide
  have z5 := rng32 (lcmpW x2 x1)
  have z6 := c_lcmp x2 x1
  clear h0 q
  try generalize (lcmpW x1 x2).toInt = t0 at *
  try generalize (lcmpW x2 x1).toInt = t1 at *
  try generalize (0 : Int32).toInt = t2 at *
  try generalize x1.toInt = t3 at *
  try generalize x2.toInt = t4 at *
  omega
theorem own_ar3 (x1 : Int64) (x2 : Int64) (h0 : (lcmpW x1 x2) < (0 : Int32)) : ¬ ((lcmpW x2 x1) = (0 : Int32)) := by
  refine fun q => ?_
  have q' : (lcmpW x2 x1).toInt = (0 : Int32).toInt := congrArg Int32.toInt q
  have k0 : (lcmpW x1 x2).toInt < (0 : Int32).toInt := Int32.lt_iff_toInt_lt.mp h0
  have z0 := rng64 x1
  have z1 := rng64 x2
  have z2 := rng32 (lcmpW x1 x2)
  have z3 := c_lcmp x1 x2
  have z4 : (0 : Int32).toInt = 0 := by decide
  have z5 := rng32 (lcmpW x2 x1)
  have z6 := c_lcmp x2 x1
  clear h0 q
  try generalize (lcmpW x1 x2).toInt = t0 at *
  try generalize (lcmpW x2 x1).toInt = t1 at *
  try generalize (0 : Int32).toInt = t2 at *
  try generalize x1.toInt = t3 at *
  try generalize x2.toInt = t4 at *
  omega
theorem d_jdk_35_method_42_20 : decode jdk_35_method_42_code 20 = .ok (.iconst 1, 1) := by decide +kernel
def Q13 (Z : State) (q1 : Int64) (q2 : Int64) (h0 : Heap) (n0 : Nat) (v : Option Value) (h : Heap) (L : List Loc) : Prop := v = some (.int (1 : Int32)) ∧ Fr n0 L ∧ h = h0
set_option maxRecDepth 65536 in
set_option maxHeartbeats 40000000 in
theorem rm13 (l : Launch) (Z : State) (a0 : Array Value) (hw : ∀ d ∈ tables_1, d.before a0 Z = true) (ws : List Jvm.Cond) (q1 : Int64) (q2 : Int64) (h0 : Heap) (n0 : Nat) (Z0 : n0 ≤ h0.size) (hc3 : ¬ ((lcmpW q1 q2) < (0 : Int32))) (hc4 : ¬ ((lcmpW q1 q2) = (0 : Int32))) :
    MetFree l (⟨"java/lang/Long", "compare", "(JJ)I"⟩ : MethodName) (head1 (Jvm.Cond.code (⟨"java/lang/Long", "compare", "(JJ)I"⟩ : MethodName) jdk_35_method_42_code 4 (some .int) :: ws) ({ frames := 0, cells := 0, slots := 0, locals := 0 } : Room)) (fun a U => a = #[(.long q1), (.long q2)] ∧ Z.Warmed39 U.vm ∧ U.heap = h0) (fun _ _ _ _ _ => True) (fun _ U o U' => ∃ v L, o = .returned v ∧ Q13 Z q1 q2 h0 n0 v U'.heap L ∧ FrameEnd U o U' L ({ frames := 0, cells := 0, slots := 0, locals := 0 } : Room).cells ({ frames := 0, cells := 0, slots := 0, locals := 0 } : Room).slots) := by
  refine MetFree.of_bodySF (plainFor_of_name pn_2) hisR ?_
  intro p e s m args below meth c s₁ Bd hml0 hP hK
  obtain ⟨rfl, hZ, hh⟩ := hP
  have hx := Bd.exec
  have hby := Bd.bytes
  have hml : c.maxLocals = 4 := hml0
  have hown : s.vm.findClass "java/lang/Long" = some m.cls := findClass_of_methodNamed Bd.named
  have hnm := (name_of_methodNamed Bd.named Bd.method).1
  have X0 : Stand p l e ({ frames := 0, cells := 0, slots := 0, locals := 0 } : Room) s m #[(.long q1), (.long q2)] below meth c s₁ [] 0 0 := Stand.of_body Bd
  have e0 : s₁.heap = h0 := by rw [← hh, Bd.state]; rfl
  have N0 := Fr.nil n0
  have pre0 : ∀ t, Steps p.tables e below (s₁.setTop (mkF m 0 #[.val (.long q1), .second, .val (.long q2), .second] [])) t → Steps p.tables e below (s₁.setTop (entryFrame m #[(.long q1), (.long q2)] 4)) t := fun t k => castTop (ef_3 m (q1) (q2)) k
  have pre5 : ∀ t, Steps p.tables e below (s₁.setTop (mkF m 21 #[.val (.long q1), .second, .val (.long q2), .second] [(.int (1 : Int32))])) t → Steps p.tables e below (s₁.setTop (entryFrame m #[(.long q1), (.long q2)] 4)) t := fun t kk => pre0 t (by
    show Steps p.tables e below (s₁.setTop (mkF m 0 #[.val (.long q1), .second, .val (.long q2), .second] [])) _
    refine XS.lloadN X0.here hx rfl (hb hby d_jdk_35_method_42_0) rfl ?_
    show Steps p.tables e below (s₁.setTop (mkF m 1 #[.val (.long q1), .second, .val (.long q2), .second] [(.long q1)])) _
    refine XS.lloadN X0.here hx rfl (hb hby d_jdk_35_method_42_1) rfl ?_
    show Steps p.tables e below (s₁.setTop (mkF m 2 #[.val (.long q1), .second, .val (.long q2), .second] [(.long q2), (.long q1)])) _
    refine XS.lcmp X0.here hx rfl (hb hby d_jdk_35_method_42_2) rfl ?_
    show Steps p.tables e below (s₁.setTop (mkF m 3 #[.val (.long q1), .second, .val (.long q2), .second] [(.int (lcmpW q1 q2))])) _
    refine XS.ifYes X0.here hx rfl (pc0 := 3) (pc' := 10) rfl (hb hby d_jdk_35_method_42_3) rfl ((if0 _ _).trans (flt (hc3 : ¬ ((lcmpW q1 q2) < (0 : Int32)))).2.1) (by decide) (by decide) ?_
    show Steps p.tables e below (s₁.setTop (mkF m 10 #[.val (.long q1), .second, .val (.long q2), .second] [])) _
    refine XS.lloadN X0.here hx rfl (hb hby d_jdk_35_method_42_10) rfl ?_
    show Steps p.tables e below (s₁.setTop (mkF m 11 #[.val (.long q1), .second, .val (.long q2), .second] [(.long q1)])) _
    refine XS.lloadN X0.here hx rfl (hb hby d_jdk_35_method_42_11) rfl ?_
    show Steps p.tables e below (s₁.setTop (mkF m 12 #[.val (.long q1), .second, .val (.long q2), .second] [(.long q2), (.long q1)])) _
    refine XS.lcmp X0.here hx rfl (hb hby d_jdk_35_method_42_12) rfl ?_
    show Steps p.tables e below (s₁.setTop (mkF m 13 #[.val (.long q1), .second, .val (.long q2), .second] [(.int (lcmpW q1 q2))])) _
    refine XS.ifYes X0.here hx rfl (pc0 := 13) (pc' := 20) rfl (hb hby d_jdk_35_method_42_13) rfl ((if0 _ _).trans (feq (hc4 : ¬ ((lcmpW q1 q2) = (0 : Int32)))).2) (by decide) (by decide) ?_
    show Steps p.tables e below (s₁.setTop (mkF m 20 #[.val (.long q1), .second, .val (.long q2), .second] [])) _
    refine XS.iconst X0.here hx rfl (hb hby d_jdk_35_method_42_20) ?_
    exact kk)
  obtain ⟨fs, hr, hrun, hended, hW, hsame⟩ := X0.leave (v := some (.int (1 : Int32))) (fun h => by rw [Bd.returns] at h; cases h)
  refine ⟨_, _, pre5 _ ?_, hrun, hended, _, _, rfl, ?_, ⟨_, rfl⟩, hW, hsame.mono (by decide) (by decide)⟩
  · exact retI X0 hx Bd.returns (hb hby d_jdk_35_method_42_21) hr
  · show Q13 Z q1 q2 h0 n0 _ s₁.heap _
    rw [e0]
    exact ⟨rfl, N0, rfl⟩
theorem d_prog_137_method_9_22 : decode prog_137_method_9_code 22 = .ok (.aload_n 0, 1) := by decide +kernel
theorem d_prog_137_method_9_23 : decode prog_137_method_9_code 23 = .ok (.getfield 52, 3) := by decide +kernel
theorem ef_7 (m : MethodId) (x0 : Addr) : entryFrame m #[(.ref x0), (.int (1 : Int32))] 2 = mkF m 0 #[.val (.ref x0), .val (.int (1 : Int32))] [] := by first | (simp [entryFrame, mkF, argsToLocals, Value.category, maxLocals]; done) | rfl
def Q14 (Z : State) (a1 : Addr) (h0 : Heap) (n0 : Nat) (v : Option Value) (h : Heap) (L : List Loc) : Prop := v = some (.int (1 : Int32)) ∧ Fr n0 L ∧ h = h0
set_option maxRecDepth 65536 in
set_option maxHeartbeats 40000000 in
theorem rm14 (l : Launch) (Z : State) (a0 : Array Value) (hw : ∀ d ∈ tables_1, d.before a0 Z = true) (ws : List Jvm.Cond) (a1 : Addr) (h0 : Heap) (n0 : Nat) (Z0 : n0 ≤ h0.size) (F_whenGreater_a1 : Fld Z h0 a1 "com/example/latticut/latticut/lang/Comparison" "whenGreater" "Z" (.int (1 : Int32))) :
    MetFree l (⟨"com/example/latticut/latticut/lang/Comparison", "holds", "(I)Z"⟩ : MethodName) (head1 (Jvm.Cond.code (⟨"com/example/latticut/latticut/lang/Comparison", "holds", "(I)Z"⟩ : MethodName) prog_137_method_9_code 2 (some .boolean) :: ws) ({ frames := 0, cells := 0, slots := 0, locals := 0 } : Room)) (fun a U => a = #[(.ref a1), (.int (1 : Int32))] ∧ Z.Warmed39 U.vm ∧ U.heap = h0) (fun _ _ _ _ _ => True) (fun _ U o U' => ∃ v L, o = .returned v ∧ Q14 Z a1 h0 n0 v U'.heap L ∧ FrameEnd U o U' L ({ frames := 0, cells := 0, slots := 0, locals := 0 } : Room).cells ({ frames := 0, cells := 0, slots := 0, locals := 0 } : Room).slots) := by
  refine MetFree.of_bodySF (plainFor_of_name pn_1) hisR ?_
  intro p e s m args below meth c s₁ Bd hml0 hP hK
  obtain ⟨rfl, hZ, hh⟩ := hP
  have hx := Bd.exec
  have hby := Bd.bytes
  have hml : c.maxLocals = 2 := hml0
  have hown : s.vm.findClass "com/example/latticut/latticut/lang/Comparison" = some m.cls := findClass_of_methodNamed Bd.named
  have hnm := (name_of_methodNamed Bd.named Bd.method).1
  have X0 : Stand p l e ({ frames := 0, cells := 0, slots := 0, locals := 0 } : Room) s m #[(.ref a1), (.int (1 : Int32))] below meth c s₁ [] 0 0 := Stand.of_body Bd
  have e0 : s₁.heap = h0 := by rw [← hh, Bd.state]; rfl
  have N0 := Fr.nil n0
  have pre0 : ∀ t, Steps p.tables e below (s₁.setTop (mkF m 0 #[.val (.ref a1), .val (.int (1 : Int32))] [])) t → Steps p.tables e below (s₁.setTop (entryFrame m #[(.ref a1), (.int (1 : Int32))] 2)) t := fun t k => castTop (ef_7 m a1) k
  obtain ⟨T2, X2, e2, st2⟩ := getF X0 hx hZ hown (host := "") (Or.inl (hw _ (List.mem_of_getElem? (i := 29) rfl))) Via.refl e0 F_whenGreater_a1 (g := (mkF m 23 #[.val (.ref a1), .val (.int (1 : Int32))] [(.ref a1)])) rfl rfl (hb hby d_prog_137_method_9_23)
  have pre3 : ∀ t, Steps p.tables e below (T2.setTop (mkF m 26 #[.val (.ref a1), .val (.int (1 : Int32))] [(.int (1 : Int32))])) t → Steps p.tables e below (s₁.setTop (entryFrame m #[(.ref a1), (.int (1 : Int32))] 2)) t := fun t kk => pre0 t (by
    show Steps p.tables e below (s₁.setTop (mkF m 0 #[.val (.ref a1), .val (.int (1 : Int32))] [])) _
    refine XS.iloadN X0.here hx rfl (hb hby d_prog_137_method_9_0) rfl ?_
    show Steps p.tables e below (s₁.setTop (mkF m 1 #[.val (.ref a1), .val (.int (1 : Int32))] [(.int (1 : Int32))])) _
    refine XS.ifYes X0.here hx rfl (pc0 := 1) (pc' := 11) rfl (hb hby d_prog_137_method_9_1) rfl ((if0 _ _).trans (flt ((by decide) : ¬ ((1 : Int32) < (0 : Int32)))).2.1) (by decide) (by decide) ?_
    show Steps p.tables e below (s₁.setTop (mkF m 11 #[.val (.ref a1), .val (.int (1 : Int32))] [])) _
    refine XS.iloadN X0.here hx rfl (hb hby d_prog_137_method_9_11) rfl ?_
    show Steps p.tables e below (s₁.setTop (mkF m 12 #[.val (.ref a1), .val (.int (1 : Int32))] [(.int (1 : Int32))])) _
    refine XS.ifYes X0.here hx rfl (pc0 := 12) (pc' := 22) rfl (hb hby d_prog_137_method_9_12) rfl ((if0 _ _).trans (feq ((by decide) : ¬ ((1 : Int32) = (0 : Int32)))).2) (by decide) (by decide) ?_
    show Steps p.tables e below (s₁.setTop (mkF m 22 #[.val (.ref a1), .val (.int (1 : Int32))] [])) _
    refine XS.aloadN X0.here hx rfl (hb hby d_prog_137_method_9_22) rfl rfl ?_
    show Steps p.tables e below (s₁.setTop (mkF m 23 #[.val (.ref a1), .val (.int (1 : Int32))] [(.ref a1)])) _
    refine st2 _ ?_
    exact kk)
  obtain ⟨fs, hr, hrun, hended, hW, hsame⟩ := X2.leave (v := some (.int (1 : Int32))) (fun h => by rw [Bd.returns] at h; cases h)
  refine ⟨_, _, pre3 _ ?_, hrun, hended, _, _, rfl, ?_, ⟨_, rfl⟩, hW, hsame.mono (by decide) (by decide)⟩
  · exact retN X2 hx (t := .boolean) Bd.returns (by simp) (hb hby d_prog_137_method_9_26) hr
  · show Q14 Z a1 h0 n0 _ T2.heap _
    rw [e2]
    exact ⟨rfl, N0, rfl⟩
def Q15 (Z : State) (a1 : Addr) (q2 : Int64) (q3 : Int64) (h0 : Heap) (n0 : Nat) (v : Option Value) (h : Heap) (L : List Loc) : Prop := v = some (.int (1 : Int32)) ∧ Fr n0 L ∧ h = h0
set_option maxRecDepth 65536 in
set_option maxHeartbeats 40000000 in
theorem rm15 (l : Launch) (Z : State) (a0 : Array Value) (hw : ∀ d ∈ tables_1, d.before a0 Z = true) (ws : List Jvm.Cond) (a1 : Addr) (q2 : Int64) (q3 : Int64) (h0 : Heap) (n0 : Nat) (Z0 : n0 ≤ h0.size) (hc4 : ¬ ((lcmpW q2 q3) < (0 : Int32))) (hc5 : ¬ ((lcmpW q2 q3) = (0 : Int32))) (F_whenGreater_a1 : Fld Z h0 a1 "com/example/latticut/latticut/lang/Comparison" "whenGreater" "Z" (.int (1 : Int32))) (E_a1 : Exa Z h0 a1 "com/example/latticut/latticut/lang/Comparison") :
    MetFree l (⟨"com/example/latticut/latticut/lang/Comparison", "test", "(JJ)Z"⟩ : MethodName) (head1 (Jvm.Cond.code (⟨"com/example/latticut/latticut/lang/Comparison", "test", "(JJ)Z"⟩ : MethodName) prog_137_method_6_code 5 (some .boolean) :: ws) ({ frames := 1, cells := 0, slots := 0, locals := 16 } : Room)) (fun a U => a = #[(.ref a1), (.long q2), (.long q3)] ∧ Z.Warmed39 U.vm ∧ U.heap = h0) (fun _ _ _ _ _ => True) (fun _ U o U' => ∃ v L, o = .returned v ∧ Q15 Z a1 q2 q3 h0 n0 v U'.heap L ∧ FrameEnd U o U' L ({ frames := 1, cells := 0, slots := 0, locals := 16 } : Room).cells ({ frames := 1, cells := 0, slots := 0, locals := 16 } : Room).slots) := by
  refine MetFree.of_bodySF (plainFor_of_name pn_1) hisR ?_
  intro p e s m args below meth c s₁ Bd hml0 hP hK
  obtain ⟨rfl, hZ, hh⟩ := hP
  have hx := Bd.exec
  have hby := Bd.bytes
  have hml : c.maxLocals = 5 := hml0
  have hown : s.vm.findClass "com/example/latticut/latticut/lang/Comparison" = some m.cls := findClass_of_methodNamed Bd.named
  have hnm := (name_of_methodNamed Bd.named Bd.method).1
  have X0 : Stand p l e ({ frames := 1, cells := 0, slots := 0, locals := 16 } : Room) s m #[(.ref a1), (.long q2), (.long q3)] below meth c s₁ [] 0 0 := Stand.of_body Bd
  have e0 : s₁.heap = h0 := by rw [← hh, Bd.state]; rfl
  have N0 := Fr.nil n0
  have pre0 : ∀ t, Steps p.tables e below (s₁.setTop (mkF m 0 #[.val (.ref a1), .val (.long q2), .second, .val (.long q3), .second] [])) t → Steps p.tables e below (s₁.setTop (entryFrame m #[(.ref a1), (.long q2), (.long q3)] 5)) t := fun t k => castTop (ef_5 m a1 (q2) (q3)) k
  obtain ⟨_, _, ⟨T6, L6, k6, n6⟩, -, X6, ⟨Lc6, hQ6, l6, y6, z6⟩, st6⟩ := Jvm.LawKit.callS X0 hx (y := (⟨"java/lang/Long", "compare", "(JJ)I"⟩ : MethodName)) hown (mvT hZ (hw _ (List.mem_of_getElem? (i := 21) rfl))) (mvT hZ (hw _ (List.mem_of_getElem? (i := 22) rfl))) (mvT hZ (hw _ (List.mem_of_getElem? (i := 23) rfl))) (mvT hZ (hw _ (List.mem_of_getElem? (i := 24) rfl))) (by decide) (backOf (W := 1) (rm13 l Z a0 hw [] q2 q3 h0 n0 Z0 hc4 hc5) hZ (hw _ (List.mem_of_getElem? (i := 24) rfl)) (hw _ (List.mem_of_getElem? (i := 23) rfl)) (by decide) (by decide)) (g := (mkF m 3 #[.val (.ref a1), .val (.long q2), .second, .val (.long q3), .second] [(.long q3), (.long q2), (.ref a1)])) rfl (by rw [hml]; rfl) (argsL := [(.long q2), (.long q3)]) (rest := [(.ref a1)]) (lenOf pd_2 rfl) rfl (by show 2 * 0 + _ ≤ _; exact Nat.le_of_eq rfl) (hb hby d_prog_137_method_6_3) (fun _ _ => ⟨rfl, e0, (by decide : 0 + 0 ≤ _), (by decide : 0 + 0 ≤ _)⟩)
  dsimp only [Pt.U, Pt.locs, Pt.cells, Pt.slots] at X6 l6 y6 z6 st6 hQ6
  subst l6 y6 z6
  obtain ⟨rfl, N6q, e6⟩ := hQ6
  have N6 := Fr.app N0 N6q
  obtain ⟨cq7, q7, q7'⟩ := E_a1.cell
  obtain ⟨_, _, ⟨T7, L7, k7, n7⟩, -, X7, ⟨Lc7, hQ7, l7, y7, z7⟩, st7⟩ := own_privateBack X6 hx (y := (⟨"com/example/latticut/latticut/lang/Comparison", "holds", "(I)Z"⟩ : MethodName)) hown (mvT hZ (hw _ (List.mem_of_getElem? (i := 25) rfl))) (mvT hZ (hw _ (List.mem_of_getElem? (i := 26) rfl))) (own_nf (args := #[]) (mvT hZ (hw _ (List.mem_of_getElem? (i := 19) rfl))) rfl) (Cond.privateMethod_at (mvP hZ (hw _ (List.mem_of_getElem? (i := 27) rfl)) (args := #[]))) (mvT hZ (hw _ (List.mem_of_getElem? (i := 28) rfl))) (by decide) (backOf (W := 0) (rm14 l Z a0 hw [] a1 h0 n0 Z0 F_whenGreater_a1) hZ (hw _ (List.mem_of_getElem? (i := 28) rfl)) (hw _ (List.mem_of_getElem? (i := 6) rfl)) (by decide) (by decide)) (g := (mkF m 6 #[.val (.ref a1), .val (.long q2), .second, .val (.long q3), .second] [(.int (1 : Int32)), (.ref a1)])) rfl (by rw [hml]; rfl) (Steps.refl _) (a := a1) (by rw [e6]; exact q7) q7' (argsL := [(.int (1 : Int32))]) (rest := []) (lenOf pd_3 rfl) rfl (by show 2 * 0 + _ ≤ _; exact Nat.le_of_eq rfl) (hb hby d_prog_137_method_6_6) (fun _ _ => ⟨rfl, e6, (by decide : 0 + 0 ≤ _), (by decide : 0 + 0 ≤ _)⟩)
  dsimp only [Pt.U, Pt.locs, Pt.cells, Pt.slots] at X7 l7 y7 z7 st7 hQ7
  subst l7 y7 z7
  obtain ⟨rfl, N7q, e7⟩ := hQ7
  have N7 := Fr.app N6 N7q
  have pre8 : ∀ t, Steps p.tables e below (T7.setTop (mkF m 9 #[.val (.ref a1), .val (.long q2), .second, .val (.long q3), .second] [(.int (1 : Int32))])) t → Steps p.tables e below (s₁.setTop (entryFrame m #[(.ref a1), (.long q2), (.long q3)] 5)) t := fun t kk => pre0 t (by
    show Steps p.tables e below (s₁.setTop (mkF m 0 #[.val (.ref a1), .val (.long q2), .second, .val (.long q3), .second] [])) _
    refine XS.aloadN X0.here hx rfl (hb hby d_prog_137_method_6_0) rfl rfl ?_
    show Steps p.tables e below (s₁.setTop (mkF m 1 #[.val (.ref a1), .val (.long q2), .second, .val (.long q3), .second] [(.ref a1)])) _
    refine XS.lloadN X0.here hx rfl (hb hby d_prog_137_method_6_1) rfl ?_
    show Steps p.tables e below (s₁.setTop (mkF m 2 #[.val (.ref a1), .val (.long q2), .second, .val (.long q3), .second] [(.long q2), (.ref a1)])) _
    refine XS.lloadN X0.here hx rfl (hb hby d_prog_137_method_6_2) rfl ?_
    show Steps p.tables e below (s₁.setTop (mkF m 3 #[.val (.ref a1), .val (.long q2), .second, .val (.long q3), .second] [(.long q3), (.long q2), (.ref a1)])) _
    refine st6 _ ?_
    show Steps p.tables e below (T6.setTop (mkF m 6 #[.val (.ref a1), .val (.long q2), .second, .val (.long q3), .second] [(.int (1 : Int32)), (.ref a1)])) _
    refine st7.trans ?_
    exact kk)
  obtain ⟨fs, hr, hrun, hended, hW, hsame⟩ := X7.leave (v := some (.int (1 : Int32))) (fun h => by rw [Bd.returns] at h; cases h)
  refine ⟨_, _, pre8 _ ?_, hrun, hended, _, _, rfl, ?_, ⟨_, rfl⟩, hW, hsame.mono (by decide) (by decide)⟩
  · exact retN X7 hx (t := .boolean) Bd.returns (by simp) (hb hby d_prog_137_method_6_9) hr
  · show Q15 Z a1 q2 q3 h0 n0 _ T7.heap _
    rw [e7]
    exact ⟨rfl, N7, rfl⟩
def Q16 (Z : State) (a1 : Addr) (h0 : Heap) (n0 : Nat) (v : Option Value) (h : Heap) (L : List Loc) : Prop := v = some (.int (0 : Int32)) ∧ Fr n0 L ∧ h = h0
set_option maxRecDepth 65536 in
set_option maxHeartbeats 40000000 in
theorem rm16 (l : Launch) (Z : State) (a0 : Array Value) (hw : ∀ d ∈ tables_1, d.before a0 Z = true) (ws : List Jvm.Cond) (a1 : Addr) (h0 : Heap) (n0 : Nat) (Z0 : n0 ≤ h0.size) (F_whenGreater_a1 : Fld Z h0 a1 "com/example/latticut/latticut/lang/Comparison" "whenGreater" "Z" (.int (0 : Int32))) :
    MetFree l (⟨"com/example/latticut/latticut/lang/Comparison", "holds", "(I)Z"⟩ : MethodName) (head1 (Jvm.Cond.code (⟨"com/example/latticut/latticut/lang/Comparison", "holds", "(I)Z"⟩ : MethodName) prog_137_method_9_code 2 (some .boolean) :: ws) ({ frames := 0, cells := 0, slots := 0, locals := 0 } : Room)) (fun a U => a = #[(.ref a1), (.int (1 : Int32))] ∧ Z.Warmed39 U.vm ∧ U.heap = h0) (fun _ _ _ _ _ => True) (fun _ U o U' => ∃ v L, o = .returned v ∧ Q16 Z a1 h0 n0 v U'.heap L ∧ FrameEnd U o U' L ({ frames := 0, cells := 0, slots := 0, locals := 0 } : Room).cells ({ frames := 0, cells := 0, slots := 0, locals := 0 } : Room).slots) := by
  refine MetFree.of_bodySF (plainFor_of_name pn_1) hisR ?_
  intro p e s m args below meth c s₁ Bd hml0 hP hK
  obtain ⟨rfl, hZ, hh⟩ := hP
  have hx := Bd.exec
  have hby := Bd.bytes
  have hml : c.maxLocals = 2 := hml0
  have hown : s.vm.findClass "com/example/latticut/latticut/lang/Comparison" = some m.cls := findClass_of_methodNamed Bd.named
  have hnm := (name_of_methodNamed Bd.named Bd.method).1
  have X0 : Stand p l e ({ frames := 0, cells := 0, slots := 0, locals := 0 } : Room) s m #[(.ref a1), (.int (1 : Int32))] below meth c s₁ [] 0 0 := Stand.of_body Bd
  have e0 : s₁.heap = h0 := by rw [← hh, Bd.state]; rfl
  have N0 := Fr.nil n0
  have pre0 : ∀ t, Steps p.tables e below (s₁.setTop (mkF m 0 #[.val (.ref a1), .val (.int (1 : Int32))] [])) t → Steps p.tables e below (s₁.setTop (entryFrame m #[(.ref a1), (.int (1 : Int32))] 2)) t := fun t k => castTop (ef_7 m a1) k
  obtain ⟨T2, X2, e2, st2⟩ := getF X0 hx hZ hown (host := "") (Or.inl (hw _ (List.mem_of_getElem? (i := 29) rfl))) Via.refl e0 F_whenGreater_a1 (g := (mkF m 23 #[.val (.ref a1), .val (.int (1 : Int32))] [(.ref a1)])) rfl rfl (hb hby d_prog_137_method_9_23)
  have pre3 : ∀ t, Steps p.tables e below (T2.setTop (mkF m 26 #[.val (.ref a1), .val (.int (1 : Int32))] [(.int (0 : Int32))])) t → Steps p.tables e below (s₁.setTop (entryFrame m #[(.ref a1), (.int (1 : Int32))] 2)) t := fun t kk => pre0 t (by
    show Steps p.tables e below (s₁.setTop (mkF m 0 #[.val (.ref a1), .val (.int (1 : Int32))] [])) _
    refine XS.iloadN X0.here hx rfl (hb hby d_prog_137_method_9_0) rfl ?_
    show Steps p.tables e below (s₁.setTop (mkF m 1 #[.val (.ref a1), .val (.int (1 : Int32))] [(.int (1 : Int32))])) _
    refine XS.ifYes X0.here hx rfl (pc0 := 1) (pc' := 11) rfl (hb hby d_prog_137_method_9_1) rfl ((if0 _ _).trans (flt ((by decide) : ¬ ((1 : Int32) < (0 : Int32)))).2.1) (by decide) (by decide) ?_
    show Steps p.tables e below (s₁.setTop (mkF m 11 #[.val (.ref a1), .val (.int (1 : Int32))] [])) _
    refine XS.iloadN X0.here hx rfl (hb hby d_prog_137_method_9_11) rfl ?_
    show Steps p.tables e below (s₁.setTop (mkF m 12 #[.val (.ref a1), .val (.int (1 : Int32))] [(.int (1 : Int32))])) _
    refine XS.ifYes X0.here hx rfl (pc0 := 12) (pc' := 22) rfl (hb hby d_prog_137_method_9_12) rfl ((if0 _ _).trans (feq ((by decide) : ¬ ((1 : Int32) = (0 : Int32)))).2) (by decide) (by decide) ?_
    show Steps p.tables e below (s₁.setTop (mkF m 22 #[.val (.ref a1), .val (.int (1 : Int32))] [])) _
    refine XS.aloadN X0.here hx rfl (hb hby d_prog_137_method_9_22) rfl rfl ?_
    show Steps p.tables e below (s₁.setTop (mkF m 23 #[.val (.ref a1), .val (.int (1 : Int32))] [(.ref a1)])) _
    refine st2 _ ?_
    exact kk)
  obtain ⟨fs, hr, hrun, hended, hW, hsame⟩ := X2.leave (v := some (.int (0 : Int32))) (fun h => by rw [Bd.returns] at h; cases h)
  refine ⟨_, _, pre3 _ ?_, hrun, hended, _, _, rfl, ?_, ⟨_, rfl⟩, hW, hsame.mono (by decide) (by decide)⟩
  · exact retN X2 hx (t := .boolean) Bd.returns (by simp) (hb hby d_prog_137_method_9_26) hr
  · show Q16 Z a1 h0 n0 _ T2.heap _
    rw [e2]
    exact ⟨rfl, N0, rfl⟩
def Q17 (Z : State) (a1 : Addr) (q2 : Int64) (q3 : Int64) (h0 : Heap) (n0 : Nat) (v : Option Value) (h : Heap) (L : List Loc) : Prop := v = some (.int (0 : Int32)) ∧ Fr n0 L ∧ h = h0
set_option maxRecDepth 65536 in
set_option maxHeartbeats 40000000 in
theorem rm17 (l : Launch) (Z : State) (a0 : Array Value) (hw : ∀ d ∈ tables_1, d.before a0 Z = true) (ws : List Jvm.Cond) (a1 : Addr) (q2 : Int64) (q3 : Int64) (h0 : Heap) (n0 : Nat) (Z0 : n0 ≤ h0.size) (hc4 : ¬ ((lcmpW q2 q3) < (0 : Int32))) (hc5 : ¬ ((lcmpW q2 q3) = (0 : Int32))) (F_whenGreater_a1 : Fld Z h0 a1 "com/example/latticut/latticut/lang/Comparison" "whenGreater" "Z" (.int (0 : Int32))) (E_a1 : Exa Z h0 a1 "com/example/latticut/latticut/lang/Comparison") :
    MetFree l (⟨"com/example/latticut/latticut/lang/Comparison", "test", "(JJ)Z"⟩ : MethodName) (head1 (Jvm.Cond.code (⟨"com/example/latticut/latticut/lang/Comparison", "test", "(JJ)Z"⟩ : MethodName) prog_137_method_6_code 5 (some .boolean) :: ws) ({ frames := 1, cells := 0, slots := 0, locals := 16 } : Room)) (fun a U => a = #[(.ref a1), (.long q2), (.long q3)] ∧ Z.Warmed39 U.vm ∧ U.heap = h0) (fun _ _ _ _ _ => True) (fun _ U o U' => ∃ v L, o = .returned v ∧ Q17 Z a1 q2 q3 h0 n0 v U'.heap L ∧ FrameEnd U o U' L ({ frames := 1, cells := 0, slots := 0, locals := 16 } : Room).cells ({ frames := 1, cells := 0, slots := 0, locals := 16 } : Room).slots) := by
  refine MetFree.of_bodySF (plainFor_of_name pn_1) hisR ?_
  intro p e s m args below meth c s₁ Bd hml0 hP hK
  obtain ⟨rfl, hZ, hh⟩ := hP
  have hx := Bd.exec
  have hby := Bd.bytes
  have hml : c.maxLocals = 5 := hml0
  have hown : s.vm.findClass "com/example/latticut/latticut/lang/Comparison" = some m.cls := findClass_of_methodNamed Bd.named
  have hnm := (name_of_methodNamed Bd.named Bd.method).1
  have X0 : Stand p l e ({ frames := 1, cells := 0, slots := 0, locals := 16 } : Room) s m #[(.ref a1), (.long q2), (.long q3)] below meth c s₁ [] 0 0 := Stand.of_body Bd
  have e0 : s₁.heap = h0 := by rw [← hh, Bd.state]; rfl
  have N0 := Fr.nil n0
  have pre0 : ∀ t, Steps p.tables e below (s₁.setTop (mkF m 0 #[.val (.ref a1), .val (.long q2), .second, .val (.long q3), .second] [])) t → Steps p.tables e below (s₁.setTop (entryFrame m #[(.ref a1), (.long q2), (.long q3)] 5)) t := fun t k => castTop (ef_5 m a1 (q2) (q3)) k
  obtain ⟨_, _, ⟨T6, L6, k6, n6⟩, -, X6, ⟨Lc6, hQ6, l6, y6, z6⟩, st6⟩ := Jvm.LawKit.callS X0 hx (y := (⟨"java/lang/Long", "compare", "(JJ)I"⟩ : MethodName)) hown (mvT hZ (hw _ (List.mem_of_getElem? (i := 21) rfl))) (mvT hZ (hw _ (List.mem_of_getElem? (i := 22) rfl))) (mvT hZ (hw _ (List.mem_of_getElem? (i := 23) rfl))) (mvT hZ (hw _ (List.mem_of_getElem? (i := 24) rfl))) (by decide) (backOf (W := 1) (rm13 l Z a0 hw [] q2 q3 h0 n0 Z0 hc4 hc5) hZ (hw _ (List.mem_of_getElem? (i := 24) rfl)) (hw _ (List.mem_of_getElem? (i := 23) rfl)) (by decide) (by decide)) (g := (mkF m 3 #[.val (.ref a1), .val (.long q2), .second, .val (.long q3), .second] [(.long q3), (.long q2), (.ref a1)])) rfl (by rw [hml]; rfl) (argsL := [(.long q2), (.long q3)]) (rest := [(.ref a1)]) (lenOf pd_2 rfl) rfl (by show 2 * 0 + _ ≤ _; exact Nat.le_of_eq rfl) (hb hby d_prog_137_method_6_3) (fun _ _ => ⟨rfl, e0, (by decide : 0 + 0 ≤ _), (by decide : 0 + 0 ≤ _)⟩)
  dsimp only [Pt.U, Pt.locs, Pt.cells, Pt.slots] at X6 l6 y6 z6 st6 hQ6
  subst l6 y6 z6
  obtain ⟨rfl, N6q, e6⟩ := hQ6
  have N6 := Fr.app N0 N6q
  obtain ⟨cq7, q7, q7'⟩ := E_a1.cell
  obtain ⟨_, _, ⟨T7, L7, k7, n7⟩, -, X7, ⟨Lc7, hQ7, l7, y7, z7⟩, st7⟩ := own_privateBack X6 hx (y := (⟨"com/example/latticut/latticut/lang/Comparison", "holds", "(I)Z"⟩ : MethodName)) hown (mvT hZ (hw _ (List.mem_of_getElem? (i := 25) rfl))) (mvT hZ (hw _ (List.mem_of_getElem? (i := 26) rfl))) (own_nf (args := #[]) (mvT hZ (hw _ (List.mem_of_getElem? (i := 19) rfl))) rfl) (Cond.privateMethod_at (mvP hZ (hw _ (List.mem_of_getElem? (i := 27) rfl)) (args := #[]))) (mvT hZ (hw _ (List.mem_of_getElem? (i := 28) rfl))) (by decide) (backOf (W := 0) (rm16 l Z a0 hw [] a1 h0 n0 Z0 F_whenGreater_a1) hZ (hw _ (List.mem_of_getElem? (i := 28) rfl)) (hw _ (List.mem_of_getElem? (i := 6) rfl)) (by decide) (by decide)) (g := (mkF m 6 #[.val (.ref a1), .val (.long q2), .second, .val (.long q3), .second] [(.int (1 : Int32)), (.ref a1)])) rfl (by rw [hml]; rfl) (Steps.refl _) (a := a1) (by rw [e6]; exact q7) q7' (argsL := [(.int (1 : Int32))]) (rest := []) (lenOf pd_3 rfl) rfl (by show 2 * 0 + _ ≤ _; exact Nat.le_of_eq rfl) (hb hby d_prog_137_method_6_6) (fun _ _ => ⟨rfl, e6, (by decide : 0 + 0 ≤ _), (by decide : 0 + 0 ≤ _)⟩)
  dsimp only [Pt.U, Pt.locs, Pt.cells, Pt.slots] at X7 l7 y7 z7 st7 hQ7
  subst l7 y7 z7
  obtain ⟨rfl, N7q, e7⟩ := hQ7
  have N7 := Fr.app N6 N7q
  have pre8 : ∀ t, Steps p.tables e below (T7.setTop (mkF m 9 #[.val (.ref a1), .val (.long q2), .second, .val (.long q3), .second] [(.int (0 : Int32))])) t → Steps p.tables e below (s₁.setTop (entryFrame m #[(.ref a1), (.long q2), (.long q3)] 5)) t := fun t kk => pre0 t (by
    show Steps p.tables e below (s₁.setTop (mkF m 0 #[.val (.ref a1), .val (.long q2), .second, .val (.long q3), .second] [])) _
    refine XS.aloadN X0.here hx rfl (hb hby d_prog_137_method_6_0) rfl rfl ?_
    show Steps p.tables e below (s₁.setTop (mkF m 1 #[.val (.ref a1), .val (.long q2), .second, .val (.long q3), .second] [(.ref a1)])) _
    refine XS.lloadN X0.here hx rfl (hb hby d_prog_137_method_6_1) rfl ?_
    show Steps p.tables e below (s₁.setTop (mkF m 2 #[.val (.ref a1), .val (.long q2), .second, .val (.long q3), .second] [(.long q2), (.ref a1)])) _
    refine XS.lloadN X0.here hx rfl (hb hby d_prog_137_method_6_2) rfl ?_
    show Steps p.tables e below (s₁.setTop (mkF m 3 #[.val (.ref a1), .val (.long q2), .second, .val (.long q3), .second] [(.long q3), (.long q2), (.ref a1)])) _
    refine st6 _ ?_
    show Steps p.tables e below (T6.setTop (mkF m 6 #[.val (.ref a1), .val (.long q2), .second, .val (.long q3), .second] [(.int (1 : Int32)), (.ref a1)])) _
    refine st7.trans ?_
    exact kk)
  obtain ⟨fs, hr, hrun, hended, hW, hsame⟩ := X7.leave (v := some (.int (0 : Int32))) (fun h => by rw [Bd.returns] at h; cases h)
  refine ⟨_, _, pre8 _ ?_, hrun, hended, _, _, rfl, ?_, ⟨_, rfl⟩, hW, hsame.mono (by decide) (by decide)⟩
  · exact retN X7 hx (t := .boolean) Bd.returns (by simp) (hb hby d_prog_137_method_6_9) hr
  · show Q17 Z a1 q2 q3 h0 n0 _ T7.heap _
    rw [e7]
    exact ⟨rfl, N7, rfl⟩
def Q18 (Z : State) (q1 : Int64) (q2 : Int64) (h0 : Heap) (n0 : Nat) (v : Option Value) (h : Heap) (L : List Loc) : Prop := v = some (.int (0 : Int32)) ∧ Fr n0 L ∧ h = h0
set_option maxRecDepth 65536 in
set_option maxHeartbeats 40000000 in
theorem rm18 (l : Launch) (Z : State) (a0 : Array Value) (hw : ∀ d ∈ tables_1, d.before a0 Z = true) (ws : List Jvm.Cond) (q1 : Int64) (q2 : Int64) (h0 : Heap) (n0 : Nat) (Z0 : n0 ≤ h0.size) (hc3 : ¬ ((lcmpW q1 q2) < (0 : Int32))) (hc4 : (lcmpW q1 q2) = (0 : Int32)) :
    MetFree l (⟨"java/lang/Long", "compare", "(JJ)I"⟩ : MethodName) (head1 (Jvm.Cond.code (⟨"java/lang/Long", "compare", "(JJ)I"⟩ : MethodName) jdk_35_method_42_code 4 (some .int) :: ws) ({ frames := 0, cells := 0, slots := 0, locals := 0 } : Room)) (fun a U => a = #[(.long q1), (.long q2)] ∧ Z.Warmed39 U.vm ∧ U.heap = h0) (fun _ _ _ _ _ => True) (fun _ U o U' => ∃ v L, o = .returned v ∧ Q18 Z q1 q2 h0 n0 v U'.heap L ∧ FrameEnd U o U' L ({ frames := 0, cells := 0, slots := 0, locals := 0 } : Room).cells ({ frames := 0, cells := 0, slots := 0, locals := 0 } : Room).slots) := by
  refine MetFree.of_bodySF (plainFor_of_name pn_2) hisR ?_
  intro p e s m args below meth c s₁ Bd hml0 hP hK
  obtain ⟨rfl, hZ, hh⟩ := hP
  have hx := Bd.exec
  have hby := Bd.bytes
  have hml : c.maxLocals = 4 := hml0
  have hown : s.vm.findClass "java/lang/Long" = some m.cls := findClass_of_methodNamed Bd.named
  have hnm := (name_of_methodNamed Bd.named Bd.method).1
  have X0 : Stand p l e ({ frames := 0, cells := 0, slots := 0, locals := 0 } : Room) s m #[(.long q1), (.long q2)] below meth c s₁ [] 0 0 := Stand.of_body Bd
  have e0 : s₁.heap = h0 := by rw [← hh, Bd.state]; rfl
  have N0 := Fr.nil n0
  have pre0 : ∀ t, Steps p.tables e below (s₁.setTop (mkF m 0 #[.val (.long q1), .second, .val (.long q2), .second] [])) t → Steps p.tables e below (s₁.setTop (entryFrame m #[(.long q1), (.long q2)] 4)) t := fun t k => castTop (ef_3 m (q1) (q2)) k
  have pre5 : ∀ t, Steps p.tables e below (s₁.setTop (mkF m 21 #[.val (.long q1), .second, .val (.long q2), .second] [(.int (0 : Int32))])) t → Steps p.tables e below (s₁.setTop (entryFrame m #[(.long q1), (.long q2)] 4)) t := fun t kk => pre0 t (by
    show Steps p.tables e below (s₁.setTop (mkF m 0 #[.val (.long q1), .second, .val (.long q2), .second] [])) _
    refine XS.lloadN X0.here hx rfl (hb hby d_jdk_35_method_42_0) rfl ?_
    show Steps p.tables e below (s₁.setTop (mkF m 1 #[.val (.long q1), .second, .val (.long q2), .second] [(.long q1)])) _
    refine XS.lloadN X0.here hx rfl (hb hby d_jdk_35_method_42_1) rfl ?_
    show Steps p.tables e below (s₁.setTop (mkF m 2 #[.val (.long q1), .second, .val (.long q2), .second] [(.long q2), (.long q1)])) _
    refine XS.lcmp X0.here hx rfl (hb hby d_jdk_35_method_42_2) rfl ?_
    show Steps p.tables e below (s₁.setTop (mkF m 3 #[.val (.long q1), .second, .val (.long q2), .second] [(.int (lcmpW q1 q2))])) _
    refine XS.ifYes X0.here hx rfl (pc0 := 3) (pc' := 10) rfl (hb hby d_jdk_35_method_42_3) rfl ((if0 _ _).trans (flt (hc3 : ¬ ((lcmpW q1 q2) < (0 : Int32)))).2.1) (by decide) (by decide) ?_
    show Steps p.tables e below (s₁.setTop (mkF m 10 #[.val (.long q1), .second, .val (.long q2), .second] [])) _
    refine XS.lloadN X0.here hx rfl (hb hby d_jdk_35_method_42_10) rfl ?_
    show Steps p.tables e below (s₁.setTop (mkF m 11 #[.val (.long q1), .second, .val (.long q2), .second] [(.long q1)])) _
    refine XS.lloadN X0.here hx rfl (hb hby d_jdk_35_method_42_11) rfl ?_
    show Steps p.tables e below (s₁.setTop (mkF m 12 #[.val (.long q1), .second, .val (.long q2), .second] [(.long q2), (.long q1)])) _
    refine XS.lcmp X0.here hx rfl (hb hby d_jdk_35_method_42_12) rfl ?_
    show Steps p.tables e below (s₁.setTop (mkF m 13 #[.val (.long q1), .second, .val (.long q2), .second] [(.int (lcmpW q1 q2))])) _
    refine XS.ifNo X0.here hx rfl (hb hby d_jdk_35_method_42_13) rfl ((if0 _ _).trans (teq (hc4 : (lcmpW q1 q2) = (0 : Int32))).2) ?_
    show Steps p.tables e below (s₁.setTop (mkF m 16 #[.val (.long q1), .second, .val (.long q2), .second] [])) _
    refine XS.iconst X0.here hx rfl (hb hby d_jdk_35_method_42_16) ?_
    show Steps p.tables e below (s₁.setTop (mkF m 17 #[.val (.long q1), .second, .val (.long q2), .second] [(.int (0 : Int32))])) _
    refine XS.goto X0.here hx rfl (pc0 := 17) (pc' := 21) rfl (hb hby d_jdk_35_method_42_17) (by decide) (by decide) ?_
    exact kk)
  obtain ⟨fs, hr, hrun, hended, hW, hsame⟩ := X0.leave (v := some (.int (0 : Int32))) (fun h => by rw [Bd.returns] at h; cases h)
  refine ⟨_, _, pre5 _ ?_, hrun, hended, _, _, rfl, ?_, ⟨_, rfl⟩, hW, hsame.mono (by decide) (by decide)⟩
  · exact retI X0 hx Bd.returns (hb hby d_jdk_35_method_42_21) hr
  · show Q18 Z q1 q2 h0 n0 _ s₁.heap _
    rw [e0]
    exact ⟨rfl, N0, rfl⟩
def Q19 (Z : State) (a1 : Addr) (q2 : Int64) (q3 : Int64) (h0 : Heap) (n0 : Nat) (v : Option Value) (h : Heap) (L : List Loc) : Prop := v = some (.int (0 : Int32)) ∧ Fr n0 L ∧ h = h0
set_option maxRecDepth 65536 in
set_option maxHeartbeats 40000000 in
theorem rm19 (l : Launch) (Z : State) (a0 : Array Value) (hw : ∀ d ∈ tables_1, d.before a0 Z = true) (ws : List Jvm.Cond) (a1 : Addr) (q2 : Int64) (q3 : Int64) (h0 : Heap) (n0 : Nat) (Z0 : n0 ≤ h0.size) (hc4 : ¬ ((lcmpW q2 q3) < (0 : Int32))) (hc5 : (lcmpW q2 q3) = (0 : Int32)) (F_whenEqual_a1 : Fld Z h0 a1 "com/example/latticut/latticut/lang/Comparison" "whenEqual" "Z" (.int (0 : Int32))) (E_a1 : Exa Z h0 a1 "com/example/latticut/latticut/lang/Comparison") :
    MetFree l (⟨"com/example/latticut/latticut/lang/Comparison", "test", "(JJ)Z"⟩ : MethodName) (head1 (Jvm.Cond.code (⟨"com/example/latticut/latticut/lang/Comparison", "test", "(JJ)Z"⟩ : MethodName) prog_137_method_6_code 5 (some .boolean) :: ws) ({ frames := 1, cells := 0, slots := 0, locals := 16 } : Room)) (fun a U => a = #[(.ref a1), (.long q2), (.long q3)] ∧ Z.Warmed39 U.vm ∧ U.heap = h0) (fun _ _ _ _ _ => True) (fun _ U o U' => ∃ v L, o = .returned v ∧ Q19 Z a1 q2 q3 h0 n0 v U'.heap L ∧ FrameEnd U o U' L ({ frames := 1, cells := 0, slots := 0, locals := 16 } : Room).cells ({ frames := 1, cells := 0, slots := 0, locals := 16 } : Room).slots) := by
  refine MetFree.of_bodySF (plainFor_of_name pn_1) hisR ?_
  intro p e s m args below meth c s₁ Bd hml0 hP hK
  obtain ⟨rfl, hZ, hh⟩ := hP
  have hx := Bd.exec
  have hby := Bd.bytes
  have hml : c.maxLocals = 5 := hml0
  have hown : s.vm.findClass "com/example/latticut/latticut/lang/Comparison" = some m.cls := findClass_of_methodNamed Bd.named
  have hnm := (name_of_methodNamed Bd.named Bd.method).1
  have X0 : Stand p l e ({ frames := 1, cells := 0, slots := 0, locals := 16 } : Room) s m #[(.ref a1), (.long q2), (.long q3)] below meth c s₁ [] 0 0 := Stand.of_body Bd
  have e0 : s₁.heap = h0 := by rw [← hh, Bd.state]; rfl
  have N0 := Fr.nil n0
  have pre0 : ∀ t, Steps p.tables e below (s₁.setTop (mkF m 0 #[.val (.ref a1), .val (.long q2), .second, .val (.long q3), .second] [])) t → Steps p.tables e below (s₁.setTop (entryFrame m #[(.ref a1), (.long q2), (.long q3)] 5)) t := fun t k => castTop (ef_5 m a1 (q2) (q3)) k
  obtain ⟨_, _, ⟨T6, L6, k6, n6⟩, -, X6, ⟨Lc6, hQ6, l6, y6, z6⟩, st6⟩ := Jvm.LawKit.callS X0 hx (y := (⟨"java/lang/Long", "compare", "(JJ)I"⟩ : MethodName)) hown (mvT hZ (hw _ (List.mem_of_getElem? (i := 21) rfl))) (mvT hZ (hw _ (List.mem_of_getElem? (i := 22) rfl))) (mvT hZ (hw _ (List.mem_of_getElem? (i := 23) rfl))) (mvT hZ (hw _ (List.mem_of_getElem? (i := 24) rfl))) (by decide) (backOf (W := 1) (rm18 l Z a0 hw [] q2 q3 h0 n0 Z0 hc4 hc5) hZ (hw _ (List.mem_of_getElem? (i := 24) rfl)) (hw _ (List.mem_of_getElem? (i := 23) rfl)) (by decide) (by decide)) (g := (mkF m 3 #[.val (.ref a1), .val (.long q2), .second, .val (.long q3), .second] [(.long q3), (.long q2), (.ref a1)])) rfl (by rw [hml]; rfl) (argsL := [(.long q2), (.long q3)]) (rest := [(.ref a1)]) (lenOf pd_2 rfl) rfl (by show 2 * 0 + _ ≤ _; exact Nat.le_of_eq rfl) (hb hby d_prog_137_method_6_3) (fun _ _ => ⟨rfl, e0, (by decide : 0 + 0 ≤ _), (by decide : 0 + 0 ≤ _)⟩)
  dsimp only [Pt.U, Pt.locs, Pt.cells, Pt.slots] at X6 l6 y6 z6 st6 hQ6
  subst l6 y6 z6
  obtain ⟨rfl, N6q, e6⟩ := hQ6
  have N6 := Fr.app N0 N6q
  obtain ⟨cq7, q7, q7'⟩ := E_a1.cell
  obtain ⟨_, _, ⟨T7, L7, k7, n7⟩, -, X7, ⟨Lc7, hQ7, l7, y7, z7⟩, st7⟩ := own_privateBack X6 hx (y := (⟨"com/example/latticut/latticut/lang/Comparison", "holds", "(I)Z"⟩ : MethodName)) hown (mvT hZ (hw _ (List.mem_of_getElem? (i := 25) rfl))) (mvT hZ (hw _ (List.mem_of_getElem? (i := 26) rfl))) (own_nf (args := #[]) (mvT hZ (hw _ (List.mem_of_getElem? (i := 19) rfl))) rfl) (Cond.privateMethod_at (mvP hZ (hw _ (List.mem_of_getElem? (i := 27) rfl)) (args := #[]))) (mvT hZ (hw _ (List.mem_of_getElem? (i := 28) rfl))) (by decide) (backOf (W := 0) (rm9 l Z a0 hw [] a1 h0 n0 Z0 F_whenEqual_a1) hZ (hw _ (List.mem_of_getElem? (i := 28) rfl)) (hw _ (List.mem_of_getElem? (i := 6) rfl)) (by decide) (by decide)) (g := (mkF m 6 #[.val (.ref a1), .val (.long q2), .second, .val (.long q3), .second] [(.int (0 : Int32)), (.ref a1)])) rfl (by rw [hml]; rfl) (Steps.refl _) (a := a1) (by rw [e6]; exact q7) q7' (argsL := [(.int (0 : Int32))]) (rest := []) (lenOf pd_3 rfl) rfl (by show 2 * 0 + _ ≤ _; exact Nat.le_of_eq rfl) (hb hby d_prog_137_method_6_6) (fun _ _ => ⟨rfl, e6, (by decide : 0 + 0 ≤ _), (by decide : 0 + 0 ≤ _)⟩)
  dsimp only [Pt.U, Pt.locs, Pt.cells, Pt.slots] at X7 l7 y7 z7 st7 hQ7
  subst l7 y7 z7
  obtain ⟨rfl, N7q, e7⟩ := hQ7
  have N7 := Fr.app N6 N7q
  have pre8 : ∀ t, Steps p.tables e below (T7.setTop (mkF m 9 #[.val (.ref a1), .val (.long q2), .second, .val (.long q3), .second] [(.int (0 : Int32))])) t → Steps p.tables e below (s₁.setTop (entryFrame m #[(.ref a1), (.long q2), (.long q3)] 5)) t := fun t kk => pre0 t (by
    show Steps p.tables e below (s₁.setTop (mkF m 0 #[.val (.ref a1), .val (.long q2), .second, .val (.long q3), .second] [])) _
    refine XS.aloadN X0.here hx rfl (hb hby d_prog_137_method_6_0) rfl rfl ?_
    show Steps p.tables e below (s₁.setTop (mkF m 1 #[.val (.ref a1), .val (.long q2), .second, .val (.long q3), .second] [(.ref a1)])) _
    refine XS.lloadN X0.here hx rfl (hb hby d_prog_137_method_6_1) rfl ?_
    show Steps p.tables e below (s₁.setTop (mkF m 2 #[.val (.ref a1), .val (.long q2), .second, .val (.long q3), .second] [(.long q2), (.ref a1)])) _
    refine XS.lloadN X0.here hx rfl (hb hby d_prog_137_method_6_2) rfl ?_
    show Steps p.tables e below (s₁.setTop (mkF m 3 #[.val (.ref a1), .val (.long q2), .second, .val (.long q3), .second] [(.long q3), (.long q2), (.ref a1)])) _
    refine st6 _ ?_
    show Steps p.tables e below (T6.setTop (mkF m 6 #[.val (.ref a1), .val (.long q2), .second, .val (.long q3), .second] [(.int (0 : Int32)), (.ref a1)])) _
    refine st7.trans ?_
    exact kk)
  obtain ⟨fs, hr, hrun, hended, hW, hsame⟩ := X7.leave (v := some (.int (0 : Int32))) (fun h => by rw [Bd.returns] at h; cases h)
  refine ⟨_, _, pre8 _ ?_, hrun, hended, _, _, rfl, ?_, ⟨_, rfl⟩, hW, hsame.mono (by decide) (by decide)⟩
  · exact retN X7 hx (t := .boolean) Bd.returns (by simp) (hb hby d_prog_137_method_6_9) hr
  · show Q19 Z a1 q2 q3 h0 n0 _ T7.heap _
    rw [e7]
    exact ⟨rfl, N7, rfl⟩
def Q20 (Z : State) (a1 : Addr) (q2 : Int64) (q3 : Int64) (h0 : Heap) (n0 : Nat) (v : Option Value) (h : Heap) (L : List Loc) : Prop := v = some (.int (1 : Int32)) ∧ Fr n0 L ∧ h = h0
set_option maxRecDepth 65536 in
set_option maxHeartbeats 40000000 in
theorem rm20 (l : Launch) (Z : State) (a0 : Array Value) (hw : ∀ d ∈ tables_1, d.before a0 Z = true) (ws : List Jvm.Cond) (a1 : Addr) (q2 : Int64) (q3 : Int64) (h0 : Heap) (n0 : Nat) (Z0 : n0 ≤ h0.size) (hc4 : ¬ ((lcmpW q2 q3) < (0 : Int32))) (hc5 : (lcmpW q2 q3) = (0 : Int32)) (F_whenEqual_a1 : Fld Z h0 a1 "com/example/latticut/latticut/lang/Comparison" "whenEqual" "Z" (.int (1 : Int32))) (E_a1 : Exa Z h0 a1 "com/example/latticut/latticut/lang/Comparison") :
    MetFree l (⟨"com/example/latticut/latticut/lang/Comparison", "test", "(JJ)Z"⟩ : MethodName) (head1 (Jvm.Cond.code (⟨"com/example/latticut/latticut/lang/Comparison", "test", "(JJ)Z"⟩ : MethodName) prog_137_method_6_code 5 (some .boolean) :: ws) ({ frames := 1, cells := 0, slots := 0, locals := 16 } : Room)) (fun a U => a = #[(.ref a1), (.long q2), (.long q3)] ∧ Z.Warmed39 U.vm ∧ U.heap = h0) (fun _ _ _ _ _ => True) (fun _ U o U' => ∃ v L, o = .returned v ∧ Q20 Z a1 q2 q3 h0 n0 v U'.heap L ∧ FrameEnd U o U' L ({ frames := 1, cells := 0, slots := 0, locals := 16 } : Room).cells ({ frames := 1, cells := 0, slots := 0, locals := 16 } : Room).slots) := by
  refine MetFree.of_bodySF (plainFor_of_name pn_1) hisR ?_
  intro p e s m args below meth c s₁ Bd hml0 hP hK
  obtain ⟨rfl, hZ, hh⟩ := hP
  have hx := Bd.exec
  have hby := Bd.bytes
  have hml : c.maxLocals = 5 := hml0
  have hown : s.vm.findClass "com/example/latticut/latticut/lang/Comparison" = some m.cls := findClass_of_methodNamed Bd.named
  have hnm := (name_of_methodNamed Bd.named Bd.method).1
  have X0 : Stand p l e ({ frames := 1, cells := 0, slots := 0, locals := 16 } : Room) s m #[(.ref a1), (.long q2), (.long q3)] below meth c s₁ [] 0 0 := Stand.of_body Bd
  have e0 : s₁.heap = h0 := by rw [← hh, Bd.state]; rfl
  have N0 := Fr.nil n0
  have pre0 : ∀ t, Steps p.tables e below (s₁.setTop (mkF m 0 #[.val (.ref a1), .val (.long q2), .second, .val (.long q3), .second] [])) t → Steps p.tables e below (s₁.setTop (entryFrame m #[(.ref a1), (.long q2), (.long q3)] 5)) t := fun t k => castTop (ef_5 m a1 (q2) (q3)) k
  obtain ⟨_, _, ⟨T6, L6, k6, n6⟩, -, X6, ⟨Lc6, hQ6, l6, y6, z6⟩, st6⟩ := Jvm.LawKit.callS X0 hx (y := (⟨"java/lang/Long", "compare", "(JJ)I"⟩ : MethodName)) hown (mvT hZ (hw _ (List.mem_of_getElem? (i := 21) rfl))) (mvT hZ (hw _ (List.mem_of_getElem? (i := 22) rfl))) (mvT hZ (hw _ (List.mem_of_getElem? (i := 23) rfl))) (mvT hZ (hw _ (List.mem_of_getElem? (i := 24) rfl))) (by decide) (backOf (W := 1) (rm18 l Z a0 hw [] q2 q3 h0 n0 Z0 hc4 hc5) hZ (hw _ (List.mem_of_getElem? (i := 24) rfl)) (hw _ (List.mem_of_getElem? (i := 23) rfl)) (by decide) (by decide)) (g := (mkF m 3 #[.val (.ref a1), .val (.long q2), .second, .val (.long q3), .second] [(.long q3), (.long q2), (.ref a1)])) rfl (by rw [hml]; rfl) (argsL := [(.long q2), (.long q3)]) (rest := [(.ref a1)]) (lenOf pd_2 rfl) rfl (by show 2 * 0 + _ ≤ _; exact Nat.le_of_eq rfl) (hb hby d_prog_137_method_6_3) (fun _ _ => ⟨rfl, e0, (by decide : 0 + 0 ≤ _), (by decide : 0 + 0 ≤ _)⟩)
  dsimp only [Pt.U, Pt.locs, Pt.cells, Pt.slots] at X6 l6 y6 z6 st6 hQ6
  subst l6 y6 z6
  obtain ⟨rfl, N6q, e6⟩ := hQ6
  have N6 := Fr.app N0 N6q
  obtain ⟨cq7, q7, q7'⟩ := E_a1.cell
  obtain ⟨_, _, ⟨T7, L7, k7, n7⟩, -, X7, ⟨Lc7, hQ7, l7, y7, z7⟩, st7⟩ := own_privateBack X6 hx (y := (⟨"com/example/latticut/latticut/lang/Comparison", "holds", "(I)Z"⟩ : MethodName)) hown (mvT hZ (hw _ (List.mem_of_getElem? (i := 25) rfl))) (mvT hZ (hw _ (List.mem_of_getElem? (i := 26) rfl))) (own_nf (args := #[]) (mvT hZ (hw _ (List.mem_of_getElem? (i := 19) rfl))) rfl) (Cond.privateMethod_at (mvP hZ (hw _ (List.mem_of_getElem? (i := 27) rfl)) (args := #[]))) (mvT hZ (hw _ (List.mem_of_getElem? (i := 28) rfl))) (by decide) (backOf (W := 0) (rm11 l Z a0 hw [] a1 h0 n0 Z0 F_whenEqual_a1) hZ (hw _ (List.mem_of_getElem? (i := 28) rfl)) (hw _ (List.mem_of_getElem? (i := 6) rfl)) (by decide) (by decide)) (g := (mkF m 6 #[.val (.ref a1), .val (.long q2), .second, .val (.long q3), .second] [(.int (0 : Int32)), (.ref a1)])) rfl (by rw [hml]; rfl) (Steps.refl _) (a := a1) (by rw [e6]; exact q7) q7' (argsL := [(.int (0 : Int32))]) (rest := []) (lenOf pd_3 rfl) rfl (by show 2 * 0 + _ ≤ _; exact Nat.le_of_eq rfl) (hb hby d_prog_137_method_6_6) (fun _ _ => ⟨rfl, e6, (by decide : 0 + 0 ≤ _), (by decide : 0 + 0 ≤ _)⟩)
  dsimp only [Pt.U, Pt.locs, Pt.cells, Pt.slots] at X7 l7 y7 z7 st7 hQ7
  subst l7 y7 z7
  obtain ⟨rfl, N7q, e7⟩ := hQ7
  have N7 := Fr.app N6 N7q
  have pre8 : ∀ t, Steps p.tables e below (T7.setTop (mkF m 9 #[.val (.ref a1), .val (.long q2), .second, .val (.long q3), .second] [(.int (1 : Int32))])) t → Steps p.tables e below (s₁.setTop (entryFrame m #[(.ref a1), (.long q2), (.long q3)] 5)) t := fun t kk => pre0 t (by
    show Steps p.tables e below (s₁.setTop (mkF m 0 #[.val (.ref a1), .val (.long q2), .second, .val (.long q3), .second] [])) _
    refine XS.aloadN X0.here hx rfl (hb hby d_prog_137_method_6_0) rfl rfl ?_
    show Steps p.tables e below (s₁.setTop (mkF m 1 #[.val (.ref a1), .val (.long q2), .second, .val (.long q3), .second] [(.ref a1)])) _
    refine XS.lloadN X0.here hx rfl (hb hby d_prog_137_method_6_1) rfl ?_
    show Steps p.tables e below (s₁.setTop (mkF m 2 #[.val (.ref a1), .val (.long q2), .second, .val (.long q3), .second] [(.long q2), (.ref a1)])) _
    refine XS.lloadN X0.here hx rfl (hb hby d_prog_137_method_6_2) rfl ?_
    show Steps p.tables e below (s₁.setTop (mkF m 3 #[.val (.ref a1), .val (.long q2), .second, .val (.long q3), .second] [(.long q3), (.long q2), (.ref a1)])) _
    refine st6 _ ?_
    show Steps p.tables e below (T6.setTop (mkF m 6 #[.val (.ref a1), .val (.long q2), .second, .val (.long q3), .second] [(.int (0 : Int32)), (.ref a1)])) _
    refine st7.trans ?_
    exact kk)
  obtain ⟨fs, hr, hrun, hended, hW, hsame⟩ := X7.leave (v := some (.int (1 : Int32))) (fun h => by rw [Bd.returns] at h; cases h)
  refine ⟨_, _, pre8 _ ?_, hrun, hended, _, _, rfl, ?_, ⟨_, rfl⟩, hW, hsame.mono (by decide) (by decide)⟩
  · exact retN X7 hx (t := .boolean) Bd.returns (by simp) (hb hby d_prog_137_method_6_9) hr
  · show Q20 Z a1 q2 q3 h0 n0 _ T7.heap _
    rw [e7]
    exact ⟨rfl, N7, rfl⟩
theorem own_ar4 (x1 : Int64) (x2 : Int64) (h0 : ¬ ((lcmpW x1 x2) < (0 : Int32))) (h1 : (lcmpW x1 x2) = (0 : Int32)) : ¬ ((lcmpW x1 x1) < (0 : Int32)) := by
  refine fun q => ?_
  have q' : (lcmpW x1 x1).toInt < (0 : Int32).toInt := Int32.lt_iff_toInt_lt.mp q
  have k0 : ¬ ((lcmpW x1 x2).toInt < (0 : Int32).toInt) := fun q => h0 (Int32.lt_iff_toInt_lt.mpr q)
  have k1 : (lcmpW x1 x2).toInt = (0 : Int32).toInt := congrArg Int32.toInt h1
  have z0 := rng64 x1
  have z1 := rng64 x2
  have z2 := rng32 (lcmpW x1 x2)
  have z3 := c_lcmp x1 x2
  have z4 : (0 : Int32).toInt = 0 := by decide
  have z5 := rng32 (lcmpW x1 x1)
  have z6 := c_lcmp x1 x1
  clear h0 h1 q
  try generalize (lcmpW x1 x2).toInt = t0 at *
  try generalize (lcmpW x1 x1).toInt = t1 at *
  try generalize (0 : Int32).toInt = t2 at *
  try generalize x1.toInt = t3 at *
  try generalize x2.toInt = t4 at *
  omega
theorem own_ar5 (x1 : Int64) (x2 : Int64) (h0 : ¬ ((lcmpW x1 x2) < (0 : Int32))) (h1 : (lcmpW x1 x2) = (0 : Int32)) : (lcmpW x1 x1) = (0 : Int32) := by
  refine Int32.toInt_inj.mp ?_
  have k0 : ¬ ((lcmpW x1 x2).toInt < (0 : Int32).toInt) := fun q => h0 (Int32.lt_iff_toInt_lt.mpr q)
  have k1 : (lcmpW x1 x2).toInt = (0 : Int32).toInt := congrArg Int32.toInt h1
  have z0 := rng64 x1
  have z1 := rng64 x2
  have z2 := rng32 (lcmpW x1 x2)
  have z3 := c_lcmp x1 x2
  have z4 : (0 : Int32).toInt = 0 := by decide
  have z5 := rng32 (lcmpW x1 x1)
  have z6 := c_lcmp x1 x1
  clear h0 h1
  try generalize (lcmpW x1 x2).toInt = t0 at *
  try generalize (lcmpW x1 x1).toInt = t1 at *
  try generalize (0 : Int32).toInt = t2 at *
  try generalize x1.toInt = t3 at *
  try generalize x2.toInt = t4 at *
  omega
theorem own_ar6 (x1 : Int64) (x2 : Int64) (h0 : ¬ ((lcmpW x1 x2) < (0 : Int32))) (h1 : (lcmpW x1 x2) = (0 : Int32)) : ¬ ((lcmpW x2 x1) < (0 : Int32)) := by
  refine fun q => ?_
  have q' : (lcmpW x2 x1).toInt < (0 : Int32).toInt := Int32.lt_iff_toInt_lt.mp q
  have k0 : ¬ ((lcmpW x1 x2).toInt < (0 : Int32).toInt) := fun q => h0 (Int32.lt_iff_toInt_lt.mpr q)
  have k1 : (lcmpW x1 x2).toInt = (0 : Int32).toInt := congrArg Int32.toInt h1
  have z0 := rng64 x1
  have z1 := rng64 x2
  have z2 := rng32 (lcmpW x1 x2)
  have z3 := c_lcmp x1 x2
  have z4 : (0 : Int32).toInt = 0 := by decide
  have z5 := rng32 (lcmpW x2 x1)
  have z6 := c_lcmp x2 x1
  clear h0 h1 q
  try generalize (lcmpW x1 x2).toInt = t0 at *
  try generalize (lcmpW x2 x1).toInt = t1 at *
  try generalize (0 : Int32).toInt = t2 at *
  try generalize x1.toInt = t3 at *
  try generalize x2.toInt = t4 at *
  omega
theorem own_ar7 (x1 : Int64) (x2 : Int64) (h0 : ¬ ((lcmpW x1 x2) < (0 : Int32))) (h1 : (lcmpW x1 x2) = (0 : Int32)) : (lcmpW x2 x1) = (0 : Int32) := by
  refine Int32.toInt_inj.mp ?_
  have k0 : ¬ ((lcmpW x1 x2).toInt < (0 : Int32).toInt) := fun q => h0 (Int32.lt_iff_toInt_lt.mpr q)
  have k1 : (lcmpW x1 x2).toInt = (0 : Int32).toInt := congrArg Int32.toInt h1
  have z0 := rng64 x1
  have z1 := rng64 x2
  have z2 := rng32 (lcmpW x1 x2)
  have z3 := c_lcmp x1 x2
  have z4 : (0 : Int32).toInt = 0 := by decide
  have z5 := rng32 (lcmpW x2 x1)
  have z6 := c_lcmp x2 x1
  clear h0 h1
  try generalize (lcmpW x1 x2).toInt = t0 at *
  try generalize (lcmpW x2 x1).toInt = t1 at *
  try generalize (0 : Int32).toInt = t2 at *
  try generalize x1.toInt = t3 at *
  try generalize x2.toInt = t4 at *
  omega
theorem own_ar8 (x1 : Int64) (x2 : Int64) (h0 : ¬ ((lcmpW x1 x2) < (0 : Int32))) (h1 : ¬ ((lcmpW x1 x2) = (0 : Int32))) : ¬ ((lcmpW x1 x1) < (0 : Int32)) := by
  refine fun q => ?_
  have q' : (lcmpW x1 x1).toInt < (0 : Int32).toInt := Int32.lt_iff_toInt_lt.mp q
  have k0 : ¬ ((lcmpW x1 x2).toInt < (0 : Int32).toInt) := fun q => h0 (Int32.lt_iff_toInt_lt.mpr q)
  have k1 : ¬ ((lcmpW x1 x2).toInt = (0 : Int32).toInt) := fun q => h1 (Int32.toInt_inj.mp q)
  have z0 := rng64 x1
  have z1 := rng64 x2
  have z2 := rng32 (lcmpW x1 x2)
  have z3 := c_lcmp x1 x2
  have z4 : (0 : Int32).toInt = 0 := by decide
  have z5 := rng32 (lcmpW x1 x1)
  have z6 := c_lcmp x1 x1
  clear h0 h1 q
  try generalize (lcmpW x1 x2).toInt = t0 at *
  try generalize (lcmpW x1 x1).toInt = t1 at *
  try generalize (0 : Int32).toInt = t2 at *
  try generalize x1.toInt = t3 at *
  try generalize x2.toInt = t4 at *
  omega
theorem own_ar9 (x1 : Int64) (x2 : Int64) (h0 : ¬ ((lcmpW x1 x2) < (0 : Int32))) (h1 : ¬ ((lcmpW x1 x2) = (0 : Int32))) : (lcmpW x1 x1) = (0 : Int32) := by
  refine Int32.toInt_inj.mp ?_
  have k0 : ¬ ((lcmpW x1 x2).toInt < (0 : Int32).toInt) := fun q => h0 (Int32.lt_iff_toInt_lt.mpr q)
  have k1 : ¬ ((lcmpW x1 x2).toInt = (0 : Int32).toInt) := fun q => h1 (Int32.toInt_inj.mp q)
  have z0 := rng64 x1
  have z1 := rng64 x2
  have z2 := rng32 (lcmpW x1 x2)
  have z3 := c_lcmp x1 x2
  have z4 : (0 : Int32).toInt = 0 := by decide
  have z5 := rng32 (lcmpW x1 x1)
  have z6 := c_lcmp x1 x1
  clear h0 h1
  try generalize (lcmpW x1 x2).toInt = t0 at *
  try generalize (lcmpW x1 x1).toInt = t1 at *
  try generalize (0 : Int32).toInt = t2 at *
  try generalize x1.toInt = t3 at *
  try generalize x2.toInt = t4 at *
  omega
theorem own_ar10 (x1 : Int64) (x2 : Int64) (h0 : ¬ ((lcmpW x1 x2) < (0 : Int32))) (h1 : ¬ ((lcmpW x1 x2) = (0 : Int32))) : (lcmpW x2 x1) < (0 : Int32) := by
  refine Int32.lt_iff_toInt_lt.mpr ?_
  have k0 : ¬ ((lcmpW x1 x2).toInt < (0 : Int32).toInt) := fun q => h0 (Int32.lt_iff_toInt_lt.mpr q)
  have k1 : ¬ ((lcmpW x1 x2).toInt = (0 : Int32).toInt) := fun q => h1 (Int32.toInt_inj.mp q)
  have z0 := rng64 x1
  have z1 := rng64 x2
  have z2 := rng32 (lcmpW x1 x2)
  have z3 := c_lcmp x1 x2
  have z4 : (0 : Int32).toInt = 0 := by decide
  have z5 := rng32 (lcmpW x2 x1)
  have z6 := c_lcmp x2 x1
  clear h0 h1
  try generalize (lcmpW x1 x2).toInt = t0 at *
  try generalize (lcmpW x2 x1).toInt = t1 at *
  try generalize (0 : Int32).toInt = t2 at *
  try generalize x1.toInt = t3 at *
  try generalize x2.toInt = t4 at *
  omega
theorem d_method_2_16 : decode method_2_code 16 = .ok (.iload_n 1, 1) := by decide +kernel
theorem d_method_2_17 : decode method_2_code 17 = .ok (.iconst 1, 1) := by decide +kernel
theorem d_method_2_18 : decode method_2_code 18 = .ok (.if_icmp .ne 7, 3) := by decide +kernel
theorem d_method_2_21 : decode method_2_code 21 = .ok (.getstatic 14, 3) := by decide +kernel
theorem d_method_2_24 : decode method_2_code 24 = .ok (.areturn, 1) := by decide +kernel
def Q21 (Z : State) (p1 : Int32) (a4 : Addr) (h0 : Heap) (n0 : Nat) (v : Option Value) (h : Heap) (L : List Loc) : Prop := v = some (.ref a4) ∧ Fr n0 L ∧ h = h0
set_option maxRecDepth 65536 in
set_option maxHeartbeats 40000000 in
theorem rm21 (l : Launch) (Z : State) (a0 : Array Value) (hw : ∀ d ∈ tables_1, d.before a0 Z = true) (ws : List Jvm.Cond) (p1 : Int32) (a4 : Addr) (h0 : Heap) (n0 : Nat) (Z0 : n0 ≤ h0.size) (hc2 : ¬ (((p1 &&& (2147483647 : Int32)) % (6 : Int32)) = (0 : Int32))) (hc3 : ((p1 &&& (2147483647 : Int32)) % (6 : Int32)) = (1 : Int32)) (S_NOT_EQUAL : Sta Z h0 "com/example/latticut/latticut/lang/Comparison" "NOT_EQUAL" "Lcom/example/latticut/latticut/lang/Comparison;" (.ref a4)) :
    MetFree l (⟨"com/example/latticut/latticut/lang/ComparisonNegatedPinLaw", "pick", "(I)Lcom/example/latticut/latticut/lang/Comparison;"⟩ : MethodName) (head1 (Jvm.Cond.code (⟨"com/example/latticut/latticut/lang/ComparisonNegatedPinLaw", "pick", "(I)Lcom/example/latticut/latticut/lang/Comparison;"⟩ : MethodName) method_2_code 2 (some (.object "com/example/latticut/latticut/lang/Comparison")) :: ws) ({ frames := 0, cells := 0, slots := 0, locals := 0 } : Room)) (fun a U => a = #[(.int p1)] ∧ Z.Warmed39 U.vm ∧ U.heap = h0) (fun _ _ _ _ _ => True) (fun _ U o U' => ∃ v L, o = .returned v ∧ Q21 Z p1 a4 h0 n0 v U'.heap L ∧ FrameEnd U o U' L ({ frames := 0, cells := 0, slots := 0, locals := 0 } : Room).cells ({ frames := 0, cells := 0, slots := 0, locals := 0 } : Room).slots) := by
  refine MetFree.of_bodySF (plainFor_of_name pn_0) hisR ?_
  intro p e s m args below meth c s₁ Bd hml0 hP hK
  obtain ⟨rfl, hZ, hh⟩ := hP
  have hx := Bd.exec
  have hby := Bd.bytes
  have hml : c.maxLocals = 2 := hml0
  have hown : s.vm.findClass "com/example/latticut/latticut/lang/ComparisonNegatedPinLaw" = some m.cls := findClass_of_methodNamed Bd.named
  have hnm := (name_of_methodNamed Bd.named Bd.method).1
  have X0 : Stand p l e ({ frames := 0, cells := 0, slots := 0, locals := 0 } : Room) s m #[(.int p1)] below meth c s₁ [] 0 0 := Stand.of_body Bd
  have e0 : s₁.heap = h0 := by rw [← hh, Bd.state]; rfl
  have N0 := Fr.nil n0
  have pre0 : ∀ t, Steps p.tables e below (s₁.setTop (mkF m 0 #[.val (.int p1), .unset] [])) t → Steps p.tables e below (s₁.setTop (entryFrame m #[(.int p1)] 2)) t := fun t k => castTop (ef_1 m (p1)) k
  obtain ⟨T5, X5, e5, st5⟩ := getS2 X0 hx hZ hown (host := "") (Or.inl (hw _ (List.mem_of_getElem? (i := 46) rfl))) Via.refl e0 S_NOT_EQUAL (g := (mkF m 21 #[.val (.int p1), .val (.int ((p1 &&& (2147483647 : Int32)) % (6 : Int32)))] [])) rfl (hb hby d_method_2_21)
  have pre6 : ∀ t, Steps p.tables e below (T5.setTop (mkF m 24 #[.val (.int p1), .val (.int ((p1 &&& (2147483647 : Int32)) % (6 : Int32)))] [(.ref a4)])) t → Steps p.tables e below (s₁.setTop (entryFrame m #[(.int p1)] 2)) t := fun t kk => pre0 t (by
    show Steps p.tables e below (s₁.setTop (mkF m 0 #[.val (.int p1), .unset] [])) _
    refine XS.iloadN X0.here hx rfl (hb hby d_method_2_0) rfl ?_
    show Steps p.tables e below (s₁.setTop (mkF m 1 #[.val (.int p1), .unset] [(.int p1)])) _
    refine X0.ldcInt hx hown (mvT hZ (hw _ (List.mem_of_getElem? (i := 4) rfl))) (g := (mkF m 1 #[.val (.int p1), .unset] [(.int p1)])) rfl (hb hby d_method_2_1) _ ?_
    show Steps p.tables e below (s₁.setTop (mkF m 3 #[.val (.int p1), .unset] [(.int (2147483647 : Int32)), (.int p1)])) _
    refine XS.iand X0.here hx rfl (hb hby d_method_2_3) rfl ?_
    show Steps p.tables e below (s₁.setTop (mkF m 4 #[.val (.int p1), .unset] [(.int (p1 &&& (2147483647 : Int32)))])) _
    refine XS.bipush X0.here hx rfl (hb hby d_method_2_4) ?_
    show Steps p.tables e below (s₁.setTop (mkF m 6 #[.val (.int p1), .unset] [(.int (6 : Int32)), (.int (p1 &&& (2147483647 : Int32)))])) _
    refine iremM X0 hx rfl (hb hby d_method_2_6) rfl (by decide) ?_
    show Steps p.tables e below (s₁.setTop (mkF m 7 #[.val (.int p1), .unset] [(.int ((p1 &&& (2147483647 : Int32)) % (6 : Int32)))])) _
    refine XS.istoreN X0.here hx rfl (hb hby d_method_2_7) rfl (l' := #[.val (.int p1), .val (.int ((p1 &&& (2147483647 : Int32)) % (6 : Int32)))]) rfl ?_
    show Steps p.tables e below (s₁.setTop (mkF m 8 #[.val (.int p1), .val (.int ((p1 &&& (2147483647 : Int32)) % (6 : Int32)))] [])) _
    refine XS.iloadN X0.here hx rfl (hb hby d_method_2_8) rfl ?_
    show Steps p.tables e below (s₁.setTop (mkF m 9 #[.val (.int p1), .val (.int ((p1 &&& (2147483647 : Int32)) % (6 : Int32)))] [(.int ((p1 &&& (2147483647 : Int32)) % (6 : Int32)))])) _
    refine XS.ifYes X0.here hx rfl (pc0 := 9) (pc' := 16) rfl (hb hby d_method_2_9) rfl ((if0 _ _).trans (feq (hc2 : ¬ (((p1 &&& (2147483647 : Int32)) % (6 : Int32)) = (0 : Int32)))).2) (by decide) (by decide) ?_
    show Steps p.tables e below (s₁.setTop (mkF m 16 #[.val (.int p1), .val (.int ((p1 &&& (2147483647 : Int32)) % (6 : Int32)))] [])) _
    refine XS.iloadN X0.here hx rfl (hb hby d_method_2_16) rfl ?_
    show Steps p.tables e below (s₁.setTop (mkF m 17 #[.val (.int p1), .val (.int ((p1 &&& (2147483647 : Int32)) % (6 : Int32)))] [(.int ((p1 &&& (2147483647 : Int32)) % (6 : Int32)))])) _
    refine XS.iconst X0.here hx rfl (hb hby d_method_2_17) ?_
    show Steps p.tables e below (s₁.setTop (mkF m 18 #[.val (.int p1), .val (.int ((p1 &&& (2147483647 : Int32)) % (6 : Int32)))] [(.int (1 : Int32)), (.int ((p1 &&& (2147483647 : Int32)) % (6 : Int32)))])) _
    refine XS.icmpNo X0.here hx rfl (hb hby d_method_2_18) rfl (teq (hc3 : ((p1 &&& (2147483647 : Int32)) % (6 : Int32)) = (1 : Int32))).2 ?_
    show Steps p.tables e below (s₁.setTop (mkF m 21 #[.val (.int p1), .val (.int ((p1 &&& (2147483647 : Int32)) % (6 : Int32)))] [])) _
    refine st5 _ ?_
    exact kk)
  obtain ⟨fs, hr, hrun, hended, hW, hsame⟩ := X5.leave (v := some (.ref a4)) (fun h => by rw [Bd.returns] at h; cases h)
  refine ⟨_, _, pre6 _ ?_, hrun, hended, _, _, rfl, ?_, ⟨_, rfl⟩, hW, hsame.mono (by decide) (by decide)⟩
  · exact retOut X5 hx Bd.returns rfl (Or.inr (Or.inr (Or.inr (Or.inr ⟨rfl, rfl, rfl⟩)))) (hb hby d_method_2_24) hr
  · show Q21 Z p1 a4 h0 n0 _ T5.heap _
    rw [e5]
    exact ⟨rfl, N0, rfl⟩
theorem d_prog_137_method_8_14 : decode prog_137_method_8_code 14 = .ok (.aload_n 0, 1) := by decide +kernel
theorem d_prog_137_method_8_15 : decode prog_137_method_8_code 15 = .ok (.getstatic 7, 3) := by decide +kernel
theorem d_prog_137_method_8_18 : decode prog_137_method_8_code 18 = .ok (.if_acmp .ne 10, 3) := by decide +kernel
theorem d_prog_137_method_8_21 : decode prog_137_method_8_code 21 = .ok (.getstatic 3, 3) := by decide +kernel
theorem d_prog_137_method_8_24 : decode prog_137_method_8_code 24 = .ok (.astore_n 1, 1) := by decide +kernel
theorem d_prog_137_method_8_25 : decode prog_137_method_8_code 25 = .ok (.goto 49, 3) := by decide +kernel
def Q22 (Z : State) (a1 : Addr) (a2 : Addr) (h0 : Heap) (n0 : Nat) (v : Option Value) (h : Heap) (L : List Loc) : Prop := v = some (.ref a2) ∧ Fr n0 L ∧ h = h0
set_option maxRecDepth 65536 in
set_option maxHeartbeats 40000000 in
theorem rm22 (l : Launch) (Z : State) (a0 : Array Value) (hw : ∀ d ∈ tables_1, d.before a0 Z = true) (ws : List Jvm.Cond) (a1 : Addr) (a2 : Addr) (h0 : Heap) (n0 : Nat) (Z0 : n0 ≤ h0.size) (S_EQUAL : Sta Z h0 "com/example/latticut/latticut/lang/Comparison" "EQUAL" "Lcom/example/latticut/latticut/lang/Comparison;" (.ref a2)) (ne_a1_a2 : a1 ≠ a2) (S_NOT_EQUAL : Sta Z h0 "com/example/latticut/latticut/lang/Comparison" "NOT_EQUAL" "Lcom/example/latticut/latticut/lang/Comparison;" (.ref a1)) :
    MetFree l (⟨"com/example/latticut/latticut/lang/Comparison", "negated", "()Lcom/example/latticut/latticut/lang/Comparison;"⟩ : MethodName) (head1 (Jvm.Cond.code (⟨"com/example/latticut/latticut/lang/Comparison", "negated", "()Lcom/example/latticut/latticut/lang/Comparison;"⟩ : MethodName) prog_137_method_8_code 2 (some (.object "com/example/latticut/latticut/lang/Comparison")) :: ws) ({ frames := 0, cells := 0, slots := 0, locals := 0 } : Room)) (fun a U => a = #[(.ref a1)] ∧ Z.Warmed39 U.vm ∧ U.heap = h0) (fun _ _ _ _ _ => True) (fun _ U o U' => ∃ v L, o = .returned v ∧ Q22 Z a1 a2 h0 n0 v U'.heap L ∧ FrameEnd U o U' L ({ frames := 0, cells := 0, slots := 0, locals := 0 } : Room).cells ({ frames := 0, cells := 0, slots := 0, locals := 0 } : Room).slots) := by
  refine MetFree.of_bodySF (plainFor_of_name pn_1) hisR ?_
  intro p e s m args below meth c s₁ Bd hml0 hP hK
  obtain ⟨rfl, hZ, hh⟩ := hP
  have hx := Bd.exec
  have hby := Bd.bytes
  have hml : c.maxLocals = 2 := hml0
  have hown : s.vm.findClass "com/example/latticut/latticut/lang/Comparison" = some m.cls := findClass_of_methodNamed Bd.named
  have hnm := (name_of_methodNamed Bd.named Bd.method).1
  have X0 : Stand p l e ({ frames := 0, cells := 0, slots := 0, locals := 0 } : Room) s m #[(.ref a1)] below meth c s₁ [] 0 0 := Stand.of_body Bd
  have e0 : s₁.heap = h0 := by rw [← hh, Bd.state]; rfl
  have N0 := Fr.nil n0
  have pre0 : ∀ t, Steps p.tables e below (s₁.setTop (mkF m 0 #[.val (.ref a1), .unset] [])) t → Steps p.tables e below (s₁.setTop (entryFrame m #[(.ref a1)] 2)) t := fun t k => castTop (ef_2 m a1) k
  obtain ⟨T3, X3, e3, st3⟩ := getS2 X0 hx hZ hown (host := "") (Or.inl (hw _ (List.mem_of_getElem? (i := 13) rfl))) Via.refl e0 S_EQUAL (g := (mkF m 1 #[.val (.ref a1), .unset] [(.ref a1)])) rfl (hb hby d_prog_137_method_8_1)
  obtain ⟨T4, X4, e4, st4⟩ := getS2 X3 hx hZ hown (host := "") (Or.inl (hw _ (List.mem_of_getElem? (i := 14) rfl))) Via.refl e3 S_NOT_EQUAL (g := (mkF m 15 #[.val (.ref a1), .unset] [(.ref a1)])) rfl (hb hby d_prog_137_method_8_15)
  obtain ⟨T5, X5, e5, st5⟩ := getS2 X4 hx hZ hown (host := "") (Or.inl (hw _ (List.mem_of_getElem? (i := 13) rfl))) Via.refl e4 S_EQUAL (g := (mkF m 21 #[.val (.ref a1), .unset] [])) rfl (hb hby d_prog_137_method_8_21)
  have pre6 : ∀ t, Steps p.tables e below (T5.setTop (mkF m 75 #[.val (.ref a1), .val (.ref a2)] [(.ref a2)])) t → Steps p.tables e below (s₁.setTop (entryFrame m #[(.ref a1)] 2)) t := fun t kk => pre0 t (by
    show Steps p.tables e below (s₁.setTop (mkF m 0 #[.val (.ref a1), .unset] [])) _
    refine XS.aloadN X0.here hx rfl (hb hby d_prog_137_method_8_0) rfl rfl ?_
    show Steps p.tables e below (s₁.setTop (mkF m 1 #[.val (.ref a1), .unset] [(.ref a1)])) _
    refine st3 _ ?_
    show Steps p.tables e below (T3.setTop (mkF m 4 #[.val (.ref a1), .unset] [(.ref a2), (.ref a1)])) _
    refine Jvm.RoadKit.acmp (g := (mkF m 4 #[.val (.ref a1), .unset] [(.ref a2), (.ref a1)])) X3 hx rfl rfl rfl (pc0 := 4) (pc' := 14) (same := false) rfl (hb hby d_prog_137_method_8_4) rfl (decide_eq_false fun q => ne_a1_a2 (Value.ref.inj q)) (by decide) (by decide) ?_
    show Steps p.tables e below (T3.setTop (mkF m 14 #[.val (.ref a1), .unset] [])) _
    refine XS.aloadN X3.here hx rfl (hb hby d_prog_137_method_8_14) rfl rfl ?_
    show Steps p.tables e below (T3.setTop (mkF m 15 #[.val (.ref a1), .unset] [(.ref a1)])) _
    refine st4 _ ?_
    show Steps p.tables e below (T4.setTop (mkF m 18 #[.val (.ref a1), .unset] [(.ref a1), (.ref a1)])) _
    refine Jvm.RoadKit.acmp (g := (mkF m 18 #[.val (.ref a1), .unset] [(.ref a1), (.ref a1)])) X4 hx rfl rfl rfl (pc0 := 18) (pc' := 21) (same := true) rfl (hb hby d_prog_137_method_8_18) rfl (decide_eq_true rfl) (by decide) (by decide) ?_
    show Steps p.tables e below (T4.setTop (mkF m 21 #[.val (.ref a1), .unset] [])) _
    refine st5 _ ?_
    show Steps p.tables e below (T5.setTop (mkF m 24 #[.val (.ref a1), .unset] [(.ref a2)])) _
    refine XS.astoreN X5.here hx rfl (hb hby d_prog_137_method_8_24) rfl rfl (l' := #[.val (.ref a1), .val (.ref a2)]) rfl ?_
    show Steps p.tables e below (T5.setTop (mkF m 25 #[.val (.ref a1), .val (.ref a2)] [])) _
    refine XS.goto X5.here hx rfl (pc0 := 25) (pc' := 74) rfl (hb hby d_prog_137_method_8_25) (by decide) (by decide) ?_
    show Steps p.tables e below (T5.setTop (mkF m 74 #[.val (.ref a1), .val (.ref a2)] [])) _
    refine XS.aloadN X5.here hx rfl (hb hby d_prog_137_method_8_74) rfl rfl ?_
    exact kk)
  obtain ⟨fs, hr, hrun, hended, hW, hsame⟩ := X5.leave (v := some (.ref a2)) (fun h => by rw [Bd.returns] at h; cases h)
  refine ⟨_, _, pre6 _ ?_, hrun, hended, _, _, rfl, ?_, ⟨_, rfl⟩, hW, hsame.mono (by decide) (by decide)⟩
  · exact retOut X5 hx Bd.returns rfl (Or.inr (Or.inr (Or.inr (Or.inr ⟨rfl, rfl, rfl⟩)))) (hb hby d_prog_137_method_8_75) hr
  · show Q22 Z a1 a2 h0 n0 _ T5.heap _
    rw [e5]
    exact ⟨rfl, N0, rfl⟩
theorem d_method_2_25 : decode method_2_code 25 = .ok (.iload_n 1, 1) := by decide +kernel
theorem d_method_2_26 : decode method_2_code 26 = .ok (.iconst 2, 1) := by decide +kernel
theorem d_method_2_27 : decode method_2_code 27 = .ok (.if_icmp .ne 7, 3) := by decide +kernel
theorem d_method_2_30 : decode method_2_code 30 = .ok (.getstatic 17, 3) := by decide +kernel
theorem d_method_2_33 : decode method_2_code 33 = .ok (.areturn, 1) := by decide +kernel
def Q23 (Z : State) (p1 : Int32) (a5 : Addr) (h0 : Heap) (n0 : Nat) (v : Option Value) (h : Heap) (L : List Loc) : Prop := v = some (.ref a5) ∧ Fr n0 L ∧ h = h0
set_option maxRecDepth 65536 in
set_option maxHeartbeats 40000000 in
theorem rm23 (l : Launch) (Z : State) (a0 : Array Value) (hw : ∀ d ∈ tables_1, d.before a0 Z = true) (ws : List Jvm.Cond) (p1 : Int32) (a5 : Addr) (h0 : Heap) (n0 : Nat) (Z0 : n0 ≤ h0.size) (hc2 : ¬ (((p1 &&& (2147483647 : Int32)) % (6 : Int32)) = (0 : Int32))) (hc3 : ¬ (((p1 &&& (2147483647 : Int32)) % (6 : Int32)) = (1 : Int32))) (hc4 : ((p1 &&& (2147483647 : Int32)) % (6 : Int32)) = (2 : Int32)) (S_LESS : Sta Z h0 "com/example/latticut/latticut/lang/Comparison" "LESS" "Lcom/example/latticut/latticut/lang/Comparison;" (.ref a5)) :
    MetFree l (⟨"com/example/latticut/latticut/lang/ComparisonNegatedPinLaw", "pick", "(I)Lcom/example/latticut/latticut/lang/Comparison;"⟩ : MethodName) (head1 (Jvm.Cond.code (⟨"com/example/latticut/latticut/lang/ComparisonNegatedPinLaw", "pick", "(I)Lcom/example/latticut/latticut/lang/Comparison;"⟩ : MethodName) method_2_code 2 (some (.object "com/example/latticut/latticut/lang/Comparison")) :: ws) ({ frames := 0, cells := 0, slots := 0, locals := 0 } : Room)) (fun a U => a = #[(.int p1)] ∧ Z.Warmed39 U.vm ∧ U.heap = h0) (fun _ _ _ _ _ => True) (fun _ U o U' => ∃ v L, o = .returned v ∧ Q23 Z p1 a5 h0 n0 v U'.heap L ∧ FrameEnd U o U' L ({ frames := 0, cells := 0, slots := 0, locals := 0 } : Room).cells ({ frames := 0, cells := 0, slots := 0, locals := 0 } : Room).slots) := by
  refine MetFree.of_bodySF (plainFor_of_name pn_0) hisR ?_
  intro p e s m args below meth c s₁ Bd hml0 hP hK
  obtain ⟨rfl, hZ, hh⟩ := hP
  have hx := Bd.exec
  have hby := Bd.bytes
  have hml : c.maxLocals = 2 := hml0
  have hown : s.vm.findClass "com/example/latticut/latticut/lang/ComparisonNegatedPinLaw" = some m.cls := findClass_of_methodNamed Bd.named
  have hnm := (name_of_methodNamed Bd.named Bd.method).1
  have X0 : Stand p l e ({ frames := 0, cells := 0, slots := 0, locals := 0 } : Room) s m #[(.int p1)] below meth c s₁ [] 0 0 := Stand.of_body Bd
  have e0 : s₁.heap = h0 := by rw [← hh, Bd.state]; rfl
  have N0 := Fr.nil n0
  have pre0 : ∀ t, Steps p.tables e below (s₁.setTop (mkF m 0 #[.val (.int p1), .unset] [])) t → Steps p.tables e below (s₁.setTop (entryFrame m #[(.int p1)] 2)) t := fun t k => castTop (ef_1 m (p1)) k
  obtain ⟨T6, X6, e6, st6⟩ := getS2 X0 hx hZ hown (host := "") (Or.inl (hw _ (List.mem_of_getElem? (i := 43) rfl))) Via.refl e0 S_LESS (g := (mkF m 30 #[.val (.int p1), .val (.int ((p1 &&& (2147483647 : Int32)) % (6 : Int32)))] [])) rfl (hb hby d_method_2_30)
  have pre7 : ∀ t, Steps p.tables e below (T6.setTop (mkF m 33 #[.val (.int p1), .val (.int ((p1 &&& (2147483647 : Int32)) % (6 : Int32)))] [(.ref a5)])) t → Steps p.tables e below (s₁.setTop (entryFrame m #[(.int p1)] 2)) t := fun t kk => pre0 t (by
    show Steps p.tables e below (s₁.setTop (mkF m 0 #[.val (.int p1), .unset] [])) _
    refine XS.iloadN X0.here hx rfl (hb hby d_method_2_0) rfl ?_
    show Steps p.tables e below (s₁.setTop (mkF m 1 #[.val (.int p1), .unset] [(.int p1)])) _
    refine X0.ldcInt hx hown (mvT hZ (hw _ (List.mem_of_getElem? (i := 4) rfl))) (g := (mkF m 1 #[.val (.int p1), .unset] [(.int p1)])) rfl (hb hby d_method_2_1) _ ?_
    show Steps p.tables e below (s₁.setTop (mkF m 3 #[.val (.int p1), .unset] [(.int (2147483647 : Int32)), (.int p1)])) _
    refine XS.iand X0.here hx rfl (hb hby d_method_2_3) rfl ?_
    show Steps p.tables e below (s₁.setTop (mkF m 4 #[.val (.int p1), .unset] [(.int (p1 &&& (2147483647 : Int32)))])) _
    refine XS.bipush X0.here hx rfl (hb hby d_method_2_4) ?_
    show Steps p.tables e below (s₁.setTop (mkF m 6 #[.val (.int p1), .unset] [(.int (6 : Int32)), (.int (p1 &&& (2147483647 : Int32)))])) _
    refine iremM X0 hx rfl (hb hby d_method_2_6) rfl (by decide) ?_
    show Steps p.tables e below (s₁.setTop (mkF m 7 #[.val (.int p1), .unset] [(.int ((p1 &&& (2147483647 : Int32)) % (6 : Int32)))])) _
    refine XS.istoreN X0.here hx rfl (hb hby d_method_2_7) rfl (l' := #[.val (.int p1), .val (.int ((p1 &&& (2147483647 : Int32)) % (6 : Int32)))]) rfl ?_
    show Steps p.tables e below (s₁.setTop (mkF m 8 #[.val (.int p1), .val (.int ((p1 &&& (2147483647 : Int32)) % (6 : Int32)))] [])) _
    refine XS.iloadN X0.here hx rfl (hb hby d_method_2_8) rfl ?_
    show Steps p.tables e below (s₁.setTop (mkF m 9 #[.val (.int p1), .val (.int ((p1 &&& (2147483647 : Int32)) % (6 : Int32)))] [(.int ((p1 &&& (2147483647 : Int32)) % (6 : Int32)))])) _
    refine XS.ifYes X0.here hx rfl (pc0 := 9) (pc' := 16) rfl (hb hby d_method_2_9) rfl ((if0 _ _).trans (feq (hc2 : ¬ (((p1 &&& (2147483647 : Int32)) % (6 : Int32)) = (0 : Int32)))).2) (by decide) (by decide) ?_
    show Steps p.tables e below (s₁.setTop (mkF m 16 #[.val (.int p1), .val (.int ((p1 &&& (2147483647 : Int32)) % (6 : Int32)))] [])) _
    refine XS.iloadN X0.here hx rfl (hb hby d_method_2_16) rfl ?_
    show Steps p.tables e below (s₁.setTop (mkF m 17 #[.val (.int p1), .val (.int ((p1 &&& (2147483647 : Int32)) % (6 : Int32)))] [(.int ((p1 &&& (2147483647 : Int32)) % (6 : Int32)))])) _
    refine XS.iconst X0.here hx rfl (hb hby d_method_2_17) ?_
    show Steps p.tables e below (s₁.setTop (mkF m 18 #[.val (.int p1), .val (.int ((p1 &&& (2147483647 : Int32)) % (6 : Int32)))] [(.int (1 : Int32)), (.int ((p1 &&& (2147483647 : Int32)) % (6 : Int32)))])) _
    refine XS.icmpYes X0.here hx rfl (pc0 := 18) (pc' := 25) rfl (hb hby d_method_2_18) rfl (feq (hc3 : ¬ (((p1 &&& (2147483647 : Int32)) % (6 : Int32)) = (1 : Int32)))).2 (by decide) (by decide) ?_
    show Steps p.tables e below (s₁.setTop (mkF m 25 #[.val (.int p1), .val (.int ((p1 &&& (2147483647 : Int32)) % (6 : Int32)))] [])) _
    refine XS.iloadN X0.here hx rfl (hb hby d_method_2_25) rfl ?_
    show Steps p.tables e below (s₁.setTop (mkF m 26 #[.val (.int p1), .val (.int ((p1 &&& (2147483647 : Int32)) % (6 : Int32)))] [(.int ((p1 &&& (2147483647 : Int32)) % (6 : Int32)))])) _
    refine XS.iconst X0.here hx rfl (hb hby d_method_2_26) ?_
    show Steps p.tables e below (s₁.setTop (mkF m 27 #[.val (.int p1), .val (.int ((p1 &&& (2147483647 : Int32)) % (6 : Int32)))] [(.int (2 : Int32)), (.int ((p1 &&& (2147483647 : Int32)) % (6 : Int32)))])) _
    refine XS.icmpNo X0.here hx rfl (hb hby d_method_2_27) rfl (teq (hc4 : ((p1 &&& (2147483647 : Int32)) % (6 : Int32)) = (2 : Int32))).2 ?_
    show Steps p.tables e below (s₁.setTop (mkF m 30 #[.val (.int p1), .val (.int ((p1 &&& (2147483647 : Int32)) % (6 : Int32)))] [])) _
    refine st6 _ ?_
    exact kk)
  obtain ⟨fs, hr, hrun, hended, hW, hsame⟩ := X6.leave (v := some (.ref a5)) (fun h => by rw [Bd.returns] at h; cases h)
  refine ⟨_, _, pre7 _ ?_, hrun, hended, _, _, rfl, ?_, ⟨_, rfl⟩, hW, hsame.mono (by decide) (by decide)⟩
  · exact retOut X6 hx Bd.returns rfl (Or.inr (Or.inr (Or.inr (Or.inr ⟨rfl, rfl, rfl⟩)))) (hb hby d_method_2_33) hr
  · show Q23 Z p1 a5 h0 n0 _ T6.heap _
    rw [e6]
    exact ⟨rfl, N0, rfl⟩
theorem d_prog_137_method_8_28 : decode prog_137_method_8_code 28 = .ok (.aload_n 0, 1) := by decide +kernel
theorem d_prog_137_method_8_29 : decode prog_137_method_8_code 29 = .ok (.getstatic 10, 3) := by decide +kernel
theorem d_prog_137_method_8_32 : decode prog_137_method_8_code 32 = .ok (.if_acmp .ne 10, 3) := by decide +kernel
theorem d_prog_137_method_8_35 : decode prog_137_method_8_code 35 = .ok (.getstatic 19, 3) := by decide +kernel
theorem d_prog_137_method_8_38 : decode prog_137_method_8_code 38 = .ok (.astore_n 1, 1) := by decide +kernel
theorem d_prog_137_method_8_39 : decode prog_137_method_8_code 39 = .ok (.goto 35, 3) := by decide +kernel
def Q24 (Z : State) (a1 : Addr) (a2 : Addr) (a4 : Addr) (a7 : Addr) (h0 : Heap) (n0 : Nat) (v : Option Value) (h : Heap) (L : List Loc) : Prop := v = some (.ref a7) ∧ Fr n0 L ∧ h = h0
set_option maxRecDepth 65536 in
set_option maxHeartbeats 40000000 in
theorem rm24 (l : Launch) (Z : State) (a0 : Array Value) (hw : ∀ d ∈ tables_1, d.before a0 Z = true) (ws : List Jvm.Cond) (a1 : Addr) (a2 : Addr) (a4 : Addr) (a7 : Addr) (h0 : Heap) (n0 : Nat) (Z0 : n0 ≤ h0.size) (S_EQUAL : Sta Z h0 "com/example/latticut/latticut/lang/Comparison" "EQUAL" "Lcom/example/latticut/latticut/lang/Comparison;" (.ref a2)) (ne_a1_a2 : a1 ≠ a2) (S_NOT_EQUAL : Sta Z h0 "com/example/latticut/latticut/lang/Comparison" "NOT_EQUAL" "Lcom/example/latticut/latticut/lang/Comparison;" (.ref a4)) (ne_a1_a4 : a1 ≠ a4) (S_LESS : Sta Z h0 "com/example/latticut/latticut/lang/Comparison" "LESS" "Lcom/example/latticut/latticut/lang/Comparison;" (.ref a1)) (S_GREATER_OR_EQUAL : Sta Z h0 "com/example/latticut/latticut/lang/Comparison" "GREATER_OR_EQUAL" "Lcom/example/latticut/latticut/lang/Comparison;" (.ref a7)) :
    MetFree l (⟨"com/example/latticut/latticut/lang/Comparison", "negated", "()Lcom/example/latticut/latticut/lang/Comparison;"⟩ : MethodName) (head1 (Jvm.Cond.code (⟨"com/example/latticut/latticut/lang/Comparison", "negated", "()Lcom/example/latticut/latticut/lang/Comparison;"⟩ : MethodName) prog_137_method_8_code 2 (some (.object "com/example/latticut/latticut/lang/Comparison")) :: ws) ({ frames := 0, cells := 0, slots := 0, locals := 0 } : Room)) (fun a U => a = #[(.ref a1)] ∧ Z.Warmed39 U.vm ∧ U.heap = h0) (fun _ _ _ _ _ => True) (fun _ U o U' => ∃ v L, o = .returned v ∧ Q24 Z a1 a2 a4 a7 h0 n0 v U'.heap L ∧ FrameEnd U o U' L ({ frames := 0, cells := 0, slots := 0, locals := 0 } : Room).cells ({ frames := 0, cells := 0, slots := 0, locals := 0 } : Room).slots) := by
  refine MetFree.of_bodySF (plainFor_of_name pn_1) hisR ?_
  intro p e s m args below meth c s₁ Bd hml0 hP hK
  obtain ⟨rfl, hZ, hh⟩ := hP
  have hx := Bd.exec
  have hby := Bd.bytes
  have hml : c.maxLocals = 2 := hml0
  have hown : s.vm.findClass "com/example/latticut/latticut/lang/Comparison" = some m.cls := findClass_of_methodNamed Bd.named
  have hnm := (name_of_methodNamed Bd.named Bd.method).1
  have X0 : Stand p l e ({ frames := 0, cells := 0, slots := 0, locals := 0 } : Room) s m #[(.ref a1)] below meth c s₁ [] 0 0 := Stand.of_body Bd
  have e0 : s₁.heap = h0 := by rw [← hh, Bd.state]; rfl
  have N0 := Fr.nil n0
  have pre0 : ∀ t, Steps p.tables e below (s₁.setTop (mkF m 0 #[.val (.ref a1), .unset] [])) t → Steps p.tables e below (s₁.setTop (entryFrame m #[(.ref a1)] 2)) t := fun t k => castTop (ef_2 m a1) k
  obtain ⟨T3, X3, e3, st3⟩ := getS2 X0 hx hZ hown (host := "") (Or.inl (hw _ (List.mem_of_getElem? (i := 13) rfl))) Via.refl e0 S_EQUAL (g := (mkF m 1 #[.val (.ref a1), .unset] [(.ref a1)])) rfl (hb hby d_prog_137_method_8_1)
  obtain ⟨T5, X5, e5, st5⟩ := getS2 X3 hx hZ hown (host := "") (Or.inl (hw _ (List.mem_of_getElem? (i := 14) rfl))) Via.refl e3 S_NOT_EQUAL (g := (mkF m 15 #[.val (.ref a1), .unset] [(.ref a1)])) rfl (hb hby d_prog_137_method_8_15)
  obtain ⟨T6, X6, e6, st6⟩ := getS2 X5 hx hZ hown (host := "") (Or.inl (hw _ (List.mem_of_getElem? (i := 37) rfl))) Via.refl e5 S_LESS (g := (mkF m 29 #[.val (.ref a1), .unset] [(.ref a1)])) rfl (hb hby d_prog_137_method_8_29)
  obtain ⟨T8, X8, e8, st8⟩ := getS2 X6 hx hZ hown (host := "") (Or.inl (hw _ (List.mem_of_getElem? (i := 44) rfl))) Via.refl e6 S_GREATER_OR_EQUAL (g := (mkF m 35 #[.val (.ref a1), .unset] [])) rfl (hb hby d_prog_137_method_8_35)
  have pre9 : ∀ t, Steps p.tables e below (T8.setTop (mkF m 75 #[.val (.ref a1), .val (.ref a7)] [(.ref a7)])) t → Steps p.tables e below (s₁.setTop (entryFrame m #[(.ref a1)] 2)) t := fun t kk => pre0 t (by
    show Steps p.tables e below (s₁.setTop (mkF m 0 #[.val (.ref a1), .unset] [])) _
    refine XS.aloadN X0.here hx rfl (hb hby d_prog_137_method_8_0) rfl rfl ?_
    show Steps p.tables e below (s₁.setTop (mkF m 1 #[.val (.ref a1), .unset] [(.ref a1)])) _
    refine st3 _ ?_
    show Steps p.tables e below (T3.setTop (mkF m 4 #[.val (.ref a1), .unset] [(.ref a2), (.ref a1)])) _
    refine Jvm.RoadKit.acmp (g := (mkF m 4 #[.val (.ref a1), .unset] [(.ref a2), (.ref a1)])) X3 hx rfl rfl rfl (pc0 := 4) (pc' := 14) (same := false) rfl (hb hby d_prog_137_method_8_4) rfl (decide_eq_false fun q => ne_a1_a2 (Value.ref.inj q)) (by decide) (by decide) ?_
    show Steps p.tables e below (T3.setTop (mkF m 14 #[.val (.ref a1), .unset] [])) _
    refine XS.aloadN X3.here hx rfl (hb hby d_prog_137_method_8_14) rfl rfl ?_
    show Steps p.tables e below (T3.setTop (mkF m 15 #[.val (.ref a1), .unset] [(.ref a1)])) _
    refine st5 _ ?_
    show Steps p.tables e below (T5.setTop (mkF m 18 #[.val (.ref a1), .unset] [(.ref a4), (.ref a1)])) _
    refine Jvm.RoadKit.acmp (g := (mkF m 18 #[.val (.ref a1), .unset] [(.ref a4), (.ref a1)])) X5 hx rfl rfl rfl (pc0 := 18) (pc' := 28) (same := false) rfl (hb hby d_prog_137_method_8_18) rfl (decide_eq_false fun q => ne_a1_a4 (Value.ref.inj q)) (by decide) (by decide) ?_
    show Steps p.tables e below (T5.setTop (mkF m 28 #[.val (.ref a1), .unset] [])) _
    refine XS.aloadN X5.here hx rfl (hb hby d_prog_137_method_8_28) rfl rfl ?_
    show Steps p.tables e below (T5.setTop (mkF m 29 #[.val (.ref a1), .unset] [(.ref a1)])) _
    refine st6 _ ?_
    show Steps p.tables e below (T6.setTop (mkF m 32 #[.val (.ref a1), .unset] [(.ref a1), (.ref a1)])) _
    refine Jvm.RoadKit.acmp (g := (mkF m 32 #[.val (.ref a1), .unset] [(.ref a1), (.ref a1)])) X6 hx rfl rfl rfl (pc0 := 32) (pc' := 35) (same := true) rfl (hb hby d_prog_137_method_8_32) rfl (decide_eq_true rfl) (by decide) (by decide) ?_
    show Steps p.tables e below (T6.setTop (mkF m 35 #[.val (.ref a1), .unset] [])) _
    refine st8 _ ?_
    show Steps p.tables e below (T8.setTop (mkF m 38 #[.val (.ref a1), .unset] [(.ref a7)])) _
    refine XS.astoreN X8.here hx rfl (hb hby d_prog_137_method_8_38) rfl rfl (l' := #[.val (.ref a1), .val (.ref a7)]) rfl ?_
    show Steps p.tables e below (T8.setTop (mkF m 39 #[.val (.ref a1), .val (.ref a7)] [])) _
    refine XS.goto X8.here hx rfl (pc0 := 39) (pc' := 74) rfl (hb hby d_prog_137_method_8_39) (by decide) (by decide) ?_
    show Steps p.tables e below (T8.setTop (mkF m 74 #[.val (.ref a1), .val (.ref a7)] [])) _
    refine XS.aloadN X8.here hx rfl (hb hby d_prog_137_method_8_74) rfl rfl ?_
    exact kk)
  obtain ⟨fs, hr, hrun, hended, hW, hsame⟩ := X8.leave (v := some (.ref a7)) (fun h => by rw [Bd.returns] at h; cases h)
  refine ⟨_, _, pre9 _ ?_, hrun, hended, _, _, rfl, ?_, ⟨_, rfl⟩, hW, hsame.mono (by decide) (by decide)⟩
  · exact retOut X8 hx Bd.returns rfl (Or.inr (Or.inr (Or.inr (Or.inr ⟨rfl, rfl, rfl⟩)))) (hb hby d_prog_137_method_8_75) hr
  · show Q24 Z a1 a2 a4 a7 h0 n0 _ T8.heap _
    rw [e8]
    exact ⟨rfl, N0, rfl⟩
theorem d_method_2_34 : decode method_2_code 34 = .ok (.iload_n 1, 1) := by decide +kernel
theorem d_method_2_35 : decode method_2_code 35 = .ok (.iconst 3, 1) := by decide +kernel
theorem d_method_2_36 : decode method_2_code 36 = .ok (.if_icmp .ne 7, 3) := by decide +kernel
theorem d_method_2_39 : decode method_2_code 39 = .ok (.getstatic 20, 3) := by decide +kernel
theorem d_method_2_42 : decode method_2_code 42 = .ok (.areturn, 1) := by decide +kernel
def Q25 (Z : State) (p1 : Int32) (a6 : Addr) (h0 : Heap) (n0 : Nat) (v : Option Value) (h : Heap) (L : List Loc) : Prop := v = some (.ref a6) ∧ Fr n0 L ∧ h = h0
set_option maxRecDepth 65536 in
set_option maxHeartbeats 40000000 in
theorem rm25 (l : Launch) (Z : State) (a0 : Array Value) (hw : ∀ d ∈ tables_1, d.before a0 Z = true) (ws : List Jvm.Cond) (p1 : Int32) (a6 : Addr) (h0 : Heap) (n0 : Nat) (Z0 : n0 ≤ h0.size) (hc2 : ¬ (((p1 &&& (2147483647 : Int32)) % (6 : Int32)) = (0 : Int32))) (hc3 : ¬ (((p1 &&& (2147483647 : Int32)) % (6 : Int32)) = (1 : Int32))) (hc4 : ¬ (((p1 &&& (2147483647 : Int32)) % (6 : Int32)) = (2 : Int32))) (hc5 : ((p1 &&& (2147483647 : Int32)) % (6 : Int32)) = (3 : Int32)) (S_LESS_OR_EQUAL : Sta Z h0 "com/example/latticut/latticut/lang/Comparison" "LESS_OR_EQUAL" "Lcom/example/latticut/latticut/lang/Comparison;" (.ref a6)) :
    MetFree l (⟨"com/example/latticut/latticut/lang/ComparisonNegatedPinLaw", "pick", "(I)Lcom/example/latticut/latticut/lang/Comparison;"⟩ : MethodName) (head1 (Jvm.Cond.code (⟨"com/example/latticut/latticut/lang/ComparisonNegatedPinLaw", "pick", "(I)Lcom/example/latticut/latticut/lang/Comparison;"⟩ : MethodName) method_2_code 2 (some (.object "com/example/latticut/latticut/lang/Comparison")) :: ws) ({ frames := 0, cells := 0, slots := 0, locals := 0 } : Room)) (fun a U => a = #[(.int p1)] ∧ Z.Warmed39 U.vm ∧ U.heap = h0) (fun _ _ _ _ _ => True) (fun _ U o U' => ∃ v L, o = .returned v ∧ Q25 Z p1 a6 h0 n0 v U'.heap L ∧ FrameEnd U o U' L ({ frames := 0, cells := 0, slots := 0, locals := 0 } : Room).cells ({ frames := 0, cells := 0, slots := 0, locals := 0 } : Room).slots) := by
  refine MetFree.of_bodySF (plainFor_of_name pn_0) hisR ?_
  intro p e s m args below meth c s₁ Bd hml0 hP hK
  obtain ⟨rfl, hZ, hh⟩ := hP
  have hx := Bd.exec
  have hby := Bd.bytes
  have hml : c.maxLocals = 2 := hml0
  have hown : s.vm.findClass "com/example/latticut/latticut/lang/ComparisonNegatedPinLaw" = some m.cls := findClass_of_methodNamed Bd.named
  have hnm := (name_of_methodNamed Bd.named Bd.method).1
  have X0 : Stand p l e ({ frames := 0, cells := 0, slots := 0, locals := 0 } : Room) s m #[(.int p1)] below meth c s₁ [] 0 0 := Stand.of_body Bd
  have e0 : s₁.heap = h0 := by rw [← hh, Bd.state]; rfl
  have N0 := Fr.nil n0
  have pre0 : ∀ t, Steps p.tables e below (s₁.setTop (mkF m 0 #[.val (.int p1), .unset] [])) t → Steps p.tables e below (s₁.setTop (entryFrame m #[(.int p1)] 2)) t := fun t k => castTop (ef_1 m (p1)) k
  obtain ⟨T7, X7, e7, st7⟩ := getS2 X0 hx hZ hown (host := "") (Or.inl (hw _ (List.mem_of_getElem? (i := 42) rfl))) Via.refl e0 S_LESS_OR_EQUAL (g := (mkF m 39 #[.val (.int p1), .val (.int ((p1 &&& (2147483647 : Int32)) % (6 : Int32)))] [])) rfl (hb hby d_method_2_39)
  have pre8 : ∀ t, Steps p.tables e below (T7.setTop (mkF m 42 #[.val (.int p1), .val (.int ((p1 &&& (2147483647 : Int32)) % (6 : Int32)))] [(.ref a6)])) t → Steps p.tables e below (s₁.setTop (entryFrame m #[(.int p1)] 2)) t := fun t kk => pre0 t (by
    show Steps p.tables e below (s₁.setTop (mkF m 0 #[.val (.int p1), .unset] [])) _
    refine XS.iloadN X0.here hx rfl (hb hby d_method_2_0) rfl ?_
    show Steps p.tables e below (s₁.setTop (mkF m 1 #[.val (.int p1), .unset] [(.int p1)])) _
    refine X0.ldcInt hx hown (mvT hZ (hw _ (List.mem_of_getElem? (i := 4) rfl))) (g := (mkF m 1 #[.val (.int p1), .unset] [(.int p1)])) rfl (hb hby d_method_2_1) _ ?_
    show Steps p.tables e below (s₁.setTop (mkF m 3 #[.val (.int p1), .unset] [(.int (2147483647 : Int32)), (.int p1)])) _
    refine XS.iand X0.here hx rfl (hb hby d_method_2_3) rfl ?_
    show Steps p.tables e below (s₁.setTop (mkF m 4 #[.val (.int p1), .unset] [(.int (p1 &&& (2147483647 : Int32)))])) _
    refine XS.bipush X0.here hx rfl (hb hby d_method_2_4) ?_
    show Steps p.tables e below (s₁.setTop (mkF m 6 #[.val (.int p1), .unset] [(.int (6 : Int32)), (.int (p1 &&& (2147483647 : Int32)))])) _
    refine iremM X0 hx rfl (hb hby d_method_2_6) rfl (by decide) ?_
    show Steps p.tables e below (s₁.setTop (mkF m 7 #[.val (.int p1), .unset] [(.int ((p1 &&& (2147483647 : Int32)) % (6 : Int32)))])) _
    refine XS.istoreN X0.here hx rfl (hb hby d_method_2_7) rfl (l' := #[.val (.int p1), .val (.int ((p1 &&& (2147483647 : Int32)) % (6 : Int32)))]) rfl ?_
    show Steps p.tables e below (s₁.setTop (mkF m 8 #[.val (.int p1), .val (.int ((p1 &&& (2147483647 : Int32)) % (6 : Int32)))] [])) _
    refine XS.iloadN X0.here hx rfl (hb hby d_method_2_8) rfl ?_
    show Steps p.tables e below (s₁.setTop (mkF m 9 #[.val (.int p1), .val (.int ((p1 &&& (2147483647 : Int32)) % (6 : Int32)))] [(.int ((p1 &&& (2147483647 : Int32)) % (6 : Int32)))])) _
    refine XS.ifYes X0.here hx rfl (pc0 := 9) (pc' := 16) rfl (hb hby d_method_2_9) rfl ((if0 _ _).trans (feq (hc2 : ¬ (((p1 &&& (2147483647 : Int32)) % (6 : Int32)) = (0 : Int32)))).2) (by decide) (by decide) ?_
    show Steps p.tables e below (s₁.setTop (mkF m 16 #[.val (.int p1), .val (.int ((p1 &&& (2147483647 : Int32)) % (6 : Int32)))] [])) _
    refine XS.iloadN X0.here hx rfl (hb hby d_method_2_16) rfl ?_
    show Steps p.tables e below (s₁.setTop (mkF m 17 #[.val (.int p1), .val (.int ((p1 &&& (2147483647 : Int32)) % (6 : Int32)))] [(.int ((p1 &&& (2147483647 : Int32)) % (6 : Int32)))])) _
    refine XS.iconst X0.here hx rfl (hb hby d_method_2_17) ?_
    show Steps p.tables e below (s₁.setTop (mkF m 18 #[.val (.int p1), .val (.int ((p1 &&& (2147483647 : Int32)) % (6 : Int32)))] [(.int (1 : Int32)), (.int ((p1 &&& (2147483647 : Int32)) % (6 : Int32)))])) _
    refine XS.icmpYes X0.here hx rfl (pc0 := 18) (pc' := 25) rfl (hb hby d_method_2_18) rfl (feq (hc3 : ¬ (((p1 &&& (2147483647 : Int32)) % (6 : Int32)) = (1 : Int32)))).2 (by decide) (by decide) ?_
    show Steps p.tables e below (s₁.setTop (mkF m 25 #[.val (.int p1), .val (.int ((p1 &&& (2147483647 : Int32)) % (6 : Int32)))] [])) _
    refine XS.iloadN X0.here hx rfl (hb hby d_method_2_25) rfl ?_
    show Steps p.tables e below (s₁.setTop (mkF m 26 #[.val (.int p1), .val (.int ((p1 &&& (2147483647 : Int32)) % (6 : Int32)))] [(.int ((p1 &&& (2147483647 : Int32)) % (6 : Int32)))])) _
    refine XS.iconst X0.here hx rfl (hb hby d_method_2_26) ?_
    show Steps p.tables e below (s₁.setTop (mkF m 27 #[.val (.int p1), .val (.int ((p1 &&& (2147483647 : Int32)) % (6 : Int32)))] [(.int (2 : Int32)), (.int ((p1 &&& (2147483647 : Int32)) % (6 : Int32)))])) _
    refine XS.icmpYes X0.here hx rfl (pc0 := 27) (pc' := 34) rfl (hb hby d_method_2_27) rfl (feq (hc4 : ¬ (((p1 &&& (2147483647 : Int32)) % (6 : Int32)) = (2 : Int32)))).2 (by decide) (by decide) ?_
    show Steps p.tables e below (s₁.setTop (mkF m 34 #[.val (.int p1), .val (.int ((p1 &&& (2147483647 : Int32)) % (6 : Int32)))] [])) _
    refine XS.iloadN X0.here hx rfl (hb hby d_method_2_34) rfl ?_
    show Steps p.tables e below (s₁.setTop (mkF m 35 #[.val (.int p1), .val (.int ((p1 &&& (2147483647 : Int32)) % (6 : Int32)))] [(.int ((p1 &&& (2147483647 : Int32)) % (6 : Int32)))])) _
    refine XS.iconst X0.here hx rfl (hb hby d_method_2_35) ?_
    show Steps p.tables e below (s₁.setTop (mkF m 36 #[.val (.int p1), .val (.int ((p1 &&& (2147483647 : Int32)) % (6 : Int32)))] [(.int (3 : Int32)), (.int ((p1 &&& (2147483647 : Int32)) % (6 : Int32)))])) _
    refine XS.icmpNo X0.here hx rfl (hb hby d_method_2_36) rfl (teq (hc5 : ((p1 &&& (2147483647 : Int32)) % (6 : Int32)) = (3 : Int32))).2 ?_
    show Steps p.tables e below (s₁.setTop (mkF m 39 #[.val (.int p1), .val (.int ((p1 &&& (2147483647 : Int32)) % (6 : Int32)))] [])) _
    refine st7 _ ?_
    exact kk)
  obtain ⟨fs, hr, hrun, hended, hW, hsame⟩ := X7.leave (v := some (.ref a6)) (fun h => by rw [Bd.returns] at h; cases h)
  refine ⟨_, _, pre8 _ ?_, hrun, hended, _, _, rfl, ?_, ⟨_, rfl⟩, hW, hsame.mono (by decide) (by decide)⟩
  · exact retOut X7 hx Bd.returns rfl (Or.inr (Or.inr (Or.inr (Or.inr ⟨rfl, rfl, rfl⟩)))) (hb hby d_method_2_42) hr
  · show Q25 Z p1 a6 h0 n0 _ T7.heap _
    rw [e7]
    exact ⟨rfl, N0, rfl⟩
theorem d_prog_137_method_8_42 : decode prog_137_method_8_code 42 = .ok (.aload_n 0, 1) := by decide +kernel
theorem d_prog_137_method_8_43 : decode prog_137_method_8_code 43 = .ok (.getstatic 13, 3) := by decide +kernel
theorem d_prog_137_method_8_46 : decode prog_137_method_8_code 46 = .ok (.if_acmp .ne 10, 3) := by decide +kernel
theorem d_prog_137_method_8_49 : decode prog_137_method_8_code 49 = .ok (.getstatic 16, 3) := by decide +kernel
theorem d_prog_137_method_8_52 : decode prog_137_method_8_code 52 = .ok (.astore_n 1, 1) := by decide +kernel
theorem d_prog_137_method_8_53 : decode prog_137_method_8_code 53 = .ok (.goto 21, 3) := by decide +kernel
def Q26 (Z : State) (a1 : Addr) (a2 : Addr) (a4 : Addr) (a6 : Addr) (a9 : Addr) (h0 : Heap) (n0 : Nat) (v : Option Value) (h : Heap) (L : List Loc) : Prop := v = some (.ref a9) ∧ Fr n0 L ∧ h = h0
set_option maxRecDepth 65536 in
set_option maxHeartbeats 40000000 in
theorem rm26 (l : Launch) (Z : State) (a0 : Array Value) (hw : ∀ d ∈ tables_1, d.before a0 Z = true) (ws : List Jvm.Cond) (a1 : Addr) (a2 : Addr) (a4 : Addr) (a6 : Addr) (a9 : Addr) (h0 : Heap) (n0 : Nat) (Z0 : n0 ≤ h0.size) (S_EQUAL : Sta Z h0 "com/example/latticut/latticut/lang/Comparison" "EQUAL" "Lcom/example/latticut/latticut/lang/Comparison;" (.ref a2)) (ne_a1_a2 : a1 ≠ a2) (S_NOT_EQUAL : Sta Z h0 "com/example/latticut/latticut/lang/Comparison" "NOT_EQUAL" "Lcom/example/latticut/latticut/lang/Comparison;" (.ref a4)) (ne_a1_a4 : a1 ≠ a4) (S_LESS : Sta Z h0 "com/example/latticut/latticut/lang/Comparison" "LESS" "Lcom/example/latticut/latticut/lang/Comparison;" (.ref a6)) (ne_a1_a6 : a1 ≠ a6) (S_LESS_OR_EQUAL : Sta Z h0 "com/example/latticut/latticut/lang/Comparison" "LESS_OR_EQUAL" "Lcom/example/latticut/latticut/lang/Comparison;" (.ref a1)) (S_GREATER : Sta Z h0 "com/example/latticut/latticut/lang/Comparison" "GREATER" "Lcom/example/latticut/latticut/lang/Comparison;" (.ref a9)) :
    MetFree l (⟨"com/example/latticut/latticut/lang/Comparison", "negated", "()Lcom/example/latticut/latticut/lang/Comparison;"⟩ : MethodName) (head1 (Jvm.Cond.code (⟨"com/example/latticut/latticut/lang/Comparison", "negated", "()Lcom/example/latticut/latticut/lang/Comparison;"⟩ : MethodName) prog_137_method_8_code 2 (some (.object "com/example/latticut/latticut/lang/Comparison")) :: ws) ({ frames := 0, cells := 0, slots := 0, locals := 0 } : Room)) (fun a U => a = #[(.ref a1)] ∧ Z.Warmed39 U.vm ∧ U.heap = h0) (fun _ _ _ _ _ => True) (fun _ U o U' => ∃ v L, o = .returned v ∧ Q26 Z a1 a2 a4 a6 a9 h0 n0 v U'.heap L ∧ FrameEnd U o U' L ({ frames := 0, cells := 0, slots := 0, locals := 0 } : Room).cells ({ frames := 0, cells := 0, slots := 0, locals := 0 } : Room).slots) := by
  refine MetFree.of_bodySF (plainFor_of_name pn_1) hisR ?_
  intro p e s m args below meth c s₁ Bd hml0 hP hK
  obtain ⟨rfl, hZ, hh⟩ := hP
  have hx := Bd.exec
  have hby := Bd.bytes
  have hml : c.maxLocals = 2 := hml0
  have hown : s.vm.findClass "com/example/latticut/latticut/lang/Comparison" = some m.cls := findClass_of_methodNamed Bd.named
  have hnm := (name_of_methodNamed Bd.named Bd.method).1
  have X0 : Stand p l e ({ frames := 0, cells := 0, slots := 0, locals := 0 } : Room) s m #[(.ref a1)] below meth c s₁ [] 0 0 := Stand.of_body Bd
  have e0 : s₁.heap = h0 := by rw [← hh, Bd.state]; rfl
  have N0 := Fr.nil n0
  have pre0 : ∀ t, Steps p.tables e below (s₁.setTop (mkF m 0 #[.val (.ref a1), .unset] [])) t → Steps p.tables e below (s₁.setTop (entryFrame m #[(.ref a1)] 2)) t := fun t k => castTop (ef_2 m a1) k
  obtain ⟨T3, X3, e3, st3⟩ := getS2 X0 hx hZ hown (host := "") (Or.inl (hw _ (List.mem_of_getElem? (i := 13) rfl))) Via.refl e0 S_EQUAL (g := (mkF m 1 #[.val (.ref a1), .unset] [(.ref a1)])) rfl (hb hby d_prog_137_method_8_1)
  obtain ⟨T5, X5, e5, st5⟩ := getS2 X3 hx hZ hown (host := "") (Or.inl (hw _ (List.mem_of_getElem? (i := 14) rfl))) Via.refl e3 S_NOT_EQUAL (g := (mkF m 15 #[.val (.ref a1), .unset] [(.ref a1)])) rfl (hb hby d_prog_137_method_8_15)
  obtain ⟨T7, X7, e7, st7⟩ := getS2 X5 hx hZ hown (host := "") (Or.inl (hw _ (List.mem_of_getElem? (i := 37) rfl))) Via.refl e5 S_LESS (g := (mkF m 29 #[.val (.ref a1), .unset] [(.ref a1)])) rfl (hb hby d_prog_137_method_8_29)
  obtain ⟨T8, X8, e8, st8⟩ := getS2 X7 hx hZ hown (host := "") (Or.inl (hw _ (List.mem_of_getElem? (i := 39) rfl))) Via.refl e7 S_LESS_OR_EQUAL (g := (mkF m 43 #[.val (.ref a1), .unset] [(.ref a1)])) rfl (hb hby d_prog_137_method_8_43)
  obtain ⟨T10, X10, e10, st10⟩ := getS2 X8 hx hZ hown (host := "") (Or.inl (hw _ (List.mem_of_getElem? (i := 41) rfl))) Via.refl e8 S_GREATER (g := (mkF m 49 #[.val (.ref a1), .unset] [])) rfl (hb hby d_prog_137_method_8_49)
  have pre11 : ∀ t, Steps p.tables e below (T10.setTop (mkF m 75 #[.val (.ref a1), .val (.ref a9)] [(.ref a9)])) t → Steps p.tables e below (s₁.setTop (entryFrame m #[(.ref a1)] 2)) t := fun t kk => pre0 t (by
    show Steps p.tables e below (s₁.setTop (mkF m 0 #[.val (.ref a1), .unset] [])) _
    refine XS.aloadN X0.here hx rfl (hb hby d_prog_137_method_8_0) rfl rfl ?_
    show Steps p.tables e below (s₁.setTop (mkF m 1 #[.val (.ref a1), .unset] [(.ref a1)])) _
    refine st3 _ ?_
    show Steps p.tables e below (T3.setTop (mkF m 4 #[.val (.ref a1), .unset] [(.ref a2), (.ref a1)])) _
    refine Jvm.RoadKit.acmp (g := (mkF m 4 #[.val (.ref a1), .unset] [(.ref a2), (.ref a1)])) X3 hx rfl rfl rfl (pc0 := 4) (pc' := 14) (same := false) rfl (hb hby d_prog_137_method_8_4) rfl (decide_eq_false fun q => ne_a1_a2 (Value.ref.inj q)) (by decide) (by decide) ?_
    show Steps p.tables e below (T3.setTop (mkF m 14 #[.val (.ref a1), .unset] [])) _
    refine XS.aloadN X3.here hx rfl (hb hby d_prog_137_method_8_14) rfl rfl ?_
    show Steps p.tables e below (T3.setTop (mkF m 15 #[.val (.ref a1), .unset] [(.ref a1)])) _
    refine st5 _ ?_
    show Steps p.tables e below (T5.setTop (mkF m 18 #[.val (.ref a1), .unset] [(.ref a4), (.ref a1)])) _
    refine Jvm.RoadKit.acmp (g := (mkF m 18 #[.val (.ref a1), .unset] [(.ref a4), (.ref a1)])) X5 hx rfl rfl rfl (pc0 := 18) (pc' := 28) (same := false) rfl (hb hby d_prog_137_method_8_18) rfl (decide_eq_false fun q => ne_a1_a4 (Value.ref.inj q)) (by decide) (by decide) ?_
    show Steps p.tables e below (T5.setTop (mkF m 28 #[.val (.ref a1), .unset] [])) _
    refine XS.aloadN X5.here hx rfl (hb hby d_prog_137_method_8_28) rfl rfl ?_
    show Steps p.tables e below (T5.setTop (mkF m 29 #[.val (.ref a1), .unset] [(.ref a1)])) _
    refine st7 _ ?_
    show Steps p.tables e below (T7.setTop (mkF m 32 #[.val (.ref a1), .unset] [(.ref a6), (.ref a1)])) _
    refine Jvm.RoadKit.acmp (g := (mkF m 32 #[.val (.ref a1), .unset] [(.ref a6), (.ref a1)])) X7 hx rfl rfl rfl (pc0 := 32) (pc' := 42) (same := false) rfl (hb hby d_prog_137_method_8_32) rfl (decide_eq_false fun q => ne_a1_a6 (Value.ref.inj q)) (by decide) (by decide) ?_
    show Steps p.tables e below (T7.setTop (mkF m 42 #[.val (.ref a1), .unset] [])) _
    refine XS.aloadN X7.here hx rfl (hb hby d_prog_137_method_8_42) rfl rfl ?_
    show Steps p.tables e below (T7.setTop (mkF m 43 #[.val (.ref a1), .unset] [(.ref a1)])) _
    refine st8 _ ?_
    show Steps p.tables e below (T8.setTop (mkF m 46 #[.val (.ref a1), .unset] [(.ref a1), (.ref a1)])) _
    refine Jvm.RoadKit.acmp (g := (mkF m 46 #[.val (.ref a1), .unset] [(.ref a1), (.ref a1)])) X8 hx rfl rfl rfl (pc0 := 46) (pc' := 49) (same := true) rfl (hb hby d_prog_137_method_8_46) rfl (decide_eq_true rfl) (by decide) (by decide) ?_
    show Steps p.tables e below (T8.setTop (mkF m 49 #[.val (.ref a1), .unset] [])) _
    refine st10 _ ?_
    show Steps p.tables e below (T10.setTop (mkF m 52 #[.val (.ref a1), .unset] [(.ref a9)])) _
    refine XS.astoreN X10.here hx rfl (hb hby d_prog_137_method_8_52) rfl rfl (l' := #[.val (.ref a1), .val (.ref a9)]) rfl ?_
    show Steps p.tables e below (T10.setTop (mkF m 53 #[.val (.ref a1), .val (.ref a9)] [])) _
    refine XS.goto X10.here hx rfl (pc0 := 53) (pc' := 74) rfl (hb hby d_prog_137_method_8_53) (by decide) (by decide) ?_
    show Steps p.tables e below (T10.setTop (mkF m 74 #[.val (.ref a1), .val (.ref a9)] [])) _
    refine XS.aloadN X10.here hx rfl (hb hby d_prog_137_method_8_74) rfl rfl ?_
    exact kk)
  obtain ⟨fs, hr, hrun, hended, hW, hsame⟩ := X10.leave (v := some (.ref a9)) (fun h => by rw [Bd.returns] at h; cases h)
  refine ⟨_, _, pre11 _ ?_, hrun, hended, _, _, rfl, ?_, ⟨_, rfl⟩, hW, hsame.mono (by decide) (by decide)⟩
  · exact retOut X10 hx Bd.returns rfl (Or.inr (Or.inr (Or.inr (Or.inr ⟨rfl, rfl, rfl⟩)))) (hb hby d_prog_137_method_8_75) hr
  · show Q26 Z a1 a2 a4 a6 a9 h0 n0 _ T10.heap _
    rw [e10]
    exact ⟨rfl, N0, rfl⟩
theorem d_method_2_43 : decode method_2_code 43 = .ok (.iload_n 1, 1) := by decide +kernel
theorem d_method_2_44 : decode method_2_code 44 = .ok (.iconst 4, 1) := by decide +kernel
theorem d_method_2_45 : decode method_2_code 45 = .ok (.if_icmp .ne 7, 3) := by decide +kernel
theorem d_method_2_48 : decode method_2_code 48 = .ok (.getstatic 23, 3) := by decide +kernel
theorem d_method_2_51 : decode method_2_code 51 = .ok (.areturn, 1) := by decide +kernel
def Q27 (Z : State) (p1 : Int32) (a7 : Addr) (h0 : Heap) (n0 : Nat) (v : Option Value) (h : Heap) (L : List Loc) : Prop := v = some (.ref a7) ∧ Fr n0 L ∧ h = h0
set_option maxRecDepth 65536 in
set_option maxHeartbeats 40000000 in
theorem rm27 (l : Launch) (Z : State) (a0 : Array Value) (hw : ∀ d ∈ tables_1, d.before a0 Z = true) (ws : List Jvm.Cond) (p1 : Int32) (a7 : Addr) (h0 : Heap) (n0 : Nat) (Z0 : n0 ≤ h0.size) (hc2 : ¬ (((p1 &&& (2147483647 : Int32)) % (6 : Int32)) = (0 : Int32))) (hc3 : ¬ (((p1 &&& (2147483647 : Int32)) % (6 : Int32)) = (1 : Int32))) (hc4 : ¬ (((p1 &&& (2147483647 : Int32)) % (6 : Int32)) = (2 : Int32))) (hc5 : ¬ (((p1 &&& (2147483647 : Int32)) % (6 : Int32)) = (3 : Int32))) (hc6 : ((p1 &&& (2147483647 : Int32)) % (6 : Int32)) = (4 : Int32)) (S_GREATER : Sta Z h0 "com/example/latticut/latticut/lang/Comparison" "GREATER" "Lcom/example/latticut/latticut/lang/Comparison;" (.ref a7)) :
    MetFree l (⟨"com/example/latticut/latticut/lang/ComparisonNegatedPinLaw", "pick", "(I)Lcom/example/latticut/latticut/lang/Comparison;"⟩ : MethodName) (head1 (Jvm.Cond.code (⟨"com/example/latticut/latticut/lang/ComparisonNegatedPinLaw", "pick", "(I)Lcom/example/latticut/latticut/lang/Comparison;"⟩ : MethodName) method_2_code 2 (some (.object "com/example/latticut/latticut/lang/Comparison")) :: ws) ({ frames := 0, cells := 0, slots := 0, locals := 0 } : Room)) (fun a U => a = #[(.int p1)] ∧ Z.Warmed39 U.vm ∧ U.heap = h0) (fun _ _ _ _ _ => True) (fun _ U o U' => ∃ v L, o = .returned v ∧ Q27 Z p1 a7 h0 n0 v U'.heap L ∧ FrameEnd U o U' L ({ frames := 0, cells := 0, slots := 0, locals := 0 } : Room).cells ({ frames := 0, cells := 0, slots := 0, locals := 0 } : Room).slots) := by
  refine MetFree.of_bodySF (plainFor_of_name pn_0) hisR ?_
  intro p e s m args below meth c s₁ Bd hml0 hP hK
  obtain ⟨rfl, hZ, hh⟩ := hP
  have hx := Bd.exec
  have hby := Bd.bytes
  have hml : c.maxLocals = 2 := hml0
  have hown : s.vm.findClass "com/example/latticut/latticut/lang/ComparisonNegatedPinLaw" = some m.cls := findClass_of_methodNamed Bd.named
  have hnm := (name_of_methodNamed Bd.named Bd.method).1
  have X0 : Stand p l e ({ frames := 0, cells := 0, slots := 0, locals := 0 } : Room) s m #[(.int p1)] below meth c s₁ [] 0 0 := Stand.of_body Bd
  have e0 : s₁.heap = h0 := by rw [← hh, Bd.state]; rfl
  have N0 := Fr.nil n0
  have pre0 : ∀ t, Steps p.tables e below (s₁.setTop (mkF m 0 #[.val (.int p1), .unset] [])) t → Steps p.tables e below (s₁.setTop (entryFrame m #[(.int p1)] 2)) t := fun t k => castTop (ef_1 m (p1)) k
  obtain ⟨T8, X8, e8, st8⟩ := getS2 X0 hx hZ hown (host := "") (Or.inl (hw _ (List.mem_of_getElem? (i := 35) rfl))) Via.refl e0 S_GREATER (g := (mkF m 48 #[.val (.int p1), .val (.int ((p1 &&& (2147483647 : Int32)) % (6 : Int32)))] [])) rfl (hb hby d_method_2_48)
  have pre9 : ∀ t, Steps p.tables e below (T8.setTop (mkF m 51 #[.val (.int p1), .val (.int ((p1 &&& (2147483647 : Int32)) % (6 : Int32)))] [(.ref a7)])) t → Steps p.tables e below (s₁.setTop (entryFrame m #[(.int p1)] 2)) t := fun t kk => pre0 t (by
    show Steps p.tables e below (s₁.setTop (mkF m 0 #[.val (.int p1), .unset] [])) _
    refine XS.iloadN X0.here hx rfl (hb hby d_method_2_0) rfl ?_
    show Steps p.tables e below (s₁.setTop (mkF m 1 #[.val (.int p1), .unset] [(.int p1)])) _
    refine X0.ldcInt hx hown (mvT hZ (hw _ (List.mem_of_getElem? (i := 4) rfl))) (g := (mkF m 1 #[.val (.int p1), .unset] [(.int p1)])) rfl (hb hby d_method_2_1) _ ?_
    show Steps p.tables e below (s₁.setTop (mkF m 3 #[.val (.int p1), .unset] [(.int (2147483647 : Int32)), (.int p1)])) _
    refine XS.iand X0.here hx rfl (hb hby d_method_2_3) rfl ?_
    show Steps p.tables e below (s₁.setTop (mkF m 4 #[.val (.int p1), .unset] [(.int (p1 &&& (2147483647 : Int32)))])) _
    refine XS.bipush X0.here hx rfl (hb hby d_method_2_4) ?_
    show Steps p.tables e below (s₁.setTop (mkF m 6 #[.val (.int p1), .unset] [(.int (6 : Int32)), (.int (p1 &&& (2147483647 : Int32)))])) _
    refine iremM X0 hx rfl (hb hby d_method_2_6) rfl (by decide) ?_
    show Steps p.tables e below (s₁.setTop (mkF m 7 #[.val (.int p1), .unset] [(.int ((p1 &&& (2147483647 : Int32)) % (6 : Int32)))])) _
    refine XS.istoreN X0.here hx rfl (hb hby d_method_2_7) rfl (l' := #[.val (.int p1), .val (.int ((p1 &&& (2147483647 : Int32)) % (6 : Int32)))]) rfl ?_
    show Steps p.tables e below (s₁.setTop (mkF m 8 #[.val (.int p1), .val (.int ((p1 &&& (2147483647 : Int32)) % (6 : Int32)))] [])) _
    refine XS.iloadN X0.here hx rfl (hb hby d_method_2_8) rfl ?_
    show Steps p.tables e below (s₁.setTop (mkF m 9 #[.val (.int p1), .val (.int ((p1 &&& (2147483647 : Int32)) % (6 : Int32)))] [(.int ((p1 &&& (2147483647 : Int32)) % (6 : Int32)))])) _
    refine XS.ifYes X0.here hx rfl (pc0 := 9) (pc' := 16) rfl (hb hby d_method_2_9) rfl ((if0 _ _).trans (feq (hc2 : ¬ (((p1 &&& (2147483647 : Int32)) % (6 : Int32)) = (0 : Int32)))).2) (by decide) (by decide) ?_
    show Steps p.tables e below (s₁.setTop (mkF m 16 #[.val (.int p1), .val (.int ((p1 &&& (2147483647 : Int32)) % (6 : Int32)))] [])) _
    refine XS.iloadN X0.here hx rfl (hb hby d_method_2_16) rfl ?_
    show Steps p.tables e below (s₁.setTop (mkF m 17 #[.val (.int p1), .val (.int ((p1 &&& (2147483647 : Int32)) % (6 : Int32)))] [(.int ((p1 &&& (2147483647 : Int32)) % (6 : Int32)))])) _
    refine XS.iconst X0.here hx rfl (hb hby d_method_2_17) ?_
    show Steps p.tables e below (s₁.setTop (mkF m 18 #[.val (.int p1), .val (.int ((p1 &&& (2147483647 : Int32)) % (6 : Int32)))] [(.int (1 : Int32)), (.int ((p1 &&& (2147483647 : Int32)) % (6 : Int32)))])) _
    refine XS.icmpYes X0.here hx rfl (pc0 := 18) (pc' := 25) rfl (hb hby d_method_2_18) rfl (feq (hc3 : ¬ (((p1 &&& (2147483647 : Int32)) % (6 : Int32)) = (1 : Int32)))).2 (by decide) (by decide) ?_
    show Steps p.tables e below (s₁.setTop (mkF m 25 #[.val (.int p1), .val (.int ((p1 &&& (2147483647 : Int32)) % (6 : Int32)))] [])) _
    refine XS.iloadN X0.here hx rfl (hb hby d_method_2_25) rfl ?_
    show Steps p.tables e below (s₁.setTop (mkF m 26 #[.val (.int p1), .val (.int ((p1 &&& (2147483647 : Int32)) % (6 : Int32)))] [(.int ((p1 &&& (2147483647 : Int32)) % (6 : Int32)))])) _
    refine XS.iconst X0.here hx rfl (hb hby d_method_2_26) ?_
    show Steps p.tables e below (s₁.setTop (mkF m 27 #[.val (.int p1), .val (.int ((p1 &&& (2147483647 : Int32)) % (6 : Int32)))] [(.int (2 : Int32)), (.int ((p1 &&& (2147483647 : Int32)) % (6 : Int32)))])) _
    refine XS.icmpYes X0.here hx rfl (pc0 := 27) (pc' := 34) rfl (hb hby d_method_2_27) rfl (feq (hc4 : ¬ (((p1 &&& (2147483647 : Int32)) % (6 : Int32)) = (2 : Int32)))).2 (by decide) (by decide) ?_
    show Steps p.tables e below (s₁.setTop (mkF m 34 #[.val (.int p1), .val (.int ((p1 &&& (2147483647 : Int32)) % (6 : Int32)))] [])) _
    refine XS.iloadN X0.here hx rfl (hb hby d_method_2_34) rfl ?_
    show Steps p.tables e below (s₁.setTop (mkF m 35 #[.val (.int p1), .val (.int ((p1 &&& (2147483647 : Int32)) % (6 : Int32)))] [(.int ((p1 &&& (2147483647 : Int32)) % (6 : Int32)))])) _
    refine XS.iconst X0.here hx rfl (hb hby d_method_2_35) ?_
    show Steps p.tables e below (s₁.setTop (mkF m 36 #[.val (.int p1), .val (.int ((p1 &&& (2147483647 : Int32)) % (6 : Int32)))] [(.int (3 : Int32)), (.int ((p1 &&& (2147483647 : Int32)) % (6 : Int32)))])) _
    refine XS.icmpYes X0.here hx rfl (pc0 := 36) (pc' := 43) rfl (hb hby d_method_2_36) rfl (feq (hc5 : ¬ (((p1 &&& (2147483647 : Int32)) % (6 : Int32)) = (3 : Int32)))).2 (by decide) (by decide) ?_
    show Steps p.tables e below (s₁.setTop (mkF m 43 #[.val (.int p1), .val (.int ((p1 &&& (2147483647 : Int32)) % (6 : Int32)))] [])) _
    refine XS.iloadN X0.here hx rfl (hb hby d_method_2_43) rfl ?_
    show Steps p.tables e below (s₁.setTop (mkF m 44 #[.val (.int p1), .val (.int ((p1 &&& (2147483647 : Int32)) % (6 : Int32)))] [(.int ((p1 &&& (2147483647 : Int32)) % (6 : Int32)))])) _
    refine XS.iconst X0.here hx rfl (hb hby d_method_2_44) ?_
    show Steps p.tables e below (s₁.setTop (mkF m 45 #[.val (.int p1), .val (.int ((p1 &&& (2147483647 : Int32)) % (6 : Int32)))] [(.int (4 : Int32)), (.int ((p1 &&& (2147483647 : Int32)) % (6 : Int32)))])) _
    refine XS.icmpNo X0.here hx rfl (hb hby d_method_2_45) rfl (teq (hc6 : ((p1 &&& (2147483647 : Int32)) % (6 : Int32)) = (4 : Int32))).2 ?_
    show Steps p.tables e below (s₁.setTop (mkF m 48 #[.val (.int p1), .val (.int ((p1 &&& (2147483647 : Int32)) % (6 : Int32)))] [])) _
    refine st8 _ ?_
    exact kk)
  obtain ⟨fs, hr, hrun, hended, hW, hsame⟩ := X8.leave (v := some (.ref a7)) (fun h => by rw [Bd.returns] at h; cases h)
  refine ⟨_, _, pre9 _ ?_, hrun, hended, _, _, rfl, ?_, ⟨_, rfl⟩, hW, hsame.mono (by decide) (by decide)⟩
  · exact retOut X8 hx Bd.returns rfl (Or.inr (Or.inr (Or.inr (Or.inr ⟨rfl, rfl, rfl⟩)))) (hb hby d_method_2_51) hr
  · show Q27 Z p1 a7 h0 n0 _ T8.heap _
    rw [e8]
    exact ⟨rfl, N0, rfl⟩
theorem d_prog_137_method_8_56 : decode prog_137_method_8_code 56 = .ok (.aload_n 0, 1) := by decide +kernel
theorem d_prog_137_method_8_57 : decode prog_137_method_8_code 57 = .ok (.getstatic 16, 3) := by decide +kernel
theorem d_prog_137_method_8_60 : decode prog_137_method_8_code 60 = .ok (.if_acmp .ne 10, 3) := by decide +kernel
theorem d_prog_137_method_8_63 : decode prog_137_method_8_code 63 = .ok (.getstatic 13, 3) := by decide +kernel
theorem d_prog_137_method_8_66 : decode prog_137_method_8_code 66 = .ok (.astore_n 1, 1) := by decide +kernel
theorem d_prog_137_method_8_67 : decode prog_137_method_8_code 67 = .ok (.goto 7, 3) := by decide +kernel
def Q28 (Z : State) (a1 : Addr) (a2 : Addr) (a4 : Addr) (a6 : Addr) (a8 : Addr) (h0 : Heap) (n0 : Nat) (v : Option Value) (h : Heap) (L : List Loc) : Prop := v = some (.ref a8) ∧ Fr n0 L ∧ h = h0
set_option maxRecDepth 65536 in
set_option maxHeartbeats 40000000 in
theorem rm28 (l : Launch) (Z : State) (a0 : Array Value) (hw : ∀ d ∈ tables_1, d.before a0 Z = true) (ws : List Jvm.Cond) (a1 : Addr) (a2 : Addr) (a4 : Addr) (a6 : Addr) (a8 : Addr) (h0 : Heap) (n0 : Nat) (Z0 : n0 ≤ h0.size) (S_EQUAL : Sta Z h0 "com/example/latticut/latticut/lang/Comparison" "EQUAL" "Lcom/example/latticut/latticut/lang/Comparison;" (.ref a2)) (ne_a1_a2 : a1 ≠ a2) (S_NOT_EQUAL : Sta Z h0 "com/example/latticut/latticut/lang/Comparison" "NOT_EQUAL" "Lcom/example/latticut/latticut/lang/Comparison;" (.ref a4)) (ne_a1_a4 : a1 ≠ a4) (S_LESS : Sta Z h0 "com/example/latticut/latticut/lang/Comparison" "LESS" "Lcom/example/latticut/latticut/lang/Comparison;" (.ref a6)) (ne_a1_a6 : a1 ≠ a6) (S_LESS_OR_EQUAL : Sta Z h0 "com/example/latticut/latticut/lang/Comparison" "LESS_OR_EQUAL" "Lcom/example/latticut/latticut/lang/Comparison;" (.ref a8)) (ne_a1_a8 : a1 ≠ a8) (S_GREATER : Sta Z h0 "com/example/latticut/latticut/lang/Comparison" "GREATER" "Lcom/example/latticut/latticut/lang/Comparison;" (.ref a1)) :
    MetFree l (⟨"com/example/latticut/latticut/lang/Comparison", "negated", "()Lcom/example/latticut/latticut/lang/Comparison;"⟩ : MethodName) (head1 (Jvm.Cond.code (⟨"com/example/latticut/latticut/lang/Comparison", "negated", "()Lcom/example/latticut/latticut/lang/Comparison;"⟩ : MethodName) prog_137_method_8_code 2 (some (.object "com/example/latticut/latticut/lang/Comparison")) :: ws) ({ frames := 0, cells := 0, slots := 0, locals := 0 } : Room)) (fun a U => a = #[(.ref a1)] ∧ Z.Warmed39 U.vm ∧ U.heap = h0) (fun _ _ _ _ _ => True) (fun _ U o U' => ∃ v L, o = .returned v ∧ Q28 Z a1 a2 a4 a6 a8 h0 n0 v U'.heap L ∧ FrameEnd U o U' L ({ frames := 0, cells := 0, slots := 0, locals := 0 } : Room).cells ({ frames := 0, cells := 0, slots := 0, locals := 0 } : Room).slots) := by
  refine MetFree.of_bodySF (plainFor_of_name pn_1) hisR ?_
  intro p e s m args below meth c s₁ Bd hml0 hP hK
  obtain ⟨rfl, hZ, hh⟩ := hP
  have hx := Bd.exec
  have hby := Bd.bytes
  have hml : c.maxLocals = 2 := hml0
  have hown : s.vm.findClass "com/example/latticut/latticut/lang/Comparison" = some m.cls := findClass_of_methodNamed Bd.named
  have hnm := (name_of_methodNamed Bd.named Bd.method).1
  have X0 : Stand p l e ({ frames := 0, cells := 0, slots := 0, locals := 0 } : Room) s m #[(.ref a1)] below meth c s₁ [] 0 0 := Stand.of_body Bd
  have e0 : s₁.heap = h0 := by rw [← hh, Bd.state]; rfl
  have N0 := Fr.nil n0
  have pre0 : ∀ t, Steps p.tables e below (s₁.setTop (mkF m 0 #[.val (.ref a1), .unset] [])) t → Steps p.tables e below (s₁.setTop (entryFrame m #[(.ref a1)] 2)) t := fun t k => castTop (ef_2 m a1) k
  obtain ⟨T3, X3, e3, st3⟩ := getS2 X0 hx hZ hown (host := "") (Or.inl (hw _ (List.mem_of_getElem? (i := 13) rfl))) Via.refl e0 S_EQUAL (g := (mkF m 1 #[.val (.ref a1), .unset] [(.ref a1)])) rfl (hb hby d_prog_137_method_8_1)
  obtain ⟨T5, X5, e5, st5⟩ := getS2 X3 hx hZ hown (host := "") (Or.inl (hw _ (List.mem_of_getElem? (i := 14) rfl))) Via.refl e3 S_NOT_EQUAL (g := (mkF m 15 #[.val (.ref a1), .unset] [(.ref a1)])) rfl (hb hby d_prog_137_method_8_15)
  obtain ⟨T7, X7, e7, st7⟩ := getS2 X5 hx hZ hown (host := "") (Or.inl (hw _ (List.mem_of_getElem? (i := 37) rfl))) Via.refl e5 S_LESS (g := (mkF m 29 #[.val (.ref a1), .unset] [(.ref a1)])) rfl (hb hby d_prog_137_method_8_29)
  obtain ⟨T9, X9, e9, st9⟩ := getS2 X7 hx hZ hown (host := "") (Or.inl (hw _ (List.mem_of_getElem? (i := 39) rfl))) Via.refl e7 S_LESS_OR_EQUAL (g := (mkF m 43 #[.val (.ref a1), .unset] [(.ref a1)])) rfl (hb hby d_prog_137_method_8_43)
  obtain ⟨T10, X10, e10, st10⟩ := getS2 X9 hx hZ hown (host := "") (Or.inl (hw _ (List.mem_of_getElem? (i := 41) rfl))) Via.refl e9 S_GREATER (g := (mkF m 57 #[.val (.ref a1), .unset] [(.ref a1)])) rfl (hb hby d_prog_137_method_8_57)
  obtain ⟨T11, X11, e11, st11⟩ := getS2 X10 hx hZ hown (host := "") (Or.inl (hw _ (List.mem_of_getElem? (i := 39) rfl))) Via.refl e10 S_LESS_OR_EQUAL (g := (mkF m 63 #[.val (.ref a1), .unset] [])) rfl (hb hby d_prog_137_method_8_63)
  have pre12 : ∀ t, Steps p.tables e below (T11.setTop (mkF m 75 #[.val (.ref a1), .val (.ref a8)] [(.ref a8)])) t → Steps p.tables e below (s₁.setTop (entryFrame m #[(.ref a1)] 2)) t := fun t kk => pre0 t (by
    show Steps p.tables e below (s₁.setTop (mkF m 0 #[.val (.ref a1), .unset] [])) _
    refine XS.aloadN X0.here hx rfl (hb hby d_prog_137_method_8_0) rfl rfl ?_
    show Steps p.tables e below (s₁.setTop (mkF m 1 #[.val (.ref a1), .unset] [(.ref a1)])) _
    refine st3 _ ?_
    show Steps p.tables e below (T3.setTop (mkF m 4 #[.val (.ref a1), .unset] [(.ref a2), (.ref a1)])) _
    refine Jvm.RoadKit.acmp (g := (mkF m 4 #[.val (.ref a1), .unset] [(.ref a2), (.ref a1)])) X3 hx rfl rfl rfl (pc0 := 4) (pc' := 14) (same := false) rfl (hb hby d_prog_137_method_8_4) rfl (decide_eq_false fun q => ne_a1_a2 (Value.ref.inj q)) (by decide) (by decide) ?_
    show Steps p.tables e below (T3.setTop (mkF m 14 #[.val (.ref a1), .unset] [])) _
    refine XS.aloadN X3.here hx rfl (hb hby d_prog_137_method_8_14) rfl rfl ?_
    show Steps p.tables e below (T3.setTop (mkF m 15 #[.val (.ref a1), .unset] [(.ref a1)])) _
    refine st5 _ ?_
    show Steps p.tables e below (T5.setTop (mkF m 18 #[.val (.ref a1), .unset] [(.ref a4), (.ref a1)])) _
    refine Jvm.RoadKit.acmp (g := (mkF m 18 #[.val (.ref a1), .unset] [(.ref a4), (.ref a1)])) X5 hx rfl rfl rfl (pc0 := 18) (pc' := 28) (same := false) rfl (hb hby d_prog_137_method_8_18) rfl (decide_eq_false fun q => ne_a1_a4 (Value.ref.inj q)) (by decide) (by decide) ?_
    show Steps p.tables e below (T5.setTop (mkF m 28 #[.val (.ref a1), .unset] [])) _
    refine XS.aloadN X5.here hx rfl (hb hby d_prog_137_method_8_28) rfl rfl ?_
    show Steps p.tables e below (T5.setTop (mkF m 29 #[.val (.ref a1), .unset] [(.ref a1)])) _
    refine st7 _ ?_
    show Steps p.tables e below (T7.setTop (mkF m 32 #[.val (.ref a1), .unset] [(.ref a6), (.ref a1)])) _
    refine Jvm.RoadKit.acmp (g := (mkF m 32 #[.val (.ref a1), .unset] [(.ref a6), (.ref a1)])) X7 hx rfl rfl rfl (pc0 := 32) (pc' := 42) (same := false) rfl (hb hby d_prog_137_method_8_32) rfl (decide_eq_false fun q => ne_a1_a6 (Value.ref.inj q)) (by decide) (by decide) ?_
    show Steps p.tables e below (T7.setTop (mkF m 42 #[.val (.ref a1), .unset] [])) _
    refine XS.aloadN X7.here hx rfl (hb hby d_prog_137_method_8_42) rfl rfl ?_
    show Steps p.tables e below (T7.setTop (mkF m 43 #[.val (.ref a1), .unset] [(.ref a1)])) _
    refine st9 _ ?_
    show Steps p.tables e below (T9.setTop (mkF m 46 #[.val (.ref a1), .unset] [(.ref a8), (.ref a1)])) _
    refine Jvm.RoadKit.acmp (g := (mkF m 46 #[.val (.ref a1), .unset] [(.ref a8), (.ref a1)])) X9 hx rfl rfl rfl (pc0 := 46) (pc' := 56) (same := false) rfl (hb hby d_prog_137_method_8_46) rfl (decide_eq_false fun q => ne_a1_a8 (Value.ref.inj q)) (by decide) (by decide) ?_
    show Steps p.tables e below (T9.setTop (mkF m 56 #[.val (.ref a1), .unset] [])) _
    refine XS.aloadN X9.here hx rfl (hb hby d_prog_137_method_8_56) rfl rfl ?_
    show Steps p.tables e below (T9.setTop (mkF m 57 #[.val (.ref a1), .unset] [(.ref a1)])) _
    refine st10 _ ?_
    show Steps p.tables e below (T10.setTop (mkF m 60 #[.val (.ref a1), .unset] [(.ref a1), (.ref a1)])) _
    refine Jvm.RoadKit.acmp (g := (mkF m 60 #[.val (.ref a1), .unset] [(.ref a1), (.ref a1)])) X10 hx rfl rfl rfl (pc0 := 60) (pc' := 63) (same := true) rfl (hb hby d_prog_137_method_8_60) rfl (decide_eq_true rfl) (by decide) (by decide) ?_
    show Steps p.tables e below (T10.setTop (mkF m 63 #[.val (.ref a1), .unset] [])) _
    refine st11 _ ?_
    show Steps p.tables e below (T11.setTop (mkF m 66 #[.val (.ref a1), .unset] [(.ref a8)])) _
    refine XS.astoreN X11.here hx rfl (hb hby d_prog_137_method_8_66) rfl rfl (l' := #[.val (.ref a1), .val (.ref a8)]) rfl ?_
    show Steps p.tables e below (T11.setTop (mkF m 67 #[.val (.ref a1), .val (.ref a8)] [])) _
    refine XS.goto X11.here hx rfl (pc0 := 67) (pc' := 74) rfl (hb hby d_prog_137_method_8_67) (by decide) (by decide) ?_
    show Steps p.tables e below (T11.setTop (mkF m 74 #[.val (.ref a1), .val (.ref a8)] [])) _
    refine XS.aloadN X11.here hx rfl (hb hby d_prog_137_method_8_74) rfl rfl ?_
    exact kk)
  obtain ⟨fs, hr, hrun, hended, hW, hsame⟩ := X11.leave (v := some (.ref a8)) (fun h => by rw [Bd.returns] at h; cases h)
  refine ⟨_, _, pre12 _ ?_, hrun, hended, _, _, rfl, ?_, ⟨_, rfl⟩, hW, hsame.mono (by decide) (by decide)⟩
  · exact retOut X11 hx Bd.returns rfl (Or.inr (Or.inr (Or.inr (Or.inr ⟨rfl, rfl, rfl⟩)))) (hb hby d_prog_137_method_8_75) hr
  · show Q28 Z a1 a2 a4 a6 a8 h0 n0 _ T11.heap _
    rw [e11]
    exact ⟨rfl, N0, rfl⟩
theorem d_method_2_52 : decode method_2_code 52 = .ok (.getstatic 26, 3) := by decide +kernel
theorem d_method_2_55 : decode method_2_code 55 = .ok (.areturn, 1) := by decide +kernel
def Q29 (Z : State) (p1 : Int32) (a7 : Addr) (h0 : Heap) (n0 : Nat) (v : Option Value) (h : Heap) (L : List Loc) : Prop := v = some (.ref a7) ∧ Fr n0 L ∧ h = h0
set_option maxRecDepth 65536 in
set_option maxHeartbeats 40000000 in
theorem rm29 (l : Launch) (Z : State) (a0 : Array Value) (hw : ∀ d ∈ tables_1, d.before a0 Z = true) (ws : List Jvm.Cond) (p1 : Int32) (a7 : Addr) (h0 : Heap) (n0 : Nat) (Z0 : n0 ≤ h0.size) (hc2 : ¬ (((p1 &&& (2147483647 : Int32)) % (6 : Int32)) = (0 : Int32))) (hc3 : ¬ (((p1 &&& (2147483647 : Int32)) % (6 : Int32)) = (1 : Int32))) (hc4 : ¬ (((p1 &&& (2147483647 : Int32)) % (6 : Int32)) = (2 : Int32))) (hc5 : ¬ (((p1 &&& (2147483647 : Int32)) % (6 : Int32)) = (3 : Int32))) (hc6 : ¬ (((p1 &&& (2147483647 : Int32)) % (6 : Int32)) = (4 : Int32))) (S_GREATER_OR_EQUAL : Sta Z h0 "com/example/latticut/latticut/lang/Comparison" "GREATER_OR_EQUAL" "Lcom/example/latticut/latticut/lang/Comparison;" (.ref a7)) :
    MetFree l (⟨"com/example/latticut/latticut/lang/ComparisonNegatedPinLaw", "pick", "(I)Lcom/example/latticut/latticut/lang/Comparison;"⟩ : MethodName) (head1 (Jvm.Cond.code (⟨"com/example/latticut/latticut/lang/ComparisonNegatedPinLaw", "pick", "(I)Lcom/example/latticut/latticut/lang/Comparison;"⟩ : MethodName) method_2_code 2 (some (.object "com/example/latticut/latticut/lang/Comparison")) :: ws) ({ frames := 0, cells := 0, slots := 0, locals := 0 } : Room)) (fun a U => a = #[(.int p1)] ∧ Z.Warmed39 U.vm ∧ U.heap = h0) (fun _ _ _ _ _ => True) (fun _ U o U' => ∃ v L, o = .returned v ∧ Q29 Z p1 a7 h0 n0 v U'.heap L ∧ FrameEnd U o U' L ({ frames := 0, cells := 0, slots := 0, locals := 0 } : Room).cells ({ frames := 0, cells := 0, slots := 0, locals := 0 } : Room).slots) := by
  refine MetFree.of_bodySF (plainFor_of_name pn_0) hisR ?_
  intro p e s m args below meth c s₁ Bd hml0 hP hK
  obtain ⟨rfl, hZ, hh⟩ := hP
  have hx := Bd.exec
  have hby := Bd.bytes
  have hml : c.maxLocals = 2 := hml0
  have hown : s.vm.findClass "com/example/latticut/latticut/lang/ComparisonNegatedPinLaw" = some m.cls := findClass_of_methodNamed Bd.named
  have hnm := (name_of_methodNamed Bd.named Bd.method).1
  have X0 : Stand p l e ({ frames := 0, cells := 0, slots := 0, locals := 0 } : Room) s m #[(.int p1)] below meth c s₁ [] 0 0 := Stand.of_body Bd
  have e0 : s₁.heap = h0 := by rw [← hh, Bd.state]; rfl
  have N0 := Fr.nil n0
  have pre0 : ∀ t, Steps p.tables e below (s₁.setTop (mkF m 0 #[.val (.int p1), .unset] [])) t → Steps p.tables e below (s₁.setTop (entryFrame m #[(.int p1)] 2)) t := fun t k => castTop (ef_1 m (p1)) k
  obtain ⟨T8, X8, e8, st8⟩ := getS2 X0 hx hZ hown (host := "") (Or.inl (hw _ (List.mem_of_getElem? (i := 47) rfl))) Via.refl e0 S_GREATER_OR_EQUAL (g := (mkF m 52 #[.val (.int p1), .val (.int ((p1 &&& (2147483647 : Int32)) % (6 : Int32)))] [])) rfl (hb hby d_method_2_52)
  have pre9 : ∀ t, Steps p.tables e below (T8.setTop (mkF m 55 #[.val (.int p1), .val (.int ((p1 &&& (2147483647 : Int32)) % (6 : Int32)))] [(.ref a7)])) t → Steps p.tables e below (s₁.setTop (entryFrame m #[(.int p1)] 2)) t := fun t kk => pre0 t (by
    show Steps p.tables e below (s₁.setTop (mkF m 0 #[.val (.int p1), .unset] [])) _
    refine XS.iloadN X0.here hx rfl (hb hby d_method_2_0) rfl ?_
    show Steps p.tables e below (s₁.setTop (mkF m 1 #[.val (.int p1), .unset] [(.int p1)])) _
    refine X0.ldcInt hx hown (mvT hZ (hw _ (List.mem_of_getElem? (i := 4) rfl))) (g := (mkF m 1 #[.val (.int p1), .unset] [(.int p1)])) rfl (hb hby d_method_2_1) _ ?_
    show Steps p.tables e below (s₁.setTop (mkF m 3 #[.val (.int p1), .unset] [(.int (2147483647 : Int32)), (.int p1)])) _
    refine XS.iand X0.here hx rfl (hb hby d_method_2_3) rfl ?_
    show Steps p.tables e below (s₁.setTop (mkF m 4 #[.val (.int p1), .unset] [(.int (p1 &&& (2147483647 : Int32)))])) _
    refine XS.bipush X0.here hx rfl (hb hby d_method_2_4) ?_
    show Steps p.tables e below (s₁.setTop (mkF m 6 #[.val (.int p1), .unset] [(.int (6 : Int32)), (.int (p1 &&& (2147483647 : Int32)))])) _
    refine iremM X0 hx rfl (hb hby d_method_2_6) rfl (by decide) ?_
    show Steps p.tables e below (s₁.setTop (mkF m 7 #[.val (.int p1), .unset] [(.int ((p1 &&& (2147483647 : Int32)) % (6 : Int32)))])) _
    refine XS.istoreN X0.here hx rfl (hb hby d_method_2_7) rfl (l' := #[.val (.int p1), .val (.int ((p1 &&& (2147483647 : Int32)) % (6 : Int32)))]) rfl ?_
    show Steps p.tables e below (s₁.setTop (mkF m 8 #[.val (.int p1), .val (.int ((p1 &&& (2147483647 : Int32)) % (6 : Int32)))] [])) _
    refine XS.iloadN X0.here hx rfl (hb hby d_method_2_8) rfl ?_
    show Steps p.tables e below (s₁.setTop (mkF m 9 #[.val (.int p1), .val (.int ((p1 &&& (2147483647 : Int32)) % (6 : Int32)))] [(.int ((p1 &&& (2147483647 : Int32)) % (6 : Int32)))])) _
    refine XS.ifYes X0.here hx rfl (pc0 := 9) (pc' := 16) rfl (hb hby d_method_2_9) rfl ((if0 _ _).trans (feq (hc2 : ¬ (((p1 &&& (2147483647 : Int32)) % (6 : Int32)) = (0 : Int32)))).2) (by decide) (by decide) ?_
    show Steps p.tables e below (s₁.setTop (mkF m 16 #[.val (.int p1), .val (.int ((p1 &&& (2147483647 : Int32)) % (6 : Int32)))] [])) _
    refine XS.iloadN X0.here hx rfl (hb hby d_method_2_16) rfl ?_
    show Steps p.tables e below (s₁.setTop (mkF m 17 #[.val (.int p1), .val (.int ((p1 &&& (2147483647 : Int32)) % (6 : Int32)))] [(.int ((p1 &&& (2147483647 : Int32)) % (6 : Int32)))])) _
    refine XS.iconst X0.here hx rfl (hb hby d_method_2_17) ?_
    show Steps p.tables e below (s₁.setTop (mkF m 18 #[.val (.int p1), .val (.int ((p1 &&& (2147483647 : Int32)) % (6 : Int32)))] [(.int (1 : Int32)), (.int ((p1 &&& (2147483647 : Int32)) % (6 : Int32)))])) _
    refine XS.icmpYes X0.here hx rfl (pc0 := 18) (pc' := 25) rfl (hb hby d_method_2_18) rfl (feq (hc3 : ¬ (((p1 &&& (2147483647 : Int32)) % (6 : Int32)) = (1 : Int32)))).2 (by decide) (by decide) ?_
    show Steps p.tables e below (s₁.setTop (mkF m 25 #[.val (.int p1), .val (.int ((p1 &&& (2147483647 : Int32)) % (6 : Int32)))] [])) _
    refine XS.iloadN X0.here hx rfl (hb hby d_method_2_25) rfl ?_
    show Steps p.tables e below (s₁.setTop (mkF m 26 #[.val (.int p1), .val (.int ((p1 &&& (2147483647 : Int32)) % (6 : Int32)))] [(.int ((p1 &&& (2147483647 : Int32)) % (6 : Int32)))])) _
    refine XS.iconst X0.here hx rfl (hb hby d_method_2_26) ?_
    show Steps p.tables e below (s₁.setTop (mkF m 27 #[.val (.int p1), .val (.int ((p1 &&& (2147483647 : Int32)) % (6 : Int32)))] [(.int (2 : Int32)), (.int ((p1 &&& (2147483647 : Int32)) % (6 : Int32)))])) _
    refine XS.icmpYes X0.here hx rfl (pc0 := 27) (pc' := 34) rfl (hb hby d_method_2_27) rfl (feq (hc4 : ¬ (((p1 &&& (2147483647 : Int32)) % (6 : Int32)) = (2 : Int32)))).2 (by decide) (by decide) ?_
    show Steps p.tables e below (s₁.setTop (mkF m 34 #[.val (.int p1), .val (.int ((p1 &&& (2147483647 : Int32)) % (6 : Int32)))] [])) _
    refine XS.iloadN X0.here hx rfl (hb hby d_method_2_34) rfl ?_
    show Steps p.tables e below (s₁.setTop (mkF m 35 #[.val (.int p1), .val (.int ((p1 &&& (2147483647 : Int32)) % (6 : Int32)))] [(.int ((p1 &&& (2147483647 : Int32)) % (6 : Int32)))])) _
    refine XS.iconst X0.here hx rfl (hb hby d_method_2_35) ?_
    show Steps p.tables e below (s₁.setTop (mkF m 36 #[.val (.int p1), .val (.int ((p1 &&& (2147483647 : Int32)) % (6 : Int32)))] [(.int (3 : Int32)), (.int ((p1 &&& (2147483647 : Int32)) % (6 : Int32)))])) _
    refine XS.icmpYes X0.here hx rfl (pc0 := 36) (pc' := 43) rfl (hb hby d_method_2_36) rfl (feq (hc5 : ¬ (((p1 &&& (2147483647 : Int32)) % (6 : Int32)) = (3 : Int32)))).2 (by decide) (by decide) ?_
    show Steps p.tables e below (s₁.setTop (mkF m 43 #[.val (.int p1), .val (.int ((p1 &&& (2147483647 : Int32)) % (6 : Int32)))] [])) _
    refine XS.iloadN X0.here hx rfl (hb hby d_method_2_43) rfl ?_
    show Steps p.tables e below (s₁.setTop (mkF m 44 #[.val (.int p1), .val (.int ((p1 &&& (2147483647 : Int32)) % (6 : Int32)))] [(.int ((p1 &&& (2147483647 : Int32)) % (6 : Int32)))])) _
    refine XS.iconst X0.here hx rfl (hb hby d_method_2_44) ?_
    show Steps p.tables e below (s₁.setTop (mkF m 45 #[.val (.int p1), .val (.int ((p1 &&& (2147483647 : Int32)) % (6 : Int32)))] [(.int (4 : Int32)), (.int ((p1 &&& (2147483647 : Int32)) % (6 : Int32)))])) _
    refine XS.icmpYes X0.here hx rfl (pc0 := 45) (pc' := 52) rfl (hb hby d_method_2_45) rfl (feq (hc6 : ¬ (((p1 &&& (2147483647 : Int32)) % (6 : Int32)) = (4 : Int32)))).2 (by decide) (by decide) ?_
    show Steps p.tables e below (s₁.setTop (mkF m 52 #[.val (.int p1), .val (.int ((p1 &&& (2147483647 : Int32)) % (6 : Int32)))] [])) _
    refine st8 _ ?_
    exact kk)
  obtain ⟨fs, hr, hrun, hended, hW, hsame⟩ := X8.leave (v := some (.ref a7)) (fun h => by rw [Bd.returns] at h; cases h)
  refine ⟨_, _, pre9 _ ?_, hrun, hended, _, _, rfl, ?_, ⟨_, rfl⟩, hW, hsame.mono (by decide) (by decide)⟩
  · exact retOut X8 hx Bd.returns rfl (Or.inr (Or.inr (Or.inr (Or.inr ⟨rfl, rfl, rfl⟩)))) (hb hby d_method_2_55) hr
  · show Q29 Z p1 a7 h0 n0 _ T8.heap _
    rw [e8]
    exact ⟨rfl, N0, rfl⟩
theorem d_prog_137_method_8_70 : decode prog_137_method_8_code 70 = .ok (.getstatic 10, 3) := by decide +kernel
theorem d_prog_137_method_8_73 : decode prog_137_method_8_code 73 = .ok (.astore_n 1, 1) := by decide +kernel
def Q30 (Z : State) (a1 : Addr) (a2 : Addr) (a4 : Addr) (a6 : Addr) (a8 : Addr) (a10 : Addr) (h0 : Heap) (n0 : Nat) (v : Option Value) (h : Heap) (L : List Loc) : Prop := v = some (.ref a6) ∧ Fr n0 L ∧ h = h0
set_option maxRecDepth 65536 in
set_option maxHeartbeats 40000000 in
theorem rm30 (l : Launch) (Z : State) (a0 : Array Value) (hw : ∀ d ∈ tables_1, d.before a0 Z = true) (ws : List Jvm.Cond) (a1 : Addr) (a2 : Addr) (a4 : Addr) (a6 : Addr) (a8 : Addr) (a10 : Addr) (h0 : Heap) (n0 : Nat) (Z0 : n0 ≤ h0.size) (S_EQUAL : Sta Z h0 "com/example/latticut/latticut/lang/Comparison" "EQUAL" "Lcom/example/latticut/latticut/lang/Comparison;" (.ref a2)) (ne_a1_a2 : a1 ≠ a2) (S_NOT_EQUAL : Sta Z h0 "com/example/latticut/latticut/lang/Comparison" "NOT_EQUAL" "Lcom/example/latticut/latticut/lang/Comparison;" (.ref a4)) (ne_a1_a4 : a1 ≠ a4) (S_LESS : Sta Z h0 "com/example/latticut/latticut/lang/Comparison" "LESS" "Lcom/example/latticut/latticut/lang/Comparison;" (.ref a6)) (ne_a1_a6 : a1 ≠ a6) (S_LESS_OR_EQUAL : Sta Z h0 "com/example/latticut/latticut/lang/Comparison" "LESS_OR_EQUAL" "Lcom/example/latticut/latticut/lang/Comparison;" (.ref a8)) (ne_a1_a8 : a1 ≠ a8) (S_GREATER : Sta Z h0 "com/example/latticut/latticut/lang/Comparison" "GREATER" "Lcom/example/latticut/latticut/lang/Comparison;" (.ref a10)) (ne_a1_a10 : a1 ≠ a10) :
    MetFree l (⟨"com/example/latticut/latticut/lang/Comparison", "negated", "()Lcom/example/latticut/latticut/lang/Comparison;"⟩ : MethodName) (head1 (Jvm.Cond.code (⟨"com/example/latticut/latticut/lang/Comparison", "negated", "()Lcom/example/latticut/latticut/lang/Comparison;"⟩ : MethodName) prog_137_method_8_code 2 (some (.object "com/example/latticut/latticut/lang/Comparison")) :: ws) ({ frames := 0, cells := 0, slots := 0, locals := 0 } : Room)) (fun a U => a = #[(.ref a1)] ∧ Z.Warmed39 U.vm ∧ U.heap = h0) (fun _ _ _ _ _ => True) (fun _ U o U' => ∃ v L, o = .returned v ∧ Q30 Z a1 a2 a4 a6 a8 a10 h0 n0 v U'.heap L ∧ FrameEnd U o U' L ({ frames := 0, cells := 0, slots := 0, locals := 0 } : Room).cells ({ frames := 0, cells := 0, slots := 0, locals := 0 } : Room).slots) := by
  refine MetFree.of_bodySF (plainFor_of_name pn_1) hisR ?_
  intro p e s m args below meth c s₁ Bd hml0 hP hK
  obtain ⟨rfl, hZ, hh⟩ := hP
  have hx := Bd.exec
  have hby := Bd.bytes
  have hml : c.maxLocals = 2 := hml0
  have hown : s.vm.findClass "com/example/latticut/latticut/lang/Comparison" = some m.cls := findClass_of_methodNamed Bd.named
  have hnm := (name_of_methodNamed Bd.named Bd.method).1
  have X0 : Stand p l e ({ frames := 0, cells := 0, slots := 0, locals := 0 } : Room) s m #[(.ref a1)] below meth c s₁ [] 0 0 := Stand.of_body Bd
  have e0 : s₁.heap = h0 := by rw [← hh, Bd.state]; rfl
  have N0 := Fr.nil n0
  have pre0 : ∀ t, Steps p.tables e below (s₁.setTop (mkF m 0 #[.val (.ref a1), .unset] [])) t → Steps p.tables e below (s₁.setTop (entryFrame m #[(.ref a1)] 2)) t := fun t k => castTop (ef_2 m a1) k
  obtain ⟨T3, X3, e3, st3⟩ := getS2 X0 hx hZ hown (host := "") (Or.inl (hw _ (List.mem_of_getElem? (i := 13) rfl))) Via.refl e0 S_EQUAL (g := (mkF m 1 #[.val (.ref a1), .unset] [(.ref a1)])) rfl (hb hby d_prog_137_method_8_1)
  obtain ⟨T5, X5, e5, st5⟩ := getS2 X3 hx hZ hown (host := "") (Or.inl (hw _ (List.mem_of_getElem? (i := 14) rfl))) Via.refl e3 S_NOT_EQUAL (g := (mkF m 15 #[.val (.ref a1), .unset] [(.ref a1)])) rfl (hb hby d_prog_137_method_8_15)
  obtain ⟨T7, X7, e7, st7⟩ := getS2 X5 hx hZ hown (host := "") (Or.inl (hw _ (List.mem_of_getElem? (i := 37) rfl))) Via.refl e5 S_LESS (g := (mkF m 29 #[.val (.ref a1), .unset] [(.ref a1)])) rfl (hb hby d_prog_137_method_8_29)
  obtain ⟨T9, X9, e9, st9⟩ := getS2 X7 hx hZ hown (host := "") (Or.inl (hw _ (List.mem_of_getElem? (i := 39) rfl))) Via.refl e7 S_LESS_OR_EQUAL (g := (mkF m 43 #[.val (.ref a1), .unset] [(.ref a1)])) rfl (hb hby d_prog_137_method_8_43)
  obtain ⟨T11, X11, e11, st11⟩ := getS2 X9 hx hZ hown (host := "") (Or.inl (hw _ (List.mem_of_getElem? (i := 41) rfl))) Via.refl e9 S_GREATER (g := (mkF m 57 #[.val (.ref a1), .unset] [(.ref a1)])) rfl (hb hby d_prog_137_method_8_57)
  obtain ⟨T12, X12, e12, st12⟩ := getS2 X11 hx hZ hown (host := "") (Or.inl (hw _ (List.mem_of_getElem? (i := 37) rfl))) Via.refl e11 S_LESS (g := (mkF m 70 #[.val (.ref a1), .unset] [])) rfl (hb hby d_prog_137_method_8_70)
  have pre13 : ∀ t, Steps p.tables e below (T12.setTop (mkF m 75 #[.val (.ref a1), .val (.ref a6)] [(.ref a6)])) t → Steps p.tables e below (s₁.setTop (entryFrame m #[(.ref a1)] 2)) t := fun t kk => pre0 t (by
    show Steps p.tables e below (s₁.setTop (mkF m 0 #[.val (.ref a1), .unset] [])) _
    refine XS.aloadN X0.here hx rfl (hb hby d_prog_137_method_8_0) rfl rfl ?_
    show Steps p.tables e below (s₁.setTop (mkF m 1 #[.val (.ref a1), .unset] [(.ref a1)])) _
    refine st3 _ ?_
    show Steps p.tables e below (T3.setTop (mkF m 4 #[.val (.ref a1), .unset] [(.ref a2), (.ref a1)])) _
    refine Jvm.RoadKit.acmp (g := (mkF m 4 #[.val (.ref a1), .unset] [(.ref a2), (.ref a1)])) X3 hx rfl rfl rfl (pc0 := 4) (pc' := 14) (same := false) rfl (hb hby d_prog_137_method_8_4) rfl (decide_eq_false fun q => ne_a1_a2 (Value.ref.inj q)) (by decide) (by decide) ?_
    show Steps p.tables e below (T3.setTop (mkF m 14 #[.val (.ref a1), .unset] [])) _
    refine XS.aloadN X3.here hx rfl (hb hby d_prog_137_method_8_14) rfl rfl ?_
    show Steps p.tables e below (T3.setTop (mkF m 15 #[.val (.ref a1), .unset] [(.ref a1)])) _
    refine st5 _ ?_
    show Steps p.tables e below (T5.setTop (mkF m 18 #[.val (.ref a1), .unset] [(.ref a4), (.ref a1)])) _
    refine Jvm.RoadKit.acmp (g := (mkF m 18 #[.val (.ref a1), .unset] [(.ref a4), (.ref a1)])) X5 hx rfl rfl rfl (pc0 := 18) (pc' := 28) (same := false) rfl (hb hby d_prog_137_method_8_18) rfl (decide_eq_false fun q => ne_a1_a4 (Value.ref.inj q)) (by decide) (by decide) ?_
    show Steps p.tables e below (T5.setTop (mkF m 28 #[.val (.ref a1), .unset] [])) _
    refine XS.aloadN X5.here hx rfl (hb hby d_prog_137_method_8_28) rfl rfl ?_
    show Steps p.tables e below (T5.setTop (mkF m 29 #[.val (.ref a1), .unset] [(.ref a1)])) _
    refine st7 _ ?_
    show Steps p.tables e below (T7.setTop (mkF m 32 #[.val (.ref a1), .unset] [(.ref a6), (.ref a1)])) _
    refine Jvm.RoadKit.acmp (g := (mkF m 32 #[.val (.ref a1), .unset] [(.ref a6), (.ref a1)])) X7 hx rfl rfl rfl (pc0 := 32) (pc' := 42) (same := false) rfl (hb hby d_prog_137_method_8_32) rfl (decide_eq_false fun q => ne_a1_a6 (Value.ref.inj q)) (by decide) (by decide) ?_
    show Steps p.tables e below (T7.setTop (mkF m 42 #[.val (.ref a1), .unset] [])) _
    refine XS.aloadN X7.here hx rfl (hb hby d_prog_137_method_8_42) rfl rfl ?_
    show Steps p.tables e below (T7.setTop (mkF m 43 #[.val (.ref a1), .unset] [(.ref a1)])) _
    refine st9 _ ?_
    show Steps p.tables e below (T9.setTop (mkF m 46 #[.val (.ref a1), .unset] [(.ref a8), (.ref a1)])) _
    refine Jvm.RoadKit.acmp (g := (mkF m 46 #[.val (.ref a1), .unset] [(.ref a8), (.ref a1)])) X9 hx rfl rfl rfl (pc0 := 46) (pc' := 56) (same := false) rfl (hb hby d_prog_137_method_8_46) rfl (decide_eq_false fun q => ne_a1_a8 (Value.ref.inj q)) (by decide) (by decide) ?_
    show Steps p.tables e below (T9.setTop (mkF m 56 #[.val (.ref a1), .unset] [])) _
    refine XS.aloadN X9.here hx rfl (hb hby d_prog_137_method_8_56) rfl rfl ?_
    show Steps p.tables e below (T9.setTop (mkF m 57 #[.val (.ref a1), .unset] [(.ref a1)])) _
    refine st11 _ ?_
    show Steps p.tables e below (T11.setTop (mkF m 60 #[.val (.ref a1), .unset] [(.ref a10), (.ref a1)])) _
    refine Jvm.RoadKit.acmp (g := (mkF m 60 #[.val (.ref a1), .unset] [(.ref a10), (.ref a1)])) X11 hx rfl rfl rfl (pc0 := 60) (pc' := 70) (same := false) rfl (hb hby d_prog_137_method_8_60) rfl (decide_eq_false fun q => ne_a1_a10 (Value.ref.inj q)) (by decide) (by decide) ?_
    show Steps p.tables e below (T11.setTop (mkF m 70 #[.val (.ref a1), .unset] [])) _
    refine st12 _ ?_
    show Steps p.tables e below (T12.setTop (mkF m 73 #[.val (.ref a1), .unset] [(.ref a6)])) _
    refine XS.astoreN X12.here hx rfl (hb hby d_prog_137_method_8_73) rfl rfl (l' := #[.val (.ref a1), .val (.ref a6)]) rfl ?_
    show Steps p.tables e below (T12.setTop (mkF m 74 #[.val (.ref a1), .val (.ref a6)] [])) _
    refine XS.aloadN X12.here hx rfl (hb hby d_prog_137_method_8_74) rfl rfl ?_
    exact kk)
  obtain ⟨fs, hr, hrun, hended, hW, hsame⟩ := X12.leave (v := some (.ref a6)) (fun h => by rw [Bd.returns] at h; cases h)
  refine ⟨_, _, pre13 _ ?_, hrun, hended, _, _, rfl, ?_, ⟨_, rfl⟩, hW, hsame.mono (by decide) (by decide)⟩
  · exact retOut X12 hx Bd.returns rfl (Or.inr (Or.inr (Or.inr (Or.inr ⟨rfl, rfl, rfl⟩)))) (hb hby d_prog_137_method_8_75) hr
  · show Q30 Z a1 a2 a4 a6 a8 a10 h0 n0 _ T12.heap _
    rw [e12]
    exact ⟨rfl, N0, rfl⟩
def Q0 (Z : State) (h0 : Heap) (n0 : Nat) (v : Option Value) (h : Heap) (L : List Loc) : Prop := v = some (.int (1 : Int32)) ∧ Fr n0 L
set_option maxRecDepth 65536 in
set_option maxHeartbeats 400000000 in
theorem rm0 (l : Launch) (Z : State) (a0 : Array Value) (hw : ∀ d ∈ tables_1, d.before a0 Z = true) (ws : List Jvm.Cond) (x0 : Int32) (x1 : Int64) (x2 : Int64) (w_EQUAL : Addr) (w_NOT_EQUAL : Addr) (w_GREATER : Addr) (w_LESS : Addr) (w_LESS_OR_EQUAL : Addr) (w_GREATER_OR_EQUAL : Addr) (h0 : Heap) (n0 : Nat) (Z0 : n0 ≤ h0.size) (S_w_EQUAL : Sta Z h0 "com/example/latticut/latticut/lang/Comparison" "EQUAL" "Lcom/example/latticut/latticut/lang/Comparison;" (.ref w_EQUAL)) (E_w_EQUAL : Exa Z h0 w_EQUAL "com/example/latticut/latticut/lang/Comparison") (S_w_NOT_EQUAL : Sta Z h0 "com/example/latticut/latticut/lang/Comparison" "NOT_EQUAL" "Lcom/example/latticut/latticut/lang/Comparison;" (.ref w_NOT_EQUAL)) (E_w_NOT_EQUAL : Exa Z h0 w_NOT_EQUAL "com/example/latticut/latticut/lang/Comparison") (S_w_GREATER : Sta Z h0 "com/example/latticut/latticut/lang/Comparison" "GREATER" "Lcom/example/latticut/latticut/lang/Comparison;" (.ref w_GREATER)) (E_w_GREATER : Exa Z h0 w_GREATER "com/example/latticut/latticut/lang/Comparison") (S_w_LESS : Sta Z h0 "com/example/latticut/latticut/lang/Comparison" "LESS" "Lcom/example/latticut/latticut/lang/Comparison;" (.ref w_LESS)) (E_w_LESS : Exa Z h0 w_LESS "com/example/latticut/latticut/lang/Comparison") (S_w_LESS_OR_EQUAL : Sta Z h0 "com/example/latticut/latticut/lang/Comparison" "LESS_OR_EQUAL" "Lcom/example/latticut/latticut/lang/Comparison;" (.ref w_LESS_OR_EQUAL)) (E_w_LESS_OR_EQUAL : Exa Z h0 w_LESS_OR_EQUAL "com/example/latticut/latticut/lang/Comparison") (S_w_GREATER_OR_EQUAL : Sta Z h0 "com/example/latticut/latticut/lang/Comparison" "GREATER_OR_EQUAL" "Lcom/example/latticut/latticut/lang/Comparison;" (.ref w_GREATER_OR_EQUAL)) (E_w_GREATER_OR_EQUAL : Exa Z h0 w_GREATER_OR_EQUAL "com/example/latticut/latticut/lang/Comparison") (F_whenGreater_w_NOT_EQUAL : Fld Z h0 w_NOT_EQUAL "com/example/latticut/latticut/lang/Comparison" "whenGreater" "Z" (.int (1 : Int32))) (F_whenGreater_w_EQUAL : Fld Z h0 w_EQUAL "com/example/latticut/latticut/lang/Comparison" "whenGreater" "Z" (.int (0 : Int32))) (F_whenEqual_w_NOT_EQUAL : Fld Z h0 w_NOT_EQUAL "com/example/latticut/latticut/lang/Comparison" "whenEqual" "Z" (.int (0 : Int32))) (F_whenEqual_w_EQUAL : Fld Z h0 w_EQUAL "com/example/latticut/latticut/lang/Comparison" "whenEqual" "Z" (.int (1 : Int32))) (F_whenLess_w_NOT_EQUAL : Fld Z h0 w_NOT_EQUAL "com/example/latticut/latticut/lang/Comparison" "whenLess" "Z" (.int (1 : Int32))) (F_whenLess_w_EQUAL : Fld Z h0 w_EQUAL "com/example/latticut/latticut/lang/Comparison" "whenLess" "Z" (.int (0 : Int32))) (F_ordinal_w_GREATER : Fld Z h0 w_GREATER "java/lang/Enum" "ordinal" "I" (.int (4 : Int32))) (F_ordinal_w_EQUAL : Fld Z h0 w_EQUAL "java/lang/Enum" "ordinal" "I" (.int (0 : Int32))) (F_ordinal_w_NOT_EQUAL : Fld Z h0 w_NOT_EQUAL "java/lang/Enum" "ordinal" "I" (.int (1 : Int32))) (F_ordinal_w_LESS : Fld Z h0 w_LESS "java/lang/Enum" "ordinal" "I" (.int (2 : Int32))) (F_ordinal_w_LESS_OR_EQUAL : Fld Z h0 w_LESS_OR_EQUAL "java/lang/Enum" "ordinal" "I" (.int (3 : Int32))) (F_whenGreater_w_LESS_OR_EQUAL : Fld Z h0 w_LESS_OR_EQUAL "com/example/latticut/latticut/lang/Comparison" "whenGreater" "Z" (.int (0 : Int32))) (F_whenGreater_w_GREATER : Fld Z h0 w_GREATER "com/example/latticut/latticut/lang/Comparison" "whenGreater" "Z" (.int (1 : Int32))) (F_whenEqual_w_LESS_OR_EQUAL : Fld Z h0 w_LESS_OR_EQUAL "com/example/latticut/latticut/lang/Comparison" "whenEqual" "Z" (.int (1 : Int32))) (F_whenEqual_w_GREATER : Fld Z h0 w_GREATER "com/example/latticut/latticut/lang/Comparison" "whenEqual" "Z" (.int (0 : Int32))) (F_whenLess_w_LESS_OR_EQUAL : Fld Z h0 w_LESS_OR_EQUAL "com/example/latticut/latticut/lang/Comparison" "whenLess" "Z" (.int (1 : Int32))) (F_whenLess_w_GREATER : Fld Z h0 w_GREATER "com/example/latticut/latticut/lang/Comparison" "whenLess" "Z" (.int (0 : Int32))) (F_whenGreater_w_GREATER_OR_EQUAL : Fld Z h0 w_GREATER_OR_EQUAL "com/example/latticut/latticut/lang/Comparison" "whenGreater" "Z" (.int (1 : Int32))) (F_whenGreater_w_LESS : Fld Z h0 w_LESS "com/example/latticut/latticut/lang/Comparison" "whenGreater" "Z" (.int (0 : Int32))) (F_whenEqual_w_GREATER_OR_EQUAL : Fld Z h0 w_GREATER_OR_EQUAL "com/example/latticut/latticut/lang/Comparison" "whenEqual" "Z" (.int (1 : Int32))) (F_whenEqual_w_LESS : Fld Z h0 w_LESS "com/example/latticut/latticut/lang/Comparison" "whenEqual" "Z" (.int (0 : Int32))) (F_whenLess_w_GREATER_OR_EQUAL : Fld Z h0 w_GREATER_OR_EQUAL "com/example/latticut/latticut/lang/Comparison" "whenLess" "Z" (.int (0 : Int32))) (F_whenLess_w_LESS : Fld Z h0 w_LESS "com/example/latticut/latticut/lang/Comparison" "whenLess" "Z" (.int (1 : Int32))) (F_ordinal_w_GREATER_OR_EQUAL : Fld Z h0 w_GREATER_OR_EQUAL "java/lang/Enum" "ordinal" "I" (.int (5 : Int32))) :
    MetFree l x (head1 (Jvm.Cond.code x code maxLocals ret :: ws) room_1) (fun a U => a = #[(.int x0), (.long x1), (.long x2)] ∧ Z.Warmed39 U.vm ∧ U.heap = h0) (fun _ _ _ _ _ => True) (fun _ U o U' => ∃ v L, o = .returned v ∧ Q0 Z h0 n0 v U'.heap L ∧ FrameEnd U o U' L room_1.cells room_1.slots) := by
  refine MetFree.of_bodySF (plainFor_of_name pn_0) hisR ?_
  intro p e s m args below meth c s₁ Bd hml0 hP hK
  obtain ⟨rfl, hZ, hh⟩ := hP
  have hx := Bd.exec
  have hby := Bd.bytes
  have hml : c.maxLocals = 10 := hml0
  have hown : s.vm.findClass "com/example/latticut/latticut/lang/ComparisonNegatedPinLaw" = some m.cls := findClass_of_methodNamed Bd.named
  have hnm := (name_of_methodNamed Bd.named Bd.method).1
  have X0 : Stand p l e room_1 s m #[(.int x0), (.long x1), (.long x2)] below meth c s₁ [] 0 0 := Stand.of_body Bd
  have e0 : s₁.heap = h0 := by rw [← hh, Bd.state]; rfl
  have N0 := Fr.nil n0
  have pre0 : ∀ t, Steps p.tables e below (s₁.setTop (mkF m 0 #[.val (.int x0), .val (.long x1), .second, .val (.long x2), .second, .unset, .unset, .unset, .unset, .unset] [])) t → Steps p.tables e below (s₁.setTop (entryFrame m #[(.int x0), (.long x1), (.long x2)] maxLocals)) t := fun t k => castTop (ef_0 m (x0) (x1) (x2)) k
  have pre59 : ∀ t, Steps p.tables e below (s₁.setTop (mkF m 1 #[.val (.int x0), .val (.long x1), .second, .val (.long x2), .second, .unset, .unset, .unset, .unset, .unset] [(.int x0)])) t → Steps p.tables e below (s₁.setTop (entryFrame m #[(.int x0), (.long x1), (.long x2)] maxLocals)) t := fun t kk => pre0 t (by
    show Steps p.tables e below (s₁.setTop (mkF m 0 #[.val (.int x0), .val (.long x1), .second, .val (.long x2), .second, .unset, .unset, .unset, .unset, .unset] [])) _
    refine XS.iloadN X0.here hx rfl (hb hby at_0) rfl ?_
    exact kk)
  by_cases hc60 : ((x0 &&& (2147483647 : Int32)) % (6 : Int32)) = (0 : Int32)
  ·
    obtain ⟨_, _, ⟨T61, L61, k61, n61⟩, -, X61, ⟨Lc61, hQ61, l61, y61, z61⟩, st61⟩ := Jvm.LawKit.callS X0 hx (y := (⟨"com/example/latticut/latticut/lang/ComparisonNegatedPinLaw", "pick", "(I)Lcom/example/latticut/latticut/lang/Comparison;"⟩ : MethodName)) hown (mvT hZ (hw _ (List.mem_of_getElem? (i := 0) rfl))) (mvT hZ (hw _ (List.mem_of_getElem? (i := 1) rfl))) (mvT hZ (hw _ (List.mem_of_getElem? (i := 2) rfl))) (mvT hZ (hw _ (List.mem_of_getElem? (i := 3) rfl))) (by decide) (backOf (W := 0) (rm1 l Z a0 hw [] x0 w_EQUAL h0 n0 Z0 hc60 S_w_EQUAL) hZ (hw _ (List.mem_of_getElem? (i := 3) rfl)) (hw _ (List.mem_of_getElem? (i := 2) rfl)) (by decide) (by decide)) (g := (mkF m 1 #[.val (.int x0), .val (.long x1), .second, .val (.long x2), .second, .unset, .unset, .unset, .unset, .unset] [(.int x0)])) rfl (by rw [hml]; rfl) (argsL := [(.int x0)]) (rest := []) (lenOf pd_0 rfl) rfl (by show 2 * 0 + _ ≤ _; exact Nat.le_of_eq rfl) (hb hby at_1) (fun _ _ => ⟨rfl, e0, (by decide : 0 + 0 ≤ _), (by decide : 0 + 0 ≤ _)⟩)
    dsimp only [Pt.U, Pt.locs, Pt.cells, Pt.slots] at X61 l61 y61 z61 st61 hQ61
    subst l61 y61 z61
    obtain ⟨rfl, N61q, e61⟩ := hQ61
    have N61 := Fr.app N0 N61q
    obtain ⟨cq62, kq62, q62a, q62b, q62c⟩ := isOf hZ e61 E_w_EQUAL
    obtain ⟨_, _, ⟨T62, L62, k62, n62⟩, -, X62, ⟨Lc62, hQ62, l62, y62, z62⟩, st62⟩ := X61.virtualBack hx (y := (⟨"com/example/latticut/latticut/lang/Comparison", "negated", "()Lcom/example/latticut/latticut/lang/Comparison;"⟩ : MethodName)) (z := (⟨"com/example/latticut/latticut/lang/Comparison", "negated", "()Lcom/example/latticut/latticut/lang/Comparison;"⟩ : MethodName)) hown (mvT hZ (hw _ (List.mem_of_getElem? (i := 8) rfl))) (mvT hZ (hw _ (List.mem_of_getElem? (i := 9) rfl))) (notFace_of_selects (args := #[]) (mvT hZ (hw _ (List.mem_of_getElem? (i := 11) rfl)))) (mvT hZ (hw _ (List.mem_of_getElem? (i := 11) rfl))) (mvT hZ (hw _ (List.mem_of_getElem? (i := 10) rfl))) (by decide) (backOf (W := 0) (rm2 l Z a0 hw [] w_EQUAL w_NOT_EQUAL h0 n0 Z0 S_w_EQUAL S_w_NOT_EQUAL) hZ (hw _ (List.mem_of_getElem? (i := 12) rfl)) (hw _ (List.mem_of_getElem? (i := 6) rfl)) (by decide) (by decide)) q62a q62c (g := (mkF m 8 #[.val (.int x0), .val (.long x1), .second, .val (.long x2), .second, .val (.ref w_EQUAL), .unset, .unset, .unset, .unset] [(.ref w_EQUAL)])) rfl (by rw [hml]; rfl) (Steps.refl _) (argsL := []) (rest := []) (lenOf pd_1 rfl) rfl (by show 2 * 0 + _ ≤ _; exact Nat.le_of_eq rfl) (hb hby at_8) (fun _ _ => ⟨rfl, e61, (by decide : 0 + 0 ≤ _), (by decide : 0 + 0 ≤ _)⟩)
    dsimp only [Pt.U, Pt.locs, Pt.cells, Pt.slots] at X62 l62 y62 z62 st62 hQ62
    subst l62 y62 z62
    obtain ⟨rfl, N62q, e62⟩ := hQ62
    have N62 := Fr.app N61 N62q
    have pre63 : ∀ t, Steps p.tables e below (T62.setTop (mkF m 24 #[.val (.int x0), .val (.long x1), .second, .val (.long x2), .second, .val (.ref w_EQUAL), .val (.ref w_NOT_EQUAL), .unset, .unset, .unset] [(.long x2), (.long x1), (.ref w_NOT_EQUAL)])) t → Steps p.tables e below (s₁.setTop (entryFrame m #[(.int x0), (.long x1), (.long x2)] maxLocals)) t := fun t kk => pre59 t (by
      show Steps p.tables e below (s₁.setTop (mkF m 1 #[.val (.int x0), .val (.long x1), .second, .val (.long x2), .second, .unset, .unset, .unset, .unset, .unset] [(.int x0)])) _
      refine st61 _ ?_
      show Steps p.tables e below (T61.setTop (mkF m 4 #[.val (.int x0), .val (.long x1), .second, .val (.long x2), .second, .unset, .unset, .unset, .unset, .unset] [(.ref w_EQUAL)])) _
      refine XS.astore X61.here hx rfl (hb hby at_4) rfl rfl (l' := #[.val (.int x0), .val (.long x1), .second, .val (.long x2), .second, .val (.ref w_EQUAL), .unset, .unset, .unset, .unset]) rfl ?_
      show Steps p.tables e below (T61.setTop (mkF m 6 #[.val (.int x0), .val (.long x1), .second, .val (.long x2), .second, .val (.ref w_EQUAL), .unset, .unset, .unset, .unset] [])) _
      refine XS.aload X61.here hx rfl (hb hby at_6) rfl rfl ?_
      show Steps p.tables e below (T61.setTop (mkF m 8 #[.val (.int x0), .val (.long x1), .second, .val (.long x2), .second, .val (.ref w_EQUAL), .unset, .unset, .unset, .unset] [(.ref w_EQUAL)])) _
      refine st62.trans ?_
      show Steps p.tables e below (T62.setTop (mkF m 11 #[.val (.int x0), .val (.long x1), .second, .val (.long x2), .second, .val (.ref w_EQUAL), .unset, .unset, .unset, .unset] [(.ref w_NOT_EQUAL)])) _
      refine XS.astore X62.here hx rfl (hb hby at_11) rfl rfl (l' := #[.val (.int x0), .val (.long x1), .second, .val (.long x2), .second, .val (.ref w_EQUAL), .val (.ref w_NOT_EQUAL), .unset, .unset, .unset]) rfl ?_
      show Steps p.tables e below (T62.setTop (mkF m 13 #[.val (.int x0), .val (.long x1), .second, .val (.long x2), .second, .val (.ref w_EQUAL), .val (.ref w_NOT_EQUAL), .unset, .unset, .unset] [])) _
      refine XS.aload X62.here hx rfl (hb hby at_13) rfl rfl ?_
      show Steps p.tables e below (T62.setTop (mkF m 15 #[.val (.int x0), .val (.long x1), .second, .val (.long x2), .second, .val (.ref w_EQUAL), .val (.ref w_NOT_EQUAL), .unset, .unset, .unset] [(.ref w_NOT_EQUAL)])) _
      refine XS.ifnonnullYes X62.here hx rfl (pc0 := 15) (pc' := 20) rfl (hb hby at_15) rfl (by decide) (by decide) ?_
      show Steps p.tables e below (T62.setTop (mkF m 20 #[.val (.int x0), .val (.long x1), .second, .val (.long x2), .second, .val (.ref w_EQUAL), .val (.ref w_NOT_EQUAL), .unset, .unset, .unset] [])) _
      refine XS.aload X62.here hx rfl (hb hby at_20) rfl rfl ?_
      show Steps p.tables e below (T62.setTop (mkF m 22 #[.val (.int x0), .val (.long x1), .second, .val (.long x2), .second, .val (.ref w_EQUAL), .val (.ref w_NOT_EQUAL), .unset, .unset, .unset] [(.ref w_NOT_EQUAL)])) _
      refine XS.lloadN X62.here hx rfl (hb hby at_22) rfl ?_
      show Steps p.tables e below (T62.setTop (mkF m 23 #[.val (.int x0), .val (.long x1), .second, .val (.long x2), .second, .val (.ref w_EQUAL), .val (.ref w_NOT_EQUAL), .unset, .unset, .unset] [(.long x1), (.ref w_NOT_EQUAL)])) _
      refine XS.lloadN X62.here hx rfl (hb hby at_23) rfl ?_
      exact kk)
    by_cases hc64 : (lcmpW x1 x2) < (0 : Int32)
    ·
      obtain ⟨cq65, kq65, q65a, q65b, q65c⟩ := isOf hZ e62 E_w_NOT_EQUAL
      obtain ⟨_, _, ⟨T65, L65, k65, n65⟩, -, X65, ⟨Lc65, hQ65, l65, y65, z65⟩, st65⟩ := X62.virtualBack hx (y := (⟨"com/example/latticut/latticut/lang/Comparison", "test", "(JJ)Z"⟩ : MethodName)) (z := (⟨"com/example/latticut/latticut/lang/Comparison", "test", "(JJ)Z"⟩ : MethodName)) hown (mvT hZ (hw _ (List.mem_of_getElem? (i := 16) rfl))) (mvT hZ (hw _ (List.mem_of_getElem? (i := 17) rfl))) (notFace_of_selects (args := #[]) (mvT hZ (hw _ (List.mem_of_getElem? (i := 19) rfl)))) (mvT hZ (hw _ (List.mem_of_getElem? (i := 19) rfl))) (mvT hZ (hw _ (List.mem_of_getElem? (i := 18) rfl))) (by decide) (backOf (W := 0) (rm5 l Z a0 hw [] w_NOT_EQUAL x1 x2 h0 n0 Z0 hc64 F_whenLess_w_NOT_EQUAL E_w_NOT_EQUAL) hZ (hw _ (List.mem_of_getElem? (i := 20) rfl)) (hw _ (List.mem_of_getElem? (i := 6) rfl)) (by decide) (by decide)) q65a q65c (g := (mkF m 24 #[.val (.int x0), .val (.long x1), .second, .val (.long x2), .second, .val (.ref w_EQUAL), .val (.ref w_NOT_EQUAL), .unset, .unset, .unset] [(.long x2), (.long x1), (.ref w_NOT_EQUAL)])) rfl (by rw [hml]; rfl) (Steps.refl _) (argsL := [(.long x1), (.long x2)]) (rest := []) (lenOf pd_4 rfl) rfl (by show 2 * 0 + _ ≤ _; exact Nat.le_of_eq rfl) (hb hby at_24) (fun _ _ => ⟨rfl, e62, (by decide : 0 + 0 ≤ _), (by decide : 0 + 0 ≤ _)⟩)
      dsimp only [Pt.U, Pt.locs, Pt.cells, Pt.slots] at X65 l65 y65 z65 st65 hQ65
      subst l65 y65 z65
      obtain ⟨rfl, N65q, e65⟩ := hQ65
      have N65 := Fr.app N62 N65q
      obtain ⟨cq66, kq66, q66a, q66b, q66c⟩ := isOf hZ e65 E_w_EQUAL
      obtain ⟨_, _, ⟨T66, L66, k66, n66⟩, -, X66, ⟨Lc66, hQ66, l66, y66, z66⟩, st66⟩ := X65.virtualBack hx (y := (⟨"com/example/latticut/latticut/lang/Comparison", "test", "(JJ)Z"⟩ : MethodName)) (z := (⟨"com/example/latticut/latticut/lang/Comparison", "test", "(JJ)Z"⟩ : MethodName)) hown (mvT hZ (hw _ (List.mem_of_getElem? (i := 16) rfl))) (mvT hZ (hw _ (List.mem_of_getElem? (i := 17) rfl))) (notFace_of_selects (args := #[]) (mvT hZ (hw _ (List.mem_of_getElem? (i := 19) rfl)))) (mvT hZ (hw _ (List.mem_of_getElem? (i := 19) rfl))) (mvT hZ (hw _ (List.mem_of_getElem? (i := 18) rfl))) (by decide) (backOf (W := 1) (rm7 l Z a0 hw [] w_EQUAL x1 x2 h0 n0 Z0 hc64 F_whenLess_w_EQUAL E_w_EQUAL) hZ (hw _ (List.mem_of_getElem? (i := 20) rfl)) (hw _ (List.mem_of_getElem? (i := 6) rfl)) (by decide) (by decide)) q66a q66c (g := (mkF m 31 #[.val (.int x0), .val (.long x1), .second, .val (.long x2), .second, .val (.ref w_EQUAL), .val (.ref w_NOT_EQUAL), .unset, .unset, .unset] [(.long x2), (.long x1), (.ref w_EQUAL), (.int (1 : Int32))])) rfl (by rw [hml]; rfl) (Steps.refl _) (argsL := [(.long x1), (.long x2)]) (rest := [(.int (1 : Int32))]) (lenOf pd_4 rfl) rfl (by show 2 * 0 + _ ≤ _; exact Nat.le_of_eq rfl) (hb hby at_31) (fun _ _ => ⟨rfl, e65, (by decide : 0 + 0 ≤ _), (by decide : 0 + 0 ≤ _)⟩)
      dsimp only [Pt.U, Pt.locs, Pt.cells, Pt.slots] at X66 l66 y66 z66 st66 hQ66
      subst l66 y66 z66
      obtain ⟨rfl, N66q, e66⟩ := hQ66
      have N66 := Fr.app N65 N66q
      obtain ⟨cq67, kq67, q67a, q67b, q67c⟩ := isOf hZ e66 E_w_NOT_EQUAL
      obtain ⟨_, _, ⟨T67, L67, k67, n67⟩, -, X67, ⟨Lc67, hQ67, l67, y67, z67⟩, st67⟩ := X66.virtualBack hx (y := (⟨"com/example/latticut/latticut/lang/Comparison", "test", "(JJ)Z"⟩ : MethodName)) (z := (⟨"com/example/latticut/latticut/lang/Comparison", "test", "(JJ)Z"⟩ : MethodName)) hown (mvT hZ (hw _ (List.mem_of_getElem? (i := 16) rfl))) (mvT hZ (hw _ (List.mem_of_getElem? (i := 17) rfl))) (notFace_of_selects (args := #[]) (mvT hZ (hw _ (List.mem_of_getElem? (i := 19) rfl)))) (mvT hZ (hw _ (List.mem_of_getElem? (i := 19) rfl))) (mvT hZ (hw _ (List.mem_of_getElem? (i := 18) rfl))) (by decide) (backOf (W := 0) (rm10 l Z a0 hw [] w_NOT_EQUAL x1 h0 n0 Z0 ((own_ar0 x1 x2 hc64)) ((own_ar1 x1 x2 hc64)) F_whenEqual_w_NOT_EQUAL E_w_NOT_EQUAL) hZ (hw _ (List.mem_of_getElem? (i := 20) rfl)) (hw _ (List.mem_of_getElem? (i := 6) rfl)) (by decide) (by decide)) q67a q67c (g := (mkF m 48 #[.val (.int x0), .val (.long x1), .second, .val (.long x2), .second, .val (.ref w_EQUAL), .val (.ref w_NOT_EQUAL), .val (.int (1 : Int32)), .unset, .unset] [(.long x1), (.long x1), (.ref w_NOT_EQUAL)])) rfl (by rw [hml]; rfl) (Steps.refl _) (argsL := [(.long x1), (.long x1)]) (rest := []) (lenOf pd_4 rfl) rfl (by show 2 * 0 + _ ≤ _; exact Nat.le_of_eq rfl) (hb hby at_48) (fun _ _ => ⟨rfl, e66, (by decide : 0 + 0 ≤ _), (by decide : 0 + 0 ≤ _)⟩)
      dsimp only [Pt.U, Pt.locs, Pt.cells, Pt.slots] at X67 l67 y67 z67 st67 hQ67
      subst l67 y67 z67
      obtain ⟨rfl, N67q, e67⟩ := hQ67
      have N67 := Fr.app N66 N67q
      obtain ⟨cq68, kq68, q68a, q68b, q68c⟩ := isOf hZ e67 E_w_EQUAL
      obtain ⟨_, _, ⟨T68, L68, k68, n68⟩, -, X68, ⟨Lc68, hQ68, l68, y68, z68⟩, st68⟩ := X67.virtualBack hx (y := (⟨"com/example/latticut/latticut/lang/Comparison", "test", "(JJ)Z"⟩ : MethodName)) (z := (⟨"com/example/latticut/latticut/lang/Comparison", "test", "(JJ)Z"⟩ : MethodName)) hown (mvT hZ (hw _ (List.mem_of_getElem? (i := 16) rfl))) (mvT hZ (hw _ (List.mem_of_getElem? (i := 17) rfl))) (notFace_of_selects (args := #[]) (mvT hZ (hw _ (List.mem_of_getElem? (i := 19) rfl)))) (mvT hZ (hw _ (List.mem_of_getElem? (i := 19) rfl))) (mvT hZ (hw _ (List.mem_of_getElem? (i := 18) rfl))) (by decide) (backOf (W := 1) (rm12 l Z a0 hw [] w_EQUAL x1 h0 n0 Z0 ((own_ar0 x1 x2 hc64)) ((own_ar1 x1 x2 hc64)) F_whenEqual_w_EQUAL E_w_EQUAL) hZ (hw _ (List.mem_of_getElem? (i := 20) rfl)) (hw _ (List.mem_of_getElem? (i := 6) rfl)) (by decide) (by decide)) q68a q68c (g := (mkF m 55 #[.val (.int x0), .val (.long x1), .second, .val (.long x2), .second, .val (.ref w_EQUAL), .val (.ref w_NOT_EQUAL), .val (.int (1 : Int32)), .unset, .unset] [(.long x1), (.long x1), (.ref w_EQUAL), (.int (0 : Int32))])) rfl (by rw [hml]; rfl) (Steps.refl _) (argsL := [(.long x1), (.long x1)]) (rest := [(.int (0 : Int32))]) (lenOf pd_4 rfl) rfl (by show 2 * 0 + _ ≤ _; exact Nat.le_of_eq rfl) (hb hby at_55) (fun _ _ => ⟨rfl, e67, (by decide : 0 + 0 ≤ _), (by decide : 0 + 0 ≤ _)⟩)
      dsimp only [Pt.U, Pt.locs, Pt.cells, Pt.slots] at X68 l68 y68 z68 st68 hQ68
      subst l68 y68 z68
      obtain ⟨rfl, N68q, e68⟩ := hQ68
      have N68 := Fr.app N67 N68q
      obtain ⟨cq69, kq69, q69a, q69b, q69c⟩ := isOf hZ e68 E_w_NOT_EQUAL
      obtain ⟨_, _, ⟨T69, L69, k69, n69⟩, -, X69, ⟨Lc69, hQ69, l69, y69, z69⟩, st69⟩ := X68.virtualBack hx (y := (⟨"com/example/latticut/latticut/lang/Comparison", "test", "(JJ)Z"⟩ : MethodName)) (z := (⟨"com/example/latticut/latticut/lang/Comparison", "test", "(JJ)Z"⟩ : MethodName)) hown (mvT hZ (hw _ (List.mem_of_getElem? (i := 16) rfl))) (mvT hZ (hw _ (List.mem_of_getElem? (i := 17) rfl))) (notFace_of_selects (args := #[]) (mvT hZ (hw _ (List.mem_of_getElem? (i := 19) rfl)))) (mvT hZ (hw _ (List.mem_of_getElem? (i := 19) rfl))) (mvT hZ (hw _ (List.mem_of_getElem? (i := 18) rfl))) (by decide) (backOf (W := 0) (rm15 l Z a0 hw [] w_NOT_EQUAL x2 x1 h0 n0 Z0 ((own_ar2 x1 x2 hc64)) ((own_ar3 x1 x2 hc64)) F_whenGreater_w_NOT_EQUAL E_w_NOT_EQUAL) hZ (hw _ (List.mem_of_getElem? (i := 20) rfl)) (hw _ (List.mem_of_getElem? (i := 6) rfl)) (by decide) (by decide)) q69a q69c (g := (mkF m 72 #[.val (.int x0), .val (.long x1), .second, .val (.long x2), .second, .val (.ref w_EQUAL), .val (.ref w_NOT_EQUAL), .val (.int (1 : Int32)), .val (.int (1 : Int32)), .unset] [(.long x1), (.long x2), (.ref w_NOT_EQUAL)])) rfl (by rw [hml]; rfl) (Steps.refl _) (argsL := [(.long x2), (.long x1)]) (rest := []) (lenOf pd_4 rfl) rfl (by show 2 * 0 + _ ≤ _; exact Nat.le_of_eq rfl) (hb hby at_72) (fun _ _ => ⟨rfl, e68, (by decide : 0 + 0 ≤ _), (by decide : 0 + 0 ≤ _)⟩)
      dsimp only [Pt.U, Pt.locs, Pt.cells, Pt.slots] at X69 l69 y69 z69 st69 hQ69
      subst l69 y69 z69
      obtain ⟨rfl, N69q, e69⟩ := hQ69
      have N69 := Fr.app N68 N69q
      obtain ⟨cq70, kq70, q70a, q70b, q70c⟩ := isOf hZ e69 E_w_EQUAL
      obtain ⟨_, _, ⟨T70, L70, k70, n70⟩, -, X70, ⟨Lc70, hQ70, l70, y70, z70⟩, st70⟩ := X69.virtualBack hx (y := (⟨"com/example/latticut/latticut/lang/Comparison", "test", "(JJ)Z"⟩ : MethodName)) (z := (⟨"com/example/latticut/latticut/lang/Comparison", "test", "(JJ)Z"⟩ : MethodName)) hown (mvT hZ (hw _ (List.mem_of_getElem? (i := 16) rfl))) (mvT hZ (hw _ (List.mem_of_getElem? (i := 17) rfl))) (notFace_of_selects (args := #[]) (mvT hZ (hw _ (List.mem_of_getElem? (i := 19) rfl)))) (mvT hZ (hw _ (List.mem_of_getElem? (i := 19) rfl))) (mvT hZ (hw _ (List.mem_of_getElem? (i := 18) rfl))) (by decide) (backOf (W := 1) (rm17 l Z a0 hw [] w_EQUAL x2 x1 h0 n0 Z0 ((own_ar2 x1 x2 hc64)) ((own_ar3 x1 x2 hc64)) F_whenGreater_w_EQUAL E_w_EQUAL) hZ (hw _ (List.mem_of_getElem? (i := 20) rfl)) (hw _ (List.mem_of_getElem? (i := 6) rfl)) (by decide) (by decide)) q70a q70c (g := (mkF m 79 #[.val (.int x0), .val (.long x1), .second, .val (.long x2), .second, .val (.ref w_EQUAL), .val (.ref w_NOT_EQUAL), .val (.int (1 : Int32)), .val (.int (1 : Int32)), .unset] [(.long x1), (.long x2), (.ref w_EQUAL), (.int (1 : Int32))])) rfl (by rw [hml]; rfl) (Steps.refl _) (argsL := [(.long x2), (.long x1)]) (rest := [(.int (1 : Int32))]) (lenOf pd_4 rfl) rfl (by show 2 * 0 + _ ≤ _; exact Nat.le_of_eq rfl) (hb hby at_79) (fun _ _ => ⟨rfl, e69, (by decide : 0 + 0 ≤ _), (by decide : 0 + 0 ≤ _)⟩)
      dsimp only [Pt.U, Pt.locs, Pt.cells, Pt.slots] at X70 l70 y70 z70 st70 hQ70
      subst l70 y70 z70
      obtain ⟨rfl, N70q, e70⟩ := hQ70
      have N70 := Fr.app N69 N70q
      have pre71 : ∀ t, Steps p.tables e below (T70.setTop (mkF m 112 #[.val (.int x0), .val (.long x1), .second, .val (.long x2), .second, .val (.ref w_EQUAL), .val (.ref w_NOT_EQUAL), .val (.int (1 : Int32)), .val (.int (1 : Int32)), .val (.int (1 : Int32))] [(.int (1 : Int32))])) t → Steps p.tables e below (s₁.setTop (entryFrame m #[(.int x0), (.long x1), (.long x2)] maxLocals)) t := fun t kk => pre63 t (by
        show Steps p.tables e below (T62.setTop (mkF m 24 #[.val (.int x0), .val (.long x1), .second, .val (.long x2), .second, .val (.ref w_EQUAL), .val (.ref w_NOT_EQUAL), .unset, .unset, .unset] [(.long x2), (.long x1), (.ref w_NOT_EQUAL)])) _
        refine st65.trans ?_
        show Steps p.tables e below (T65.setTop (mkF m 27 #[.val (.int x0), .val (.long x1), .second, .val (.long x2), .second, .val (.ref w_EQUAL), .val (.ref w_NOT_EQUAL), .unset, .unset, .unset] [(.int (1 : Int32))])) _
        refine XS.aload X65.here hx rfl (hb hby at_27) rfl rfl ?_
        show Steps p.tables e below (T65.setTop (mkF m 29 #[.val (.int x0), .val (.long x1), .second, .val (.long x2), .second, .val (.ref w_EQUAL), .val (.ref w_NOT_EQUAL), .unset, .unset, .unset] [(.ref w_EQUAL), (.int (1 : Int32))])) _
        refine XS.lloadN X65.here hx rfl (hb hby at_29) rfl ?_
        show Steps p.tables e below (T65.setTop (mkF m 30 #[.val (.int x0), .val (.long x1), .second, .val (.long x2), .second, .val (.ref w_EQUAL), .val (.ref w_NOT_EQUAL), .unset, .unset, .unset] [(.long x1), (.ref w_EQUAL), (.int (1 : Int32))])) _
        refine XS.lloadN X65.here hx rfl (hb hby at_30) rfl ?_
        show Steps p.tables e below (T65.setTop (mkF m 31 #[.val (.int x0), .val (.long x1), .second, .val (.long x2), .second, .val (.ref w_EQUAL), .val (.ref w_NOT_EQUAL), .unset, .unset, .unset] [(.long x2), (.long x1), (.ref w_EQUAL), (.int (1 : Int32))])) _
        refine st66.trans ?_
        show Steps p.tables e below (T66.setTop (mkF m 34 #[.val (.int x0), .val (.long x1), .second, .val (.long x2), .second, .val (.ref w_EQUAL), .val (.ref w_NOT_EQUAL), .unset, .unset, .unset] [(.int (0 : Int32)), (.int (1 : Int32))])) _
        refine XS.icmpNo X66.here hx rfl (hb hby at_34) rfl (feq ((by decide) : ¬ ((1 : Int32) = (0 : Int32)))).1 ?_
        show Steps p.tables e below (T66.setTop (mkF m 37 #[.val (.int x0), .val (.long x1), .second, .val (.long x2), .second, .val (.ref w_EQUAL), .val (.ref w_NOT_EQUAL), .unset, .unset, .unset] [])) _
        refine XS.iconst X66.here hx rfl (hb hby at_37) ?_
        show Steps p.tables e below (T66.setTop (mkF m 38 #[.val (.int x0), .val (.long x1), .second, .val (.long x2), .second, .val (.ref w_EQUAL), .val (.ref w_NOT_EQUAL), .unset, .unset, .unset] [(.int (1 : Int32))])) _
        refine XS.goto X66.here hx rfl (pc0 := 38) (pc' := 42) rfl (hb hby at_38) (by decide) (by decide) ?_
        show Steps p.tables e below (T66.setTop (mkF m 42 #[.val (.int x0), .val (.long x1), .second, .val (.long x2), .second, .val (.ref w_EQUAL), .val (.ref w_NOT_EQUAL), .unset, .unset, .unset] [(.int (1 : Int32))])) _
        refine XS.istore X66.here hx rfl (hb hby at_42) rfl (l' := #[.val (.int x0), .val (.long x1), .second, .val (.long x2), .second, .val (.ref w_EQUAL), .val (.ref w_NOT_EQUAL), .val (.int (1 : Int32)), .unset, .unset]) rfl ?_
        show Steps p.tables e below (T66.setTop (mkF m 44 #[.val (.int x0), .val (.long x1), .second, .val (.long x2), .second, .val (.ref w_EQUAL), .val (.ref w_NOT_EQUAL), .val (.int (1 : Int32)), .unset, .unset] [])) _
        refine XS.aload X66.here hx rfl (hb hby at_44) rfl rfl ?_
        show Steps p.tables e below (T66.setTop (mkF m 46 #[.val (.int x0), .val (.long x1), .second, .val (.long x2), .second, .val (.ref w_EQUAL), .val (.ref w_NOT_EQUAL), .val (.int (1 : Int32)), .unset, .unset] [(.ref w_NOT_EQUAL)])) _
        refine XS.lloadN X66.here hx rfl (hb hby at_46) rfl ?_
        show Steps p.tables e below (T66.setTop (mkF m 47 #[.val (.int x0), .val (.long x1), .second, .val (.long x2), .second, .val (.ref w_EQUAL), .val (.ref w_NOT_EQUAL), .val (.int (1 : Int32)), .unset, .unset] [(.long x1), (.ref w_NOT_EQUAL)])) _
        refine XS.lloadN X66.here hx rfl (hb hby at_47) rfl ?_
        show Steps p.tables e below (T66.setTop (mkF m 48 #[.val (.int x0), .val (.long x1), .second, .val (.long x2), .second, .val (.ref w_EQUAL), .val (.ref w_NOT_EQUAL), .val (.int (1 : Int32)), .unset, .unset] [(.long x1), (.long x1), (.ref w_NOT_EQUAL)])) _
        refine st67.trans ?_
        show Steps p.tables e below (T67.setTop (mkF m 51 #[.val (.int x0), .val (.long x1), .second, .val (.long x2), .second, .val (.ref w_EQUAL), .val (.ref w_NOT_EQUAL), .val (.int (1 : Int32)), .unset, .unset] [(.int (0 : Int32))])) _
        refine XS.aload X67.here hx rfl (hb hby at_51) rfl rfl ?_
        show Steps p.tables e below (T67.setTop (mkF m 53 #[.val (.int x0), .val (.long x1), .second, .val (.long x2), .second, .val (.ref w_EQUAL), .val (.ref w_NOT_EQUAL), .val (.int (1 : Int32)), .unset, .unset] [(.ref w_EQUAL), (.int (0 : Int32))])) _
        refine XS.lloadN X67.here hx rfl (hb hby at_53) rfl ?_
        show Steps p.tables e below (T67.setTop (mkF m 54 #[.val (.int x0), .val (.long x1), .second, .val (.long x2), .second, .val (.ref w_EQUAL), .val (.ref w_NOT_EQUAL), .val (.int (1 : Int32)), .unset, .unset] [(.long x1), (.ref w_EQUAL), (.int (0 : Int32))])) _
        refine XS.lloadN X67.here hx rfl (hb hby at_54) rfl ?_
        show Steps p.tables e below (T67.setTop (mkF m 55 #[.val (.int x0), .val (.long x1), .second, .val (.long x2), .second, .val (.ref w_EQUAL), .val (.ref w_NOT_EQUAL), .val (.int (1 : Int32)), .unset, .unset] [(.long x1), (.long x1), (.ref w_EQUAL), (.int (0 : Int32))])) _
        refine st68.trans ?_
        show Steps p.tables e below (T68.setTop (mkF m 58 #[.val (.int x0), .val (.long x1), .second, .val (.long x2), .second, .val (.ref w_EQUAL), .val (.ref w_NOT_EQUAL), .val (.int (1 : Int32)), .unset, .unset] [(.int (1 : Int32)), (.int (0 : Int32))])) _
        refine XS.icmpNo X68.here hx rfl (hb hby at_58) rfl (feq ((by decide) : ¬ ((0 : Int32) = (1 : Int32)))).1 ?_
        show Steps p.tables e below (T68.setTop (mkF m 61 #[.val (.int x0), .val (.long x1), .second, .val (.long x2), .second, .val (.ref w_EQUAL), .val (.ref w_NOT_EQUAL), .val (.int (1 : Int32)), .unset, .unset] [])) _
        refine XS.iconst X68.here hx rfl (hb hby at_61) ?_
        show Steps p.tables e below (T68.setTop (mkF m 62 #[.val (.int x0), .val (.long x1), .second, .val (.long x2), .second, .val (.ref w_EQUAL), .val (.ref w_NOT_EQUAL), .val (.int (1 : Int32)), .unset, .unset] [(.int (1 : Int32))])) _
        refine XS.goto X68.here hx rfl (pc0 := 62) (pc' := 66) rfl (hb hby at_62) (by decide) (by decide) ?_
        show Steps p.tables e below (T68.setTop (mkF m 66 #[.val (.int x0), .val (.long x1), .second, .val (.long x2), .second, .val (.ref w_EQUAL), .val (.ref w_NOT_EQUAL), .val (.int (1 : Int32)), .unset, .unset] [(.int (1 : Int32))])) _
        refine XS.istore X68.here hx rfl (hb hby at_66) rfl (l' := #[.val (.int x0), .val (.long x1), .second, .val (.long x2), .second, .val (.ref w_EQUAL), .val (.ref w_NOT_EQUAL), .val (.int (1 : Int32)), .val (.int (1 : Int32)), .unset]) rfl ?_
        show Steps p.tables e below (T68.setTop (mkF m 68 #[.val (.int x0), .val (.long x1), .second, .val (.long x2), .second, .val (.ref w_EQUAL), .val (.ref w_NOT_EQUAL), .val (.int (1 : Int32)), .val (.int (1 : Int32)), .unset] [])) _
        refine XS.aload X68.here hx rfl (hb hby at_68) rfl rfl ?_
        show Steps p.tables e below (T68.setTop (mkF m 70 #[.val (.int x0), .val (.long x1), .second, .val (.long x2), .second, .val (.ref w_EQUAL), .val (.ref w_NOT_EQUAL), .val (.int (1 : Int32)), .val (.int (1 : Int32)), .unset] [(.ref w_NOT_EQUAL)])) _
        refine XS.lloadN X68.here hx rfl (hb hby at_70) rfl ?_
        show Steps p.tables e below (T68.setTop (mkF m 71 #[.val (.int x0), .val (.long x1), .second, .val (.long x2), .second, .val (.ref w_EQUAL), .val (.ref w_NOT_EQUAL), .val (.int (1 : Int32)), .val (.int (1 : Int32)), .unset] [(.long x2), (.ref w_NOT_EQUAL)])) _
        refine XS.lloadN X68.here hx rfl (hb hby at_71) rfl ?_
        show Steps p.tables e below (T68.setTop (mkF m 72 #[.val (.int x0), .val (.long x1), .second, .val (.long x2), .second, .val (.ref w_EQUAL), .val (.ref w_NOT_EQUAL), .val (.int (1 : Int32)), .val (.int (1 : Int32)), .unset] [(.long x1), (.long x2), (.ref w_NOT_EQUAL)])) _
        refine st69.trans ?_
        show Steps p.tables e below (T69.setTop (mkF m 75 #[.val (.int x0), .val (.long x1), .second, .val (.long x2), .second, .val (.ref w_EQUAL), .val (.ref w_NOT_EQUAL), .val (.int (1 : Int32)), .val (.int (1 : Int32)), .unset] [(.int (1 : Int32))])) _
        refine XS.aload X69.here hx rfl (hb hby at_75) rfl rfl ?_
        show Steps p.tables e below (T69.setTop (mkF m 77 #[.val (.int x0), .val (.long x1), .second, .val (.long x2), .second, .val (.ref w_EQUAL), .val (.ref w_NOT_EQUAL), .val (.int (1 : Int32)), .val (.int (1 : Int32)), .unset] [(.ref w_EQUAL), (.int (1 : Int32))])) _
        refine XS.lloadN X69.here hx rfl (hb hby at_77) rfl ?_
        show Steps p.tables e below (T69.setTop (mkF m 78 #[.val (.int x0), .val (.long x1), .second, .val (.long x2), .second, .val (.ref w_EQUAL), .val (.ref w_NOT_EQUAL), .val (.int (1 : Int32)), .val (.int (1 : Int32)), .unset] [(.long x2), (.ref w_EQUAL), (.int (1 : Int32))])) _
        refine XS.lloadN X69.here hx rfl (hb hby at_78) rfl ?_
        show Steps p.tables e below (T69.setTop (mkF m 79 #[.val (.int x0), .val (.long x1), .second, .val (.long x2), .second, .val (.ref w_EQUAL), .val (.ref w_NOT_EQUAL), .val (.int (1 : Int32)), .val (.int (1 : Int32)), .unset] [(.long x1), (.long x2), (.ref w_EQUAL), (.int (1 : Int32))])) _
        refine st70.trans ?_
        show Steps p.tables e below (T70.setTop (mkF m 82 #[.val (.int x0), .val (.long x1), .second, .val (.long x2), .second, .val (.ref w_EQUAL), .val (.ref w_NOT_EQUAL), .val (.int (1 : Int32)), .val (.int (1 : Int32)), .unset] [(.int (0 : Int32)), (.int (1 : Int32))])) _
        refine XS.icmpNo X70.here hx rfl (hb hby at_82) rfl (feq ((by decide) : ¬ ((1 : Int32) = (0 : Int32)))).1 ?_
        show Steps p.tables e below (T70.setTop (mkF m 85 #[.val (.int x0), .val (.long x1), .second, .val (.long x2), .second, .val (.ref w_EQUAL), .val (.ref w_NOT_EQUAL), .val (.int (1 : Int32)), .val (.int (1 : Int32)), .unset] [])) _
        refine XS.iconst X70.here hx rfl (hb hby at_85) ?_
        show Steps p.tables e below (T70.setTop (mkF m 86 #[.val (.int x0), .val (.long x1), .second, .val (.long x2), .second, .val (.ref w_EQUAL), .val (.ref w_NOT_EQUAL), .val (.int (1 : Int32)), .val (.int (1 : Int32)), .unset] [(.int (1 : Int32))])) _
        refine XS.goto X70.here hx rfl (pc0 := 86) (pc' := 90) rfl (hb hby at_86) (by decide) (by decide) ?_
        show Steps p.tables e below (T70.setTop (mkF m 90 #[.val (.int x0), .val (.long x1), .second, .val (.long x2), .second, .val (.ref w_EQUAL), .val (.ref w_NOT_EQUAL), .val (.int (1 : Int32)), .val (.int (1 : Int32)), .unset] [(.int (1 : Int32))])) _
        refine XS.istore X70.here hx rfl (hb hby at_90) rfl (l' := #[.val (.int x0), .val (.long x1), .second, .val (.long x2), .second, .val (.ref w_EQUAL), .val (.ref w_NOT_EQUAL), .val (.int (1 : Int32)), .val (.int (1 : Int32)), .val (.int (1 : Int32))]) rfl ?_
        show Steps p.tables e below (T70.setTop (mkF m 92 #[.val (.int x0), .val (.long x1), .second, .val (.long x2), .second, .val (.ref w_EQUAL), .val (.ref w_NOT_EQUAL), .val (.int (1 : Int32)), .val (.int (1 : Int32)), .val (.int (1 : Int32))] [])) _
        refine XS.iload X70.here hx rfl (hb hby at_92) rfl ?_
        show Steps p.tables e below (T70.setTop (mkF m 94 #[.val (.int x0), .val (.long x1), .second, .val (.long x2), .second, .val (.ref w_EQUAL), .val (.ref w_NOT_EQUAL), .val (.int (1 : Int32)), .val (.int (1 : Int32)), .val (.int (1 : Int32))] [(.int (1 : Int32))])) _
        refine XS.ifNo X70.here hx rfl (hb hby at_94) rfl ((if0 _ _).trans (feq ((by decide) : ¬ ((1 : Int32) = (0 : Int32)))).1) ?_
        show Steps p.tables e below (T70.setTop (mkF m 97 #[.val (.int x0), .val (.long x1), .second, .val (.long x2), .second, .val (.ref w_EQUAL), .val (.ref w_NOT_EQUAL), .val (.int (1 : Int32)), .val (.int (1 : Int32)), .val (.int (1 : Int32))] [])) _
        refine XS.iload X70.here hx rfl (hb hby at_97) rfl ?_
        show Steps p.tables e below (T70.setTop (mkF m 99 #[.val (.int x0), .val (.long x1), .second, .val (.long x2), .second, .val (.ref w_EQUAL), .val (.ref w_NOT_EQUAL), .val (.int (1 : Int32)), .val (.int (1 : Int32)), .val (.int (1 : Int32))] [(.int (1 : Int32))])) _
        refine XS.ifNo X70.here hx rfl (hb hby at_99) rfl ((if0 _ _).trans (feq ((by decide) : ¬ ((1 : Int32) = (0 : Int32)))).1) ?_
        show Steps p.tables e below (T70.setTop (mkF m 102 #[.val (.int x0), .val (.long x1), .second, .val (.long x2), .second, .val (.ref w_EQUAL), .val (.ref w_NOT_EQUAL), .val (.int (1 : Int32)), .val (.int (1 : Int32)), .val (.int (1 : Int32))] [])) _
        refine XS.iload X70.here hx rfl (hb hby at_102) rfl ?_
        show Steps p.tables e below (T70.setTop (mkF m 104 #[.val (.int x0), .val (.long x1), .second, .val (.long x2), .second, .val (.ref w_EQUAL), .val (.ref w_NOT_EQUAL), .val (.int (1 : Int32)), .val (.int (1 : Int32)), .val (.int (1 : Int32))] [(.int (1 : Int32))])) _
        refine XS.ifNo X70.here hx rfl (hb hby at_104) rfl ((if0 _ _).trans (feq ((by decide) : ¬ ((1 : Int32) = (0 : Int32)))).1) ?_
        show Steps p.tables e below (T70.setTop (mkF m 107 #[.val (.int x0), .val (.long x1), .second, .val (.long x2), .second, .val (.ref w_EQUAL), .val (.ref w_NOT_EQUAL), .val (.int (1 : Int32)), .val (.int (1 : Int32)), .val (.int (1 : Int32))] [])) _
        refine XS.iconst X70.here hx rfl (hb hby at_107) ?_
        show Steps p.tables e below (T70.setTop (mkF m 108 #[.val (.int x0), .val (.long x1), .second, .val (.long x2), .second, .val (.ref w_EQUAL), .val (.ref w_NOT_EQUAL), .val (.int (1 : Int32)), .val (.int (1 : Int32)), .val (.int (1 : Int32))] [(.int (1 : Int32))])) _
        refine XS.goto X70.here hx rfl (pc0 := 108) (pc' := 112) rfl (hb hby at_108) (by decide) (by decide) ?_
        exact kk)
      obtain ⟨fs, hr, hrun, hended, hW, hsame⟩ := X70.leave (v := some (.int (1 : Int32))) (fun h => by rw [Bd.returns] at h; cases h)
      refine ⟨_, _, pre71 _ ?_, hrun, hended, _, _, rfl, ?_, ⟨_, rfl⟩, hW, hsame.mono (by decide) (by decide)⟩
      · exact retN X70 hx (t := .boolean) Bd.returns (by simp) (hb hby at_112) hr
      · exact ⟨rfl, N70⟩
    ·
      by_cases hc72 : (lcmpW x1 x2) = (0 : Int32)
      ·
        obtain ⟨cq73, kq73, q73a, q73b, q73c⟩ := isOf hZ e62 E_w_NOT_EQUAL
        obtain ⟨_, _, ⟨T73, L73, k73, n73⟩, -, X73, ⟨Lc73, hQ73, l73, y73, z73⟩, st73⟩ := X62.virtualBack hx (y := (⟨"com/example/latticut/latticut/lang/Comparison", "test", "(JJ)Z"⟩ : MethodName)) (z := (⟨"com/example/latticut/latticut/lang/Comparison", "test", "(JJ)Z"⟩ : MethodName)) hown (mvT hZ (hw _ (List.mem_of_getElem? (i := 16) rfl))) (mvT hZ (hw _ (List.mem_of_getElem? (i := 17) rfl))) (notFace_of_selects (args := #[]) (mvT hZ (hw _ (List.mem_of_getElem? (i := 19) rfl)))) (mvT hZ (hw _ (List.mem_of_getElem? (i := 19) rfl))) (mvT hZ (hw _ (List.mem_of_getElem? (i := 18) rfl))) (by decide) (backOf (W := 0) (rm19 l Z a0 hw [] w_NOT_EQUAL x1 x2 h0 n0 Z0 hc64 hc72 F_whenEqual_w_NOT_EQUAL E_w_NOT_EQUAL) hZ (hw _ (List.mem_of_getElem? (i := 20) rfl)) (hw _ (List.mem_of_getElem? (i := 6) rfl)) (by decide) (by decide)) q73a q73c (g := (mkF m 24 #[.val (.int x0), .val (.long x1), .second, .val (.long x2), .second, .val (.ref w_EQUAL), .val (.ref w_NOT_EQUAL), .unset, .unset, .unset] [(.long x2), (.long x1), (.ref w_NOT_EQUAL)])) rfl (by rw [hml]; rfl) (Steps.refl _) (argsL := [(.long x1), (.long x2)]) (rest := []) (lenOf pd_4 rfl) rfl (by show 2 * 0 + _ ≤ _; exact Nat.le_of_eq rfl) (hb hby at_24) (fun _ _ => ⟨rfl, e62, (by decide : 0 + 0 ≤ _), (by decide : 0 + 0 ≤ _)⟩)
        dsimp only [Pt.U, Pt.locs, Pt.cells, Pt.slots] at X73 l73 y73 z73 st73 hQ73
        subst l73 y73 z73
        obtain ⟨rfl, N73q, e73⟩ := hQ73
        have N73 := Fr.app N62 N73q
        obtain ⟨cq74, kq74, q74a, q74b, q74c⟩ := isOf hZ e73 E_w_EQUAL
        obtain ⟨_, _, ⟨T74, L74, k74, n74⟩, -, X74, ⟨Lc74, hQ74, l74, y74, z74⟩, st74⟩ := X73.virtualBack hx (y := (⟨"com/example/latticut/latticut/lang/Comparison", "test", "(JJ)Z"⟩ : MethodName)) (z := (⟨"com/example/latticut/latticut/lang/Comparison", "test", "(JJ)Z"⟩ : MethodName)) hown (mvT hZ (hw _ (List.mem_of_getElem? (i := 16) rfl))) (mvT hZ (hw _ (List.mem_of_getElem? (i := 17) rfl))) (notFace_of_selects (args := #[]) (mvT hZ (hw _ (List.mem_of_getElem? (i := 19) rfl)))) (mvT hZ (hw _ (List.mem_of_getElem? (i := 19) rfl))) (mvT hZ (hw _ (List.mem_of_getElem? (i := 18) rfl))) (by decide) (backOf (W := 1) (rm20 l Z a0 hw [] w_EQUAL x1 x2 h0 n0 Z0 hc64 hc72 F_whenEqual_w_EQUAL E_w_EQUAL) hZ (hw _ (List.mem_of_getElem? (i := 20) rfl)) (hw _ (List.mem_of_getElem? (i := 6) rfl)) (by decide) (by decide)) q74a q74c (g := (mkF m 31 #[.val (.int x0), .val (.long x1), .second, .val (.long x2), .second, .val (.ref w_EQUAL), .val (.ref w_NOT_EQUAL), .unset, .unset, .unset] [(.long x2), (.long x1), (.ref w_EQUAL), (.int (0 : Int32))])) rfl (by rw [hml]; rfl) (Steps.refl _) (argsL := [(.long x1), (.long x2)]) (rest := [(.int (0 : Int32))]) (lenOf pd_4 rfl) rfl (by show 2 * 0 + _ ≤ _; exact Nat.le_of_eq rfl) (hb hby at_31) (fun _ _ => ⟨rfl, e73, (by decide : 0 + 0 ≤ _), (by decide : 0 + 0 ≤ _)⟩)
        dsimp only [Pt.U, Pt.locs, Pt.cells, Pt.slots] at X74 l74 y74 z74 st74 hQ74
        subst l74 y74 z74
        obtain ⟨rfl, N74q, e74⟩ := hQ74
        have N74 := Fr.app N73 N74q
        obtain ⟨cq75, kq75, q75a, q75b, q75c⟩ := isOf hZ e74 E_w_NOT_EQUAL
        obtain ⟨_, _, ⟨T75, L75, k75, n75⟩, -, X75, ⟨Lc75, hQ75, l75, y75, z75⟩, st75⟩ := X74.virtualBack hx (y := (⟨"com/example/latticut/latticut/lang/Comparison", "test", "(JJ)Z"⟩ : MethodName)) (z := (⟨"com/example/latticut/latticut/lang/Comparison", "test", "(JJ)Z"⟩ : MethodName)) hown (mvT hZ (hw _ (List.mem_of_getElem? (i := 16) rfl))) (mvT hZ (hw _ (List.mem_of_getElem? (i := 17) rfl))) (notFace_of_selects (args := #[]) (mvT hZ (hw _ (List.mem_of_getElem? (i := 19) rfl)))) (mvT hZ (hw _ (List.mem_of_getElem? (i := 19) rfl))) (mvT hZ (hw _ (List.mem_of_getElem? (i := 18) rfl))) (by decide) (backOf (W := 0) (rm10 l Z a0 hw [] w_NOT_EQUAL x1 h0 n0 Z0 ((own_ar4 x1 x2 hc64 hc72)) ((own_ar5 x1 x2 hc64 hc72)) F_whenEqual_w_NOT_EQUAL E_w_NOT_EQUAL) hZ (hw _ (List.mem_of_getElem? (i := 20) rfl)) (hw _ (List.mem_of_getElem? (i := 6) rfl)) (by decide) (by decide)) q75a q75c (g := (mkF m 48 #[.val (.int x0), .val (.long x1), .second, .val (.long x2), .second, .val (.ref w_EQUAL), .val (.ref w_NOT_EQUAL), .val (.int (1 : Int32)), .unset, .unset] [(.long x1), (.long x1), (.ref w_NOT_EQUAL)])) rfl (by rw [hml]; rfl) (Steps.refl _) (argsL := [(.long x1), (.long x1)]) (rest := []) (lenOf pd_4 rfl) rfl (by show 2 * 0 + _ ≤ _; exact Nat.le_of_eq rfl) (hb hby at_48) (fun _ _ => ⟨rfl, e74, (by decide : 0 + 0 ≤ _), (by decide : 0 + 0 ≤ _)⟩)
        dsimp only [Pt.U, Pt.locs, Pt.cells, Pt.slots] at X75 l75 y75 z75 st75 hQ75
        subst l75 y75 z75
        obtain ⟨rfl, N75q, e75⟩ := hQ75
        have N75 := Fr.app N74 N75q
        obtain ⟨cq76, kq76, q76a, q76b, q76c⟩ := isOf hZ e75 E_w_EQUAL
        obtain ⟨_, _, ⟨T76, L76, k76, n76⟩, -, X76, ⟨Lc76, hQ76, l76, y76, z76⟩, st76⟩ := X75.virtualBack hx (y := (⟨"com/example/latticut/latticut/lang/Comparison", "test", "(JJ)Z"⟩ : MethodName)) (z := (⟨"com/example/latticut/latticut/lang/Comparison", "test", "(JJ)Z"⟩ : MethodName)) hown (mvT hZ (hw _ (List.mem_of_getElem? (i := 16) rfl))) (mvT hZ (hw _ (List.mem_of_getElem? (i := 17) rfl))) (notFace_of_selects (args := #[]) (mvT hZ (hw _ (List.mem_of_getElem? (i := 19) rfl)))) (mvT hZ (hw _ (List.mem_of_getElem? (i := 19) rfl))) (mvT hZ (hw _ (List.mem_of_getElem? (i := 18) rfl))) (by decide) (backOf (W := 1) (rm12 l Z a0 hw [] w_EQUAL x1 h0 n0 Z0 ((own_ar4 x1 x2 hc64 hc72)) ((own_ar5 x1 x2 hc64 hc72)) F_whenEqual_w_EQUAL E_w_EQUAL) hZ (hw _ (List.mem_of_getElem? (i := 20) rfl)) (hw _ (List.mem_of_getElem? (i := 6) rfl)) (by decide) (by decide)) q76a q76c (g := (mkF m 55 #[.val (.int x0), .val (.long x1), .second, .val (.long x2), .second, .val (.ref w_EQUAL), .val (.ref w_NOT_EQUAL), .val (.int (1 : Int32)), .unset, .unset] [(.long x1), (.long x1), (.ref w_EQUAL), (.int (0 : Int32))])) rfl (by rw [hml]; rfl) (Steps.refl _) (argsL := [(.long x1), (.long x1)]) (rest := [(.int (0 : Int32))]) (lenOf pd_4 rfl) rfl (by show 2 * 0 + _ ≤ _; exact Nat.le_of_eq rfl) (hb hby at_55) (fun _ _ => ⟨rfl, e75, (by decide : 0 + 0 ≤ _), (by decide : 0 + 0 ≤ _)⟩)
        dsimp only [Pt.U, Pt.locs, Pt.cells, Pt.slots] at X76 l76 y76 z76 st76 hQ76
        subst l76 y76 z76
        obtain ⟨rfl, N76q, e76⟩ := hQ76
        have N76 := Fr.app N75 N76q
        obtain ⟨cq77, kq77, q77a, q77b, q77c⟩ := isOf hZ e76 E_w_NOT_EQUAL
        obtain ⟨_, _, ⟨T77, L77, k77, n77⟩, -, X77, ⟨Lc77, hQ77, l77, y77, z77⟩, st77⟩ := X76.virtualBack hx (y := (⟨"com/example/latticut/latticut/lang/Comparison", "test", "(JJ)Z"⟩ : MethodName)) (z := (⟨"com/example/latticut/latticut/lang/Comparison", "test", "(JJ)Z"⟩ : MethodName)) hown (mvT hZ (hw _ (List.mem_of_getElem? (i := 16) rfl))) (mvT hZ (hw _ (List.mem_of_getElem? (i := 17) rfl))) (notFace_of_selects (args := #[]) (mvT hZ (hw _ (List.mem_of_getElem? (i := 19) rfl)))) (mvT hZ (hw _ (List.mem_of_getElem? (i := 19) rfl))) (mvT hZ (hw _ (List.mem_of_getElem? (i := 18) rfl))) (by decide) (backOf (W := 0) (rm19 l Z a0 hw [] w_NOT_EQUAL x2 x1 h0 n0 Z0 ((own_ar6 x1 x2 hc64 hc72)) ((own_ar7 x1 x2 hc64 hc72)) F_whenEqual_w_NOT_EQUAL E_w_NOT_EQUAL) hZ (hw _ (List.mem_of_getElem? (i := 20) rfl)) (hw _ (List.mem_of_getElem? (i := 6) rfl)) (by decide) (by decide)) q77a q77c (g := (mkF m 72 #[.val (.int x0), .val (.long x1), .second, .val (.long x2), .second, .val (.ref w_EQUAL), .val (.ref w_NOT_EQUAL), .val (.int (1 : Int32)), .val (.int (1 : Int32)), .unset] [(.long x1), (.long x2), (.ref w_NOT_EQUAL)])) rfl (by rw [hml]; rfl) (Steps.refl _) (argsL := [(.long x2), (.long x1)]) (rest := []) (lenOf pd_4 rfl) rfl (by show 2 * 0 + _ ≤ _; exact Nat.le_of_eq rfl) (hb hby at_72) (fun _ _ => ⟨rfl, e76, (by decide : 0 + 0 ≤ _), (by decide : 0 + 0 ≤ _)⟩)
        dsimp only [Pt.U, Pt.locs, Pt.cells, Pt.slots] at X77 l77 y77 z77 st77 hQ77
        subst l77 y77 z77
        obtain ⟨rfl, N77q, e77⟩ := hQ77
        have N77 := Fr.app N76 N77q
        obtain ⟨cq78, kq78, q78a, q78b, q78c⟩ := isOf hZ e77 E_w_EQUAL
        obtain ⟨_, _, ⟨T78, L78, k78, n78⟩, -, X78, ⟨Lc78, hQ78, l78, y78, z78⟩, st78⟩ := X77.virtualBack hx (y := (⟨"com/example/latticut/latticut/lang/Comparison", "test", "(JJ)Z"⟩ : MethodName)) (z := (⟨"com/example/latticut/latticut/lang/Comparison", "test", "(JJ)Z"⟩ : MethodName)) hown (mvT hZ (hw _ (List.mem_of_getElem? (i := 16) rfl))) (mvT hZ (hw _ (List.mem_of_getElem? (i := 17) rfl))) (notFace_of_selects (args := #[]) (mvT hZ (hw _ (List.mem_of_getElem? (i := 19) rfl)))) (mvT hZ (hw _ (List.mem_of_getElem? (i := 19) rfl))) (mvT hZ (hw _ (List.mem_of_getElem? (i := 18) rfl))) (by decide) (backOf (W := 1) (rm20 l Z a0 hw [] w_EQUAL x2 x1 h0 n0 Z0 ((own_ar6 x1 x2 hc64 hc72)) ((own_ar7 x1 x2 hc64 hc72)) F_whenEqual_w_EQUAL E_w_EQUAL) hZ (hw _ (List.mem_of_getElem? (i := 20) rfl)) (hw _ (List.mem_of_getElem? (i := 6) rfl)) (by decide) (by decide)) q78a q78c (g := (mkF m 79 #[.val (.int x0), .val (.long x1), .second, .val (.long x2), .second, .val (.ref w_EQUAL), .val (.ref w_NOT_EQUAL), .val (.int (1 : Int32)), .val (.int (1 : Int32)), .unset] [(.long x1), (.long x2), (.ref w_EQUAL), (.int (0 : Int32))])) rfl (by rw [hml]; rfl) (Steps.refl _) (argsL := [(.long x2), (.long x1)]) (rest := [(.int (0 : Int32))]) (lenOf pd_4 rfl) rfl (by show 2 * 0 + _ ≤ _; exact Nat.le_of_eq rfl) (hb hby at_79) (fun _ _ => ⟨rfl, e77, (by decide : 0 + 0 ≤ _), (by decide : 0 + 0 ≤ _)⟩)
        dsimp only [Pt.U, Pt.locs, Pt.cells, Pt.slots] at X78 l78 y78 z78 st78 hQ78
        subst l78 y78 z78
        obtain ⟨rfl, N78q, e78⟩ := hQ78
        have N78 := Fr.app N77 N78q
        have pre79 : ∀ t, Steps p.tables e below (T78.setTop (mkF m 112 #[.val (.int x0), .val (.long x1), .second, .val (.long x2), .second, .val (.ref w_EQUAL), .val (.ref w_NOT_EQUAL), .val (.int (1 : Int32)), .val (.int (1 : Int32)), .val (.int (1 : Int32))] [(.int (1 : Int32))])) t → Steps p.tables e below (s₁.setTop (entryFrame m #[(.int x0), (.long x1), (.long x2)] maxLocals)) t := fun t kk => pre63 t (by
          show Steps p.tables e below (T62.setTop (mkF m 24 #[.val (.int x0), .val (.long x1), .second, .val (.long x2), .second, .val (.ref w_EQUAL), .val (.ref w_NOT_EQUAL), .unset, .unset, .unset] [(.long x2), (.long x1), (.ref w_NOT_EQUAL)])) _
          refine st73.trans ?_
          show Steps p.tables e below (T73.setTop (mkF m 27 #[.val (.int x0), .val (.long x1), .second, .val (.long x2), .second, .val (.ref w_EQUAL), .val (.ref w_NOT_EQUAL), .unset, .unset, .unset] [(.int (0 : Int32))])) _
          refine XS.aload X73.here hx rfl (hb hby at_27) rfl rfl ?_
          show Steps p.tables e below (T73.setTop (mkF m 29 #[.val (.int x0), .val (.long x1), .second, .val (.long x2), .second, .val (.ref w_EQUAL), .val (.ref w_NOT_EQUAL), .unset, .unset, .unset] [(.ref w_EQUAL), (.int (0 : Int32))])) _
          refine XS.lloadN X73.here hx rfl (hb hby at_29) rfl ?_
          show Steps p.tables e below (T73.setTop (mkF m 30 #[.val (.int x0), .val (.long x1), .second, .val (.long x2), .second, .val (.ref w_EQUAL), .val (.ref w_NOT_EQUAL), .unset, .unset, .unset] [(.long x1), (.ref w_EQUAL), (.int (0 : Int32))])) _
          refine XS.lloadN X73.here hx rfl (hb hby at_30) rfl ?_
          show Steps p.tables e below (T73.setTop (mkF m 31 #[.val (.int x0), .val (.long x1), .second, .val (.long x2), .second, .val (.ref w_EQUAL), .val (.ref w_NOT_EQUAL), .unset, .unset, .unset] [(.long x2), (.long x1), (.ref w_EQUAL), (.int (0 : Int32))])) _
          refine st74.trans ?_
          show Steps p.tables e below (T74.setTop (mkF m 34 #[.val (.int x0), .val (.long x1), .second, .val (.long x2), .second, .val (.ref w_EQUAL), .val (.ref w_NOT_EQUAL), .unset, .unset, .unset] [(.int (1 : Int32)), (.int (0 : Int32))])) _
          refine XS.icmpNo X74.here hx rfl (hb hby at_34) rfl (feq ((by decide) : ¬ ((0 : Int32) = (1 : Int32)))).1 ?_
          show Steps p.tables e below (T74.setTop (mkF m 37 #[.val (.int x0), .val (.long x1), .second, .val (.long x2), .second, .val (.ref w_EQUAL), .val (.ref w_NOT_EQUAL), .unset, .unset, .unset] [])) _
          refine XS.iconst X74.here hx rfl (hb hby at_37) ?_
          show Steps p.tables e below (T74.setTop (mkF m 38 #[.val (.int x0), .val (.long x1), .second, .val (.long x2), .second, .val (.ref w_EQUAL), .val (.ref w_NOT_EQUAL), .unset, .unset, .unset] [(.int (1 : Int32))])) _
          refine XS.goto X74.here hx rfl (pc0 := 38) (pc' := 42) rfl (hb hby at_38) (by decide) (by decide) ?_
          show Steps p.tables e below (T74.setTop (mkF m 42 #[.val (.int x0), .val (.long x1), .second, .val (.long x2), .second, .val (.ref w_EQUAL), .val (.ref w_NOT_EQUAL), .unset, .unset, .unset] [(.int (1 : Int32))])) _
          refine XS.istore X74.here hx rfl (hb hby at_42) rfl (l' := #[.val (.int x0), .val (.long x1), .second, .val (.long x2), .second, .val (.ref w_EQUAL), .val (.ref w_NOT_EQUAL), .val (.int (1 : Int32)), .unset, .unset]) rfl ?_
          show Steps p.tables e below (T74.setTop (mkF m 44 #[.val (.int x0), .val (.long x1), .second, .val (.long x2), .second, .val (.ref w_EQUAL), .val (.ref w_NOT_EQUAL), .val (.int (1 : Int32)), .unset, .unset] [])) _
          refine XS.aload X74.here hx rfl (hb hby at_44) rfl rfl ?_
          show Steps p.tables e below (T74.setTop (mkF m 46 #[.val (.int x0), .val (.long x1), .second, .val (.long x2), .second, .val (.ref w_EQUAL), .val (.ref w_NOT_EQUAL), .val (.int (1 : Int32)), .unset, .unset] [(.ref w_NOT_EQUAL)])) _
          refine XS.lloadN X74.here hx rfl (hb hby at_46) rfl ?_
          show Steps p.tables e below (T74.setTop (mkF m 47 #[.val (.int x0), .val (.long x1), .second, .val (.long x2), .second, .val (.ref w_EQUAL), .val (.ref w_NOT_EQUAL), .val (.int (1 : Int32)), .unset, .unset] [(.long x1), (.ref w_NOT_EQUAL)])) _
          refine XS.lloadN X74.here hx rfl (hb hby at_47) rfl ?_
          show Steps p.tables e below (T74.setTop (mkF m 48 #[.val (.int x0), .val (.long x1), .second, .val (.long x2), .second, .val (.ref w_EQUAL), .val (.ref w_NOT_EQUAL), .val (.int (1 : Int32)), .unset, .unset] [(.long x1), (.long x1), (.ref w_NOT_EQUAL)])) _
          refine st75.trans ?_
          show Steps p.tables e below (T75.setTop (mkF m 51 #[.val (.int x0), .val (.long x1), .second, .val (.long x2), .second, .val (.ref w_EQUAL), .val (.ref w_NOT_EQUAL), .val (.int (1 : Int32)), .unset, .unset] [(.int (0 : Int32))])) _
          refine XS.aload X75.here hx rfl (hb hby at_51) rfl rfl ?_
          show Steps p.tables e below (T75.setTop (mkF m 53 #[.val (.int x0), .val (.long x1), .second, .val (.long x2), .second, .val (.ref w_EQUAL), .val (.ref w_NOT_EQUAL), .val (.int (1 : Int32)), .unset, .unset] [(.ref w_EQUAL), (.int (0 : Int32))])) _
          refine XS.lloadN X75.here hx rfl (hb hby at_53) rfl ?_
          show Steps p.tables e below (T75.setTop (mkF m 54 #[.val (.int x0), .val (.long x1), .second, .val (.long x2), .second, .val (.ref w_EQUAL), .val (.ref w_NOT_EQUAL), .val (.int (1 : Int32)), .unset, .unset] [(.long x1), (.ref w_EQUAL), (.int (0 : Int32))])) _
          refine XS.lloadN X75.here hx rfl (hb hby at_54) rfl ?_
          show Steps p.tables e below (T75.setTop (mkF m 55 #[.val (.int x0), .val (.long x1), .second, .val (.long x2), .second, .val (.ref w_EQUAL), .val (.ref w_NOT_EQUAL), .val (.int (1 : Int32)), .unset, .unset] [(.long x1), (.long x1), (.ref w_EQUAL), (.int (0 : Int32))])) _
          refine st76.trans ?_
          show Steps p.tables e below (T76.setTop (mkF m 58 #[.val (.int x0), .val (.long x1), .second, .val (.long x2), .second, .val (.ref w_EQUAL), .val (.ref w_NOT_EQUAL), .val (.int (1 : Int32)), .unset, .unset] [(.int (1 : Int32)), (.int (0 : Int32))])) _
          refine XS.icmpNo X76.here hx rfl (hb hby at_58) rfl (feq ((by decide) : ¬ ((0 : Int32) = (1 : Int32)))).1 ?_
          show Steps p.tables e below (T76.setTop (mkF m 61 #[.val (.int x0), .val (.long x1), .second, .val (.long x2), .second, .val (.ref w_EQUAL), .val (.ref w_NOT_EQUAL), .val (.int (1 : Int32)), .unset, .unset] [])) _
          refine XS.iconst X76.here hx rfl (hb hby at_61) ?_
          show Steps p.tables e below (T76.setTop (mkF m 62 #[.val (.int x0), .val (.long x1), .second, .val (.long x2), .second, .val (.ref w_EQUAL), .val (.ref w_NOT_EQUAL), .val (.int (1 : Int32)), .unset, .unset] [(.int (1 : Int32))])) _
          refine XS.goto X76.here hx rfl (pc0 := 62) (pc' := 66) rfl (hb hby at_62) (by decide) (by decide) ?_
          show Steps p.tables e below (T76.setTop (mkF m 66 #[.val (.int x0), .val (.long x1), .second, .val (.long x2), .second, .val (.ref w_EQUAL), .val (.ref w_NOT_EQUAL), .val (.int (1 : Int32)), .unset, .unset] [(.int (1 : Int32))])) _
          refine XS.istore X76.here hx rfl (hb hby at_66) rfl (l' := #[.val (.int x0), .val (.long x1), .second, .val (.long x2), .second, .val (.ref w_EQUAL), .val (.ref w_NOT_EQUAL), .val (.int (1 : Int32)), .val (.int (1 : Int32)), .unset]) rfl ?_
          show Steps p.tables e below (T76.setTop (mkF m 68 #[.val (.int x0), .val (.long x1), .second, .val (.long x2), .second, .val (.ref w_EQUAL), .val (.ref w_NOT_EQUAL), .val (.int (1 : Int32)), .val (.int (1 : Int32)), .unset] [])) _
          refine XS.aload X76.here hx rfl (hb hby at_68) rfl rfl ?_
          show Steps p.tables e below (T76.setTop (mkF m 70 #[.val (.int x0), .val (.long x1), .second, .val (.long x2), .second, .val (.ref w_EQUAL), .val (.ref w_NOT_EQUAL), .val (.int (1 : Int32)), .val (.int (1 : Int32)), .unset] [(.ref w_NOT_EQUAL)])) _
          refine XS.lloadN X76.here hx rfl (hb hby at_70) rfl ?_
          show Steps p.tables e below (T76.setTop (mkF m 71 #[.val (.int x0), .val (.long x1), .second, .val (.long x2), .second, .val (.ref w_EQUAL), .val (.ref w_NOT_EQUAL), .val (.int (1 : Int32)), .val (.int (1 : Int32)), .unset] [(.long x2), (.ref w_NOT_EQUAL)])) _
          refine XS.lloadN X76.here hx rfl (hb hby at_71) rfl ?_
          show Steps p.tables e below (T76.setTop (mkF m 72 #[.val (.int x0), .val (.long x1), .second, .val (.long x2), .second, .val (.ref w_EQUAL), .val (.ref w_NOT_EQUAL), .val (.int (1 : Int32)), .val (.int (1 : Int32)), .unset] [(.long x1), (.long x2), (.ref w_NOT_EQUAL)])) _
          refine st77.trans ?_
          show Steps p.tables e below (T77.setTop (mkF m 75 #[.val (.int x0), .val (.long x1), .second, .val (.long x2), .second, .val (.ref w_EQUAL), .val (.ref w_NOT_EQUAL), .val (.int (1 : Int32)), .val (.int (1 : Int32)), .unset] [(.int (0 : Int32))])) _
          refine XS.aload X77.here hx rfl (hb hby at_75) rfl rfl ?_
          show Steps p.tables e below (T77.setTop (mkF m 77 #[.val (.int x0), .val (.long x1), .second, .val (.long x2), .second, .val (.ref w_EQUAL), .val (.ref w_NOT_EQUAL), .val (.int (1 : Int32)), .val (.int (1 : Int32)), .unset] [(.ref w_EQUAL), (.int (0 : Int32))])) _
          refine XS.lloadN X77.here hx rfl (hb hby at_77) rfl ?_
          show Steps p.tables e below (T77.setTop (mkF m 78 #[.val (.int x0), .val (.long x1), .second, .val (.long x2), .second, .val (.ref w_EQUAL), .val (.ref w_NOT_EQUAL), .val (.int (1 : Int32)), .val (.int (1 : Int32)), .unset] [(.long x2), (.ref w_EQUAL), (.int (0 : Int32))])) _
          refine XS.lloadN X77.here hx rfl (hb hby at_78) rfl ?_
          show Steps p.tables e below (T77.setTop (mkF m 79 #[.val (.int x0), .val (.long x1), .second, .val (.long x2), .second, .val (.ref w_EQUAL), .val (.ref w_NOT_EQUAL), .val (.int (1 : Int32)), .val (.int (1 : Int32)), .unset] [(.long x1), (.long x2), (.ref w_EQUAL), (.int (0 : Int32))])) _
          refine st78.trans ?_
          show Steps p.tables e below (T78.setTop (mkF m 82 #[.val (.int x0), .val (.long x1), .second, .val (.long x2), .second, .val (.ref w_EQUAL), .val (.ref w_NOT_EQUAL), .val (.int (1 : Int32)), .val (.int (1 : Int32)), .unset] [(.int (1 : Int32)), (.int (0 : Int32))])) _
          refine XS.icmpNo X78.here hx rfl (hb hby at_82) rfl (feq ((by decide) : ¬ ((0 : Int32) = (1 : Int32)))).1 ?_
          show Steps p.tables e below (T78.setTop (mkF m 85 #[.val (.int x0), .val (.long x1), .second, .val (.long x2), .second, .val (.ref w_EQUAL), .val (.ref w_NOT_EQUAL), .val (.int (1 : Int32)), .val (.int (1 : Int32)), .unset] [])) _
          refine XS.iconst X78.here hx rfl (hb hby at_85) ?_
          show Steps p.tables e below (T78.setTop (mkF m 86 #[.val (.int x0), .val (.long x1), .second, .val (.long x2), .second, .val (.ref w_EQUAL), .val (.ref w_NOT_EQUAL), .val (.int (1 : Int32)), .val (.int (1 : Int32)), .unset] [(.int (1 : Int32))])) _
          refine XS.goto X78.here hx rfl (pc0 := 86) (pc' := 90) rfl (hb hby at_86) (by decide) (by decide) ?_
          show Steps p.tables e below (T78.setTop (mkF m 90 #[.val (.int x0), .val (.long x1), .second, .val (.long x2), .second, .val (.ref w_EQUAL), .val (.ref w_NOT_EQUAL), .val (.int (1 : Int32)), .val (.int (1 : Int32)), .unset] [(.int (1 : Int32))])) _
          refine XS.istore X78.here hx rfl (hb hby at_90) rfl (l' := #[.val (.int x0), .val (.long x1), .second, .val (.long x2), .second, .val (.ref w_EQUAL), .val (.ref w_NOT_EQUAL), .val (.int (1 : Int32)), .val (.int (1 : Int32)), .val (.int (1 : Int32))]) rfl ?_
          show Steps p.tables e below (T78.setTop (mkF m 92 #[.val (.int x0), .val (.long x1), .second, .val (.long x2), .second, .val (.ref w_EQUAL), .val (.ref w_NOT_EQUAL), .val (.int (1 : Int32)), .val (.int (1 : Int32)), .val (.int (1 : Int32))] [])) _
          refine XS.iload X78.here hx rfl (hb hby at_92) rfl ?_
          show Steps p.tables e below (T78.setTop (mkF m 94 #[.val (.int x0), .val (.long x1), .second, .val (.long x2), .second, .val (.ref w_EQUAL), .val (.ref w_NOT_EQUAL), .val (.int (1 : Int32)), .val (.int (1 : Int32)), .val (.int (1 : Int32))] [(.int (1 : Int32))])) _
          refine XS.ifNo X78.here hx rfl (hb hby at_94) rfl ((if0 _ _).trans (feq ((by decide) : ¬ ((1 : Int32) = (0 : Int32)))).1) ?_
          show Steps p.tables e below (T78.setTop (mkF m 97 #[.val (.int x0), .val (.long x1), .second, .val (.long x2), .second, .val (.ref w_EQUAL), .val (.ref w_NOT_EQUAL), .val (.int (1 : Int32)), .val (.int (1 : Int32)), .val (.int (1 : Int32))] [])) _
          refine XS.iload X78.here hx rfl (hb hby at_97) rfl ?_
          show Steps p.tables e below (T78.setTop (mkF m 99 #[.val (.int x0), .val (.long x1), .second, .val (.long x2), .second, .val (.ref w_EQUAL), .val (.ref w_NOT_EQUAL), .val (.int (1 : Int32)), .val (.int (1 : Int32)), .val (.int (1 : Int32))] [(.int (1 : Int32))])) _
          refine XS.ifNo X78.here hx rfl (hb hby at_99) rfl ((if0 _ _).trans (feq ((by decide) : ¬ ((1 : Int32) = (0 : Int32)))).1) ?_
          show Steps p.tables e below (T78.setTop (mkF m 102 #[.val (.int x0), .val (.long x1), .second, .val (.long x2), .second, .val (.ref w_EQUAL), .val (.ref w_NOT_EQUAL), .val (.int (1 : Int32)), .val (.int (1 : Int32)), .val (.int (1 : Int32))] [])) _
          refine XS.iload X78.here hx rfl (hb hby at_102) rfl ?_
          show Steps p.tables e below (T78.setTop (mkF m 104 #[.val (.int x0), .val (.long x1), .second, .val (.long x2), .second, .val (.ref w_EQUAL), .val (.ref w_NOT_EQUAL), .val (.int (1 : Int32)), .val (.int (1 : Int32)), .val (.int (1 : Int32))] [(.int (1 : Int32))])) _
          refine XS.ifNo X78.here hx rfl (hb hby at_104) rfl ((if0 _ _).trans (feq ((by decide) : ¬ ((1 : Int32) = (0 : Int32)))).1) ?_
          show Steps p.tables e below (T78.setTop (mkF m 107 #[.val (.int x0), .val (.long x1), .second, .val (.long x2), .second, .val (.ref w_EQUAL), .val (.ref w_NOT_EQUAL), .val (.int (1 : Int32)), .val (.int (1 : Int32)), .val (.int (1 : Int32))] [])) _
          refine XS.iconst X78.here hx rfl (hb hby at_107) ?_
          show Steps p.tables e below (T78.setTop (mkF m 108 #[.val (.int x0), .val (.long x1), .second, .val (.long x2), .second, .val (.ref w_EQUAL), .val (.ref w_NOT_EQUAL), .val (.int (1 : Int32)), .val (.int (1 : Int32)), .val (.int (1 : Int32))] [(.int (1 : Int32))])) _
          refine XS.goto X78.here hx rfl (pc0 := 108) (pc' := 112) rfl (hb hby at_108) (by decide) (by decide) ?_
          exact kk)
        obtain ⟨fs, hr, hrun, hended, hW, hsame⟩ := X78.leave (v := some (.int (1 : Int32))) (fun h => by rw [Bd.returns] at h; cases h)
        refine ⟨_, _, pre79 _ ?_, hrun, hended, _, _, rfl, ?_, ⟨_, rfl⟩, hW, hsame.mono (by decide) (by decide)⟩
        · exact retN X78 hx (t := .boolean) Bd.returns (by simp) (hb hby at_112) hr
        · exact ⟨rfl, N78⟩
      ·
        obtain ⟨cq80, kq80, q80a, q80b, q80c⟩ := isOf hZ e62 E_w_NOT_EQUAL
        obtain ⟨_, _, ⟨T80, L80, k80, n80⟩, -, X80, ⟨Lc80, hQ80, l80, y80, z80⟩, st80⟩ := X62.virtualBack hx (y := (⟨"com/example/latticut/latticut/lang/Comparison", "test", "(JJ)Z"⟩ : MethodName)) (z := (⟨"com/example/latticut/latticut/lang/Comparison", "test", "(JJ)Z"⟩ : MethodName)) hown (mvT hZ (hw _ (List.mem_of_getElem? (i := 16) rfl))) (mvT hZ (hw _ (List.mem_of_getElem? (i := 17) rfl))) (notFace_of_selects (args := #[]) (mvT hZ (hw _ (List.mem_of_getElem? (i := 19) rfl)))) (mvT hZ (hw _ (List.mem_of_getElem? (i := 19) rfl))) (mvT hZ (hw _ (List.mem_of_getElem? (i := 18) rfl))) (by decide) (backOf (W := 0) (rm15 l Z a0 hw [] w_NOT_EQUAL x1 x2 h0 n0 Z0 hc64 hc72 F_whenGreater_w_NOT_EQUAL E_w_NOT_EQUAL) hZ (hw _ (List.mem_of_getElem? (i := 20) rfl)) (hw _ (List.mem_of_getElem? (i := 6) rfl)) (by decide) (by decide)) q80a q80c (g := (mkF m 24 #[.val (.int x0), .val (.long x1), .second, .val (.long x2), .second, .val (.ref w_EQUAL), .val (.ref w_NOT_EQUAL), .unset, .unset, .unset] [(.long x2), (.long x1), (.ref w_NOT_EQUAL)])) rfl (by rw [hml]; rfl) (Steps.refl _) (argsL := [(.long x1), (.long x2)]) (rest := []) (lenOf pd_4 rfl) rfl (by show 2 * 0 + _ ≤ _; exact Nat.le_of_eq rfl) (hb hby at_24) (fun _ _ => ⟨rfl, e62, (by decide : 0 + 0 ≤ _), (by decide : 0 + 0 ≤ _)⟩)
        dsimp only [Pt.U, Pt.locs, Pt.cells, Pt.slots] at X80 l80 y80 z80 st80 hQ80
        subst l80 y80 z80
        obtain ⟨rfl, N80q, e80⟩ := hQ80
        have N80 := Fr.app N62 N80q
        obtain ⟨cq81, kq81, q81a, q81b, q81c⟩ := isOf hZ e80 E_w_EQUAL
        obtain ⟨_, _, ⟨T81, L81, k81, n81⟩, -, X81, ⟨Lc81, hQ81, l81, y81, z81⟩, st81⟩ := X80.virtualBack hx (y := (⟨"com/example/latticut/latticut/lang/Comparison", "test", "(JJ)Z"⟩ : MethodName)) (z := (⟨"com/example/latticut/latticut/lang/Comparison", "test", "(JJ)Z"⟩ : MethodName)) hown (mvT hZ (hw _ (List.mem_of_getElem? (i := 16) rfl))) (mvT hZ (hw _ (List.mem_of_getElem? (i := 17) rfl))) (notFace_of_selects (args := #[]) (mvT hZ (hw _ (List.mem_of_getElem? (i := 19) rfl)))) (mvT hZ (hw _ (List.mem_of_getElem? (i := 19) rfl))) (mvT hZ (hw _ (List.mem_of_getElem? (i := 18) rfl))) (by decide) (backOf (W := 1) (rm17 l Z a0 hw [] w_EQUAL x1 x2 h0 n0 Z0 hc64 hc72 F_whenGreater_w_EQUAL E_w_EQUAL) hZ (hw _ (List.mem_of_getElem? (i := 20) rfl)) (hw _ (List.mem_of_getElem? (i := 6) rfl)) (by decide) (by decide)) q81a q81c (g := (mkF m 31 #[.val (.int x0), .val (.long x1), .second, .val (.long x2), .second, .val (.ref w_EQUAL), .val (.ref w_NOT_EQUAL), .unset, .unset, .unset] [(.long x2), (.long x1), (.ref w_EQUAL), (.int (1 : Int32))])) rfl (by rw [hml]; rfl) (Steps.refl _) (argsL := [(.long x1), (.long x2)]) (rest := [(.int (1 : Int32))]) (lenOf pd_4 rfl) rfl (by show 2 * 0 + _ ≤ _; exact Nat.le_of_eq rfl) (hb hby at_31) (fun _ _ => ⟨rfl, e80, (by decide : 0 + 0 ≤ _), (by decide : 0 + 0 ≤ _)⟩)
        dsimp only [Pt.U, Pt.locs, Pt.cells, Pt.slots] at X81 l81 y81 z81 st81 hQ81
        subst l81 y81 z81
        obtain ⟨rfl, N81q, e81⟩ := hQ81
        have N81 := Fr.app N80 N81q
        obtain ⟨cq82, kq82, q82a, q82b, q82c⟩ := isOf hZ e81 E_w_NOT_EQUAL
        obtain ⟨_, _, ⟨T82, L82, k82, n82⟩, -, X82, ⟨Lc82, hQ82, l82, y82, z82⟩, st82⟩ := X81.virtualBack hx (y := (⟨"com/example/latticut/latticut/lang/Comparison", "test", "(JJ)Z"⟩ : MethodName)) (z := (⟨"com/example/latticut/latticut/lang/Comparison", "test", "(JJ)Z"⟩ : MethodName)) hown (mvT hZ (hw _ (List.mem_of_getElem? (i := 16) rfl))) (mvT hZ (hw _ (List.mem_of_getElem? (i := 17) rfl))) (notFace_of_selects (args := #[]) (mvT hZ (hw _ (List.mem_of_getElem? (i := 19) rfl)))) (mvT hZ (hw _ (List.mem_of_getElem? (i := 19) rfl))) (mvT hZ (hw _ (List.mem_of_getElem? (i := 18) rfl))) (by decide) (backOf (W := 0) (rm10 l Z a0 hw [] w_NOT_EQUAL x1 h0 n0 Z0 ((own_ar8 x1 x2 hc64 hc72)) ((own_ar9 x1 x2 hc64 hc72)) F_whenEqual_w_NOT_EQUAL E_w_NOT_EQUAL) hZ (hw _ (List.mem_of_getElem? (i := 20) rfl)) (hw _ (List.mem_of_getElem? (i := 6) rfl)) (by decide) (by decide)) q82a q82c (g := (mkF m 48 #[.val (.int x0), .val (.long x1), .second, .val (.long x2), .second, .val (.ref w_EQUAL), .val (.ref w_NOT_EQUAL), .val (.int (1 : Int32)), .unset, .unset] [(.long x1), (.long x1), (.ref w_NOT_EQUAL)])) rfl (by rw [hml]; rfl) (Steps.refl _) (argsL := [(.long x1), (.long x1)]) (rest := []) (lenOf pd_4 rfl) rfl (by show 2 * 0 + _ ≤ _; exact Nat.le_of_eq rfl) (hb hby at_48) (fun _ _ => ⟨rfl, e81, (by decide : 0 + 0 ≤ _), (by decide : 0 + 0 ≤ _)⟩)
        dsimp only [Pt.U, Pt.locs, Pt.cells, Pt.slots] at X82 l82 y82 z82 st82 hQ82
        subst l82 y82 z82
        obtain ⟨rfl, N82q, e82⟩ := hQ82
        have N82 := Fr.app N81 N82q
        obtain ⟨cq83, kq83, q83a, q83b, q83c⟩ := isOf hZ e82 E_w_EQUAL
        obtain ⟨_, _, ⟨T83, L83, k83, n83⟩, -, X83, ⟨Lc83, hQ83, l83, y83, z83⟩, st83⟩ := X82.virtualBack hx (y := (⟨"com/example/latticut/latticut/lang/Comparison", "test", "(JJ)Z"⟩ : MethodName)) (z := (⟨"com/example/latticut/latticut/lang/Comparison", "test", "(JJ)Z"⟩ : MethodName)) hown (mvT hZ (hw _ (List.mem_of_getElem? (i := 16) rfl))) (mvT hZ (hw _ (List.mem_of_getElem? (i := 17) rfl))) (notFace_of_selects (args := #[]) (mvT hZ (hw _ (List.mem_of_getElem? (i := 19) rfl)))) (mvT hZ (hw _ (List.mem_of_getElem? (i := 19) rfl))) (mvT hZ (hw _ (List.mem_of_getElem? (i := 18) rfl))) (by decide) (backOf (W := 1) (rm12 l Z a0 hw [] w_EQUAL x1 h0 n0 Z0 ((own_ar8 x1 x2 hc64 hc72)) ((own_ar9 x1 x2 hc64 hc72)) F_whenEqual_w_EQUAL E_w_EQUAL) hZ (hw _ (List.mem_of_getElem? (i := 20) rfl)) (hw _ (List.mem_of_getElem? (i := 6) rfl)) (by decide) (by decide)) q83a q83c (g := (mkF m 55 #[.val (.int x0), .val (.long x1), .second, .val (.long x2), .second, .val (.ref w_EQUAL), .val (.ref w_NOT_EQUAL), .val (.int (1 : Int32)), .unset, .unset] [(.long x1), (.long x1), (.ref w_EQUAL), (.int (0 : Int32))])) rfl (by rw [hml]; rfl) (Steps.refl _) (argsL := [(.long x1), (.long x1)]) (rest := [(.int (0 : Int32))]) (lenOf pd_4 rfl) rfl (by show 2 * 0 + _ ≤ _; exact Nat.le_of_eq rfl) (hb hby at_55) (fun _ _ => ⟨rfl, e82, (by decide : 0 + 0 ≤ _), (by decide : 0 + 0 ≤ _)⟩)
        dsimp only [Pt.U, Pt.locs, Pt.cells, Pt.slots] at X83 l83 y83 z83 st83 hQ83
        subst l83 y83 z83
        obtain ⟨rfl, N83q, e83⟩ := hQ83
        have N83 := Fr.app N82 N83q
        obtain ⟨cq84, kq84, q84a, q84b, q84c⟩ := isOf hZ e83 E_w_NOT_EQUAL
        obtain ⟨_, _, ⟨T84, L84, k84, n84⟩, -, X84, ⟨Lc84, hQ84, l84, y84, z84⟩, st84⟩ := X83.virtualBack hx (y := (⟨"com/example/latticut/latticut/lang/Comparison", "test", "(JJ)Z"⟩ : MethodName)) (z := (⟨"com/example/latticut/latticut/lang/Comparison", "test", "(JJ)Z"⟩ : MethodName)) hown (mvT hZ (hw _ (List.mem_of_getElem? (i := 16) rfl))) (mvT hZ (hw _ (List.mem_of_getElem? (i := 17) rfl))) (notFace_of_selects (args := #[]) (mvT hZ (hw _ (List.mem_of_getElem? (i := 19) rfl)))) (mvT hZ (hw _ (List.mem_of_getElem? (i := 19) rfl))) (mvT hZ (hw _ (List.mem_of_getElem? (i := 18) rfl))) (by decide) (backOf (W := 0) (rm5 l Z a0 hw [] w_NOT_EQUAL x2 x1 h0 n0 Z0 ((own_ar10 x1 x2 hc64 hc72)) F_whenLess_w_NOT_EQUAL E_w_NOT_EQUAL) hZ (hw _ (List.mem_of_getElem? (i := 20) rfl)) (hw _ (List.mem_of_getElem? (i := 6) rfl)) (by decide) (by decide)) q84a q84c (g := (mkF m 72 #[.val (.int x0), .val (.long x1), .second, .val (.long x2), .second, .val (.ref w_EQUAL), .val (.ref w_NOT_EQUAL), .val (.int (1 : Int32)), .val (.int (1 : Int32)), .unset] [(.long x1), (.long x2), (.ref w_NOT_EQUAL)])) rfl (by rw [hml]; rfl) (Steps.refl _) (argsL := [(.long x2), (.long x1)]) (rest := []) (lenOf pd_4 rfl) rfl (by show 2 * 0 + _ ≤ _; exact Nat.le_of_eq rfl) (hb hby at_72) (fun _ _ => ⟨rfl, e83, (by decide : 0 + 0 ≤ _), (by decide : 0 + 0 ≤ _)⟩)
        dsimp only [Pt.U, Pt.locs, Pt.cells, Pt.slots] at X84 l84 y84 z84 st84 hQ84
        subst l84 y84 z84
        obtain ⟨rfl, N84q, e84⟩ := hQ84
        have N84 := Fr.app N83 N84q
        obtain ⟨cq85, kq85, q85a, q85b, q85c⟩ := isOf hZ e84 E_w_EQUAL
        obtain ⟨_, _, ⟨T85, L85, k85, n85⟩, -, X85, ⟨Lc85, hQ85, l85, y85, z85⟩, st85⟩ := X84.virtualBack hx (y := (⟨"com/example/latticut/latticut/lang/Comparison", "test", "(JJ)Z"⟩ : MethodName)) (z := (⟨"com/example/latticut/latticut/lang/Comparison", "test", "(JJ)Z"⟩ : MethodName)) hown (mvT hZ (hw _ (List.mem_of_getElem? (i := 16) rfl))) (mvT hZ (hw _ (List.mem_of_getElem? (i := 17) rfl))) (notFace_of_selects (args := #[]) (mvT hZ (hw _ (List.mem_of_getElem? (i := 19) rfl)))) (mvT hZ (hw _ (List.mem_of_getElem? (i := 19) rfl))) (mvT hZ (hw _ (List.mem_of_getElem? (i := 18) rfl))) (by decide) (backOf (W := 1) (rm7 l Z a0 hw [] w_EQUAL x2 x1 h0 n0 Z0 ((own_ar10 x1 x2 hc64 hc72)) F_whenLess_w_EQUAL E_w_EQUAL) hZ (hw _ (List.mem_of_getElem? (i := 20) rfl)) (hw _ (List.mem_of_getElem? (i := 6) rfl)) (by decide) (by decide)) q85a q85c (g := (mkF m 79 #[.val (.int x0), .val (.long x1), .second, .val (.long x2), .second, .val (.ref w_EQUAL), .val (.ref w_NOT_EQUAL), .val (.int (1 : Int32)), .val (.int (1 : Int32)), .unset] [(.long x1), (.long x2), (.ref w_EQUAL), (.int (1 : Int32))])) rfl (by rw [hml]; rfl) (Steps.refl _) (argsL := [(.long x2), (.long x1)]) (rest := [(.int (1 : Int32))]) (lenOf pd_4 rfl) rfl (by show 2 * 0 + _ ≤ _; exact Nat.le_of_eq rfl) (hb hby at_79) (fun _ _ => ⟨rfl, e84, (by decide : 0 + 0 ≤ _), (by decide : 0 + 0 ≤ _)⟩)
        dsimp only [Pt.U, Pt.locs, Pt.cells, Pt.slots] at X85 l85 y85 z85 st85 hQ85
        subst l85 y85 z85
        obtain ⟨rfl, N85q, e85⟩ := hQ85
        have N85 := Fr.app N84 N85q
        have pre86 : ∀ t, Steps p.tables e below (T85.setTop (mkF m 112 #[.val (.int x0), .val (.long x1), .second, .val (.long x2), .second, .val (.ref w_EQUAL), .val (.ref w_NOT_EQUAL), .val (.int (1 : Int32)), .val (.int (1 : Int32)), .val (.int (1 : Int32))] [(.int (1 : Int32))])) t → Steps p.tables e below (s₁.setTop (entryFrame m #[(.int x0), (.long x1), (.long x2)] maxLocals)) t := fun t kk => pre63 t (by
          show Steps p.tables e below (T62.setTop (mkF m 24 #[.val (.int x0), .val (.long x1), .second, .val (.long x2), .second, .val (.ref w_EQUAL), .val (.ref w_NOT_EQUAL), .unset, .unset, .unset] [(.long x2), (.long x1), (.ref w_NOT_EQUAL)])) _
          refine st80.trans ?_
          show Steps p.tables e below (T80.setTop (mkF m 27 #[.val (.int x0), .val (.long x1), .second, .val (.long x2), .second, .val (.ref w_EQUAL), .val (.ref w_NOT_EQUAL), .unset, .unset, .unset] [(.int (1 : Int32))])) _
          refine XS.aload X80.here hx rfl (hb hby at_27) rfl rfl ?_
          show Steps p.tables e below (T80.setTop (mkF m 29 #[.val (.int x0), .val (.long x1), .second, .val (.long x2), .second, .val (.ref w_EQUAL), .val (.ref w_NOT_EQUAL), .unset, .unset, .unset] [(.ref w_EQUAL), (.int (1 : Int32))])) _
          refine XS.lloadN X80.here hx rfl (hb hby at_29) rfl ?_
          show Steps p.tables e below (T80.setTop (mkF m 30 #[.val (.int x0), .val (.long x1), .second, .val (.long x2), .second, .val (.ref w_EQUAL), .val (.ref w_NOT_EQUAL), .unset, .unset, .unset] [(.long x1), (.ref w_EQUAL), (.int (1 : Int32))])) _
          refine XS.lloadN X80.here hx rfl (hb hby at_30) rfl ?_
          show Steps p.tables e below (T80.setTop (mkF m 31 #[.val (.int x0), .val (.long x1), .second, .val (.long x2), .second, .val (.ref w_EQUAL), .val (.ref w_NOT_EQUAL), .unset, .unset, .unset] [(.long x2), (.long x1), (.ref w_EQUAL), (.int (1 : Int32))])) _
          refine st81.trans ?_
          show Steps p.tables e below (T81.setTop (mkF m 34 #[.val (.int x0), .val (.long x1), .second, .val (.long x2), .second, .val (.ref w_EQUAL), .val (.ref w_NOT_EQUAL), .unset, .unset, .unset] [(.int (0 : Int32)), (.int (1 : Int32))])) _
          refine XS.icmpNo X81.here hx rfl (hb hby at_34) rfl (feq ((by decide) : ¬ ((1 : Int32) = (0 : Int32)))).1 ?_
          show Steps p.tables e below (T81.setTop (mkF m 37 #[.val (.int x0), .val (.long x1), .second, .val (.long x2), .second, .val (.ref w_EQUAL), .val (.ref w_NOT_EQUAL), .unset, .unset, .unset] [])) _
          refine XS.iconst X81.here hx rfl (hb hby at_37) ?_
          show Steps p.tables e below (T81.setTop (mkF m 38 #[.val (.int x0), .val (.long x1), .second, .val (.long x2), .second, .val (.ref w_EQUAL), .val (.ref w_NOT_EQUAL), .unset, .unset, .unset] [(.int (1 : Int32))])) _
          refine XS.goto X81.here hx rfl (pc0 := 38) (pc' := 42) rfl (hb hby at_38) (by decide) (by decide) ?_
          show Steps p.tables e below (T81.setTop (mkF m 42 #[.val (.int x0), .val (.long x1), .second, .val (.long x2), .second, .val (.ref w_EQUAL), .val (.ref w_NOT_EQUAL), .unset, .unset, .unset] [(.int (1 : Int32))])) _
          refine XS.istore X81.here hx rfl (hb hby at_42) rfl (l' := #[.val (.int x0), .val (.long x1), .second, .val (.long x2), .second, .val (.ref w_EQUAL), .val (.ref w_NOT_EQUAL), .val (.int (1 : Int32)), .unset, .unset]) rfl ?_
          show Steps p.tables e below (T81.setTop (mkF m 44 #[.val (.int x0), .val (.long x1), .second, .val (.long x2), .second, .val (.ref w_EQUAL), .val (.ref w_NOT_EQUAL), .val (.int (1 : Int32)), .unset, .unset] [])) _
          refine XS.aload X81.here hx rfl (hb hby at_44) rfl rfl ?_
          show Steps p.tables e below (T81.setTop (mkF m 46 #[.val (.int x0), .val (.long x1), .second, .val (.long x2), .second, .val (.ref w_EQUAL), .val (.ref w_NOT_EQUAL), .val (.int (1 : Int32)), .unset, .unset] [(.ref w_NOT_EQUAL)])) _
          refine XS.lloadN X81.here hx rfl (hb hby at_46) rfl ?_
          show Steps p.tables e below (T81.setTop (mkF m 47 #[.val (.int x0), .val (.long x1), .second, .val (.long x2), .second, .val (.ref w_EQUAL), .val (.ref w_NOT_EQUAL), .val (.int (1 : Int32)), .unset, .unset] [(.long x1), (.ref w_NOT_EQUAL)])) _
          refine XS.lloadN X81.here hx rfl (hb hby at_47) rfl ?_
          show Steps p.tables e below (T81.setTop (mkF m 48 #[.val (.int x0), .val (.long x1), .second, .val (.long x2), .second, .val (.ref w_EQUAL), .val (.ref w_NOT_EQUAL), .val (.int (1 : Int32)), .unset, .unset] [(.long x1), (.long x1), (.ref w_NOT_EQUAL)])) _
          refine st82.trans ?_
          show Steps p.tables e below (T82.setTop (mkF m 51 #[.val (.int x0), .val (.long x1), .second, .val (.long x2), .second, .val (.ref w_EQUAL), .val (.ref w_NOT_EQUAL), .val (.int (1 : Int32)), .unset, .unset] [(.int (0 : Int32))])) _
          refine XS.aload X82.here hx rfl (hb hby at_51) rfl rfl ?_
          show Steps p.tables e below (T82.setTop (mkF m 53 #[.val (.int x0), .val (.long x1), .second, .val (.long x2), .second, .val (.ref w_EQUAL), .val (.ref w_NOT_EQUAL), .val (.int (1 : Int32)), .unset, .unset] [(.ref w_EQUAL), (.int (0 : Int32))])) _
          refine XS.lloadN X82.here hx rfl (hb hby at_53) rfl ?_
          show Steps p.tables e below (T82.setTop (mkF m 54 #[.val (.int x0), .val (.long x1), .second, .val (.long x2), .second, .val (.ref w_EQUAL), .val (.ref w_NOT_EQUAL), .val (.int (1 : Int32)), .unset, .unset] [(.long x1), (.ref w_EQUAL), (.int (0 : Int32))])) _
          refine XS.lloadN X82.here hx rfl (hb hby at_54) rfl ?_
          show Steps p.tables e below (T82.setTop (mkF m 55 #[.val (.int x0), .val (.long x1), .second, .val (.long x2), .second, .val (.ref w_EQUAL), .val (.ref w_NOT_EQUAL), .val (.int (1 : Int32)), .unset, .unset] [(.long x1), (.long x1), (.ref w_EQUAL), (.int (0 : Int32))])) _
          refine st83.trans ?_
          show Steps p.tables e below (T83.setTop (mkF m 58 #[.val (.int x0), .val (.long x1), .second, .val (.long x2), .second, .val (.ref w_EQUAL), .val (.ref w_NOT_EQUAL), .val (.int (1 : Int32)), .unset, .unset] [(.int (1 : Int32)), (.int (0 : Int32))])) _
          refine XS.icmpNo X83.here hx rfl (hb hby at_58) rfl (feq ((by decide) : ¬ ((0 : Int32) = (1 : Int32)))).1 ?_
          show Steps p.tables e below (T83.setTop (mkF m 61 #[.val (.int x0), .val (.long x1), .second, .val (.long x2), .second, .val (.ref w_EQUAL), .val (.ref w_NOT_EQUAL), .val (.int (1 : Int32)), .unset, .unset] [])) _
          refine XS.iconst X83.here hx rfl (hb hby at_61) ?_
          show Steps p.tables e below (T83.setTop (mkF m 62 #[.val (.int x0), .val (.long x1), .second, .val (.long x2), .second, .val (.ref w_EQUAL), .val (.ref w_NOT_EQUAL), .val (.int (1 : Int32)), .unset, .unset] [(.int (1 : Int32))])) _
          refine XS.goto X83.here hx rfl (pc0 := 62) (pc' := 66) rfl (hb hby at_62) (by decide) (by decide) ?_
          show Steps p.tables e below (T83.setTop (mkF m 66 #[.val (.int x0), .val (.long x1), .second, .val (.long x2), .second, .val (.ref w_EQUAL), .val (.ref w_NOT_EQUAL), .val (.int (1 : Int32)), .unset, .unset] [(.int (1 : Int32))])) _
          refine XS.istore X83.here hx rfl (hb hby at_66) rfl (l' := #[.val (.int x0), .val (.long x1), .second, .val (.long x2), .second, .val (.ref w_EQUAL), .val (.ref w_NOT_EQUAL), .val (.int (1 : Int32)), .val (.int (1 : Int32)), .unset]) rfl ?_
          show Steps p.tables e below (T83.setTop (mkF m 68 #[.val (.int x0), .val (.long x1), .second, .val (.long x2), .second, .val (.ref w_EQUAL), .val (.ref w_NOT_EQUAL), .val (.int (1 : Int32)), .val (.int (1 : Int32)), .unset] [])) _
          refine XS.aload X83.here hx rfl (hb hby at_68) rfl rfl ?_
          show Steps p.tables e below (T83.setTop (mkF m 70 #[.val (.int x0), .val (.long x1), .second, .val (.long x2), .second, .val (.ref w_EQUAL), .val (.ref w_NOT_EQUAL), .val (.int (1 : Int32)), .val (.int (1 : Int32)), .unset] [(.ref w_NOT_EQUAL)])) _
          refine XS.lloadN X83.here hx rfl (hb hby at_70) rfl ?_
          show Steps p.tables e below (T83.setTop (mkF m 71 #[.val (.int x0), .val (.long x1), .second, .val (.long x2), .second, .val (.ref w_EQUAL), .val (.ref w_NOT_EQUAL), .val (.int (1 : Int32)), .val (.int (1 : Int32)), .unset] [(.long x2), (.ref w_NOT_EQUAL)])) _
          refine XS.lloadN X83.here hx rfl (hb hby at_71) rfl ?_
          show Steps p.tables e below (T83.setTop (mkF m 72 #[.val (.int x0), .val (.long x1), .second, .val (.long x2), .second, .val (.ref w_EQUAL), .val (.ref w_NOT_EQUAL), .val (.int (1 : Int32)), .val (.int (1 : Int32)), .unset] [(.long x1), (.long x2), (.ref w_NOT_EQUAL)])) _
          refine st84.trans ?_
          show Steps p.tables e below (T84.setTop (mkF m 75 #[.val (.int x0), .val (.long x1), .second, .val (.long x2), .second, .val (.ref w_EQUAL), .val (.ref w_NOT_EQUAL), .val (.int (1 : Int32)), .val (.int (1 : Int32)), .unset] [(.int (1 : Int32))])) _
          refine XS.aload X84.here hx rfl (hb hby at_75) rfl rfl ?_
          show Steps p.tables e below (T84.setTop (mkF m 77 #[.val (.int x0), .val (.long x1), .second, .val (.long x2), .second, .val (.ref w_EQUAL), .val (.ref w_NOT_EQUAL), .val (.int (1 : Int32)), .val (.int (1 : Int32)), .unset] [(.ref w_EQUAL), (.int (1 : Int32))])) _
          refine XS.lloadN X84.here hx rfl (hb hby at_77) rfl ?_
          show Steps p.tables e below (T84.setTop (mkF m 78 #[.val (.int x0), .val (.long x1), .second, .val (.long x2), .second, .val (.ref w_EQUAL), .val (.ref w_NOT_EQUAL), .val (.int (1 : Int32)), .val (.int (1 : Int32)), .unset] [(.long x2), (.ref w_EQUAL), (.int (1 : Int32))])) _
          refine XS.lloadN X84.here hx rfl (hb hby at_78) rfl ?_
          show Steps p.tables e below (T84.setTop (mkF m 79 #[.val (.int x0), .val (.long x1), .second, .val (.long x2), .second, .val (.ref w_EQUAL), .val (.ref w_NOT_EQUAL), .val (.int (1 : Int32)), .val (.int (1 : Int32)), .unset] [(.long x1), (.long x2), (.ref w_EQUAL), (.int (1 : Int32))])) _
          refine st85.trans ?_
          show Steps p.tables e below (T85.setTop (mkF m 82 #[.val (.int x0), .val (.long x1), .second, .val (.long x2), .second, .val (.ref w_EQUAL), .val (.ref w_NOT_EQUAL), .val (.int (1 : Int32)), .val (.int (1 : Int32)), .unset] [(.int (0 : Int32)), (.int (1 : Int32))])) _
          refine XS.icmpNo X85.here hx rfl (hb hby at_82) rfl (feq ((by decide) : ¬ ((1 : Int32) = (0 : Int32)))).1 ?_
          show Steps p.tables e below (T85.setTop (mkF m 85 #[.val (.int x0), .val (.long x1), .second, .val (.long x2), .second, .val (.ref w_EQUAL), .val (.ref w_NOT_EQUAL), .val (.int (1 : Int32)), .val (.int (1 : Int32)), .unset] [])) _
          refine XS.iconst X85.here hx rfl (hb hby at_85) ?_
          show Steps p.tables e below (T85.setTop (mkF m 86 #[.val (.int x0), .val (.long x1), .second, .val (.long x2), .second, .val (.ref w_EQUAL), .val (.ref w_NOT_EQUAL), .val (.int (1 : Int32)), .val (.int (1 : Int32)), .unset] [(.int (1 : Int32))])) _
          refine XS.goto X85.here hx rfl (pc0 := 86) (pc' := 90) rfl (hb hby at_86) (by decide) (by decide) ?_
          show Steps p.tables e below (T85.setTop (mkF m 90 #[.val (.int x0), .val (.long x1), .second, .val (.long x2), .second, .val (.ref w_EQUAL), .val (.ref w_NOT_EQUAL), .val (.int (1 : Int32)), .val (.int (1 : Int32)), .unset] [(.int (1 : Int32))])) _
          refine XS.istore X85.here hx rfl (hb hby at_90) rfl (l' := #[.val (.int x0), .val (.long x1), .second, .val (.long x2), .second, .val (.ref w_EQUAL), .val (.ref w_NOT_EQUAL), .val (.int (1 : Int32)), .val (.int (1 : Int32)), .val (.int (1 : Int32))]) rfl ?_
          show Steps p.tables e below (T85.setTop (mkF m 92 #[.val (.int x0), .val (.long x1), .second, .val (.long x2), .second, .val (.ref w_EQUAL), .val (.ref w_NOT_EQUAL), .val (.int (1 : Int32)), .val (.int (1 : Int32)), .val (.int (1 : Int32))] [])) _
          refine XS.iload X85.here hx rfl (hb hby at_92) rfl ?_
          show Steps p.tables e below (T85.setTop (mkF m 94 #[.val (.int x0), .val (.long x1), .second, .val (.long x2), .second, .val (.ref w_EQUAL), .val (.ref w_NOT_EQUAL), .val (.int (1 : Int32)), .val (.int (1 : Int32)), .val (.int (1 : Int32))] [(.int (1 : Int32))])) _
          refine XS.ifNo X85.here hx rfl (hb hby at_94) rfl ((if0 _ _).trans (feq ((by decide) : ¬ ((1 : Int32) = (0 : Int32)))).1) ?_
          show Steps p.tables e below (T85.setTop (mkF m 97 #[.val (.int x0), .val (.long x1), .second, .val (.long x2), .second, .val (.ref w_EQUAL), .val (.ref w_NOT_EQUAL), .val (.int (1 : Int32)), .val (.int (1 : Int32)), .val (.int (1 : Int32))] [])) _
          refine XS.iload X85.here hx rfl (hb hby at_97) rfl ?_
          show Steps p.tables e below (T85.setTop (mkF m 99 #[.val (.int x0), .val (.long x1), .second, .val (.long x2), .second, .val (.ref w_EQUAL), .val (.ref w_NOT_EQUAL), .val (.int (1 : Int32)), .val (.int (1 : Int32)), .val (.int (1 : Int32))] [(.int (1 : Int32))])) _
          refine XS.ifNo X85.here hx rfl (hb hby at_99) rfl ((if0 _ _).trans (feq ((by decide) : ¬ ((1 : Int32) = (0 : Int32)))).1) ?_
          show Steps p.tables e below (T85.setTop (mkF m 102 #[.val (.int x0), .val (.long x1), .second, .val (.long x2), .second, .val (.ref w_EQUAL), .val (.ref w_NOT_EQUAL), .val (.int (1 : Int32)), .val (.int (1 : Int32)), .val (.int (1 : Int32))] [])) _
          refine XS.iload X85.here hx rfl (hb hby at_102) rfl ?_
          show Steps p.tables e below (T85.setTop (mkF m 104 #[.val (.int x0), .val (.long x1), .second, .val (.long x2), .second, .val (.ref w_EQUAL), .val (.ref w_NOT_EQUAL), .val (.int (1 : Int32)), .val (.int (1 : Int32)), .val (.int (1 : Int32))] [(.int (1 : Int32))])) _
          refine XS.ifNo X85.here hx rfl (hb hby at_104) rfl ((if0 _ _).trans (feq ((by decide) : ¬ ((1 : Int32) = (0 : Int32)))).1) ?_
          show Steps p.tables e below (T85.setTop (mkF m 107 #[.val (.int x0), .val (.long x1), .second, .val (.long x2), .second, .val (.ref w_EQUAL), .val (.ref w_NOT_EQUAL), .val (.int (1 : Int32)), .val (.int (1 : Int32)), .val (.int (1 : Int32))] [])) _
          refine XS.iconst X85.here hx rfl (hb hby at_107) ?_
          show Steps p.tables e below (T85.setTop (mkF m 108 #[.val (.int x0), .val (.long x1), .second, .val (.long x2), .second, .val (.ref w_EQUAL), .val (.ref w_NOT_EQUAL), .val (.int (1 : Int32)), .val (.int (1 : Int32)), .val (.int (1 : Int32))] [(.int (1 : Int32))])) _
          refine XS.goto X85.here hx rfl (pc0 := 108) (pc' := 112) rfl (hb hby at_108) (by decide) (by decide) ?_
          exact kk)
        obtain ⟨fs, hr, hrun, hended, hW, hsame⟩ := X85.leave (v := some (.int (1 : Int32))) (fun h => by rw [Bd.returns] at h; cases h)
        refine ⟨_, _, pre86 _ ?_, hrun, hended, _, _, rfl, ?_, ⟨_, rfl⟩, hW, hsame.mono (by decide) (by decide)⟩
        · exact retN X85 hx (t := .boolean) Bd.returns (by simp) (hb hby at_112) hr
        · exact ⟨rfl, N85⟩
  ·
    by_cases hc87 : ((x0 &&& (2147483647 : Int32)) % (6 : Int32)) = (1 : Int32)
    ·
      obtain ⟨_, _, ⟨T88, L88, k88, n88⟩, -, X88, ⟨Lc88, hQ88, l88, y88, z88⟩, st88⟩ := Jvm.LawKit.callS X0 hx (y := (⟨"com/example/latticut/latticut/lang/ComparisonNegatedPinLaw", "pick", "(I)Lcom/example/latticut/latticut/lang/Comparison;"⟩ : MethodName)) hown (mvT hZ (hw _ (List.mem_of_getElem? (i := 0) rfl))) (mvT hZ (hw _ (List.mem_of_getElem? (i := 1) rfl))) (mvT hZ (hw _ (List.mem_of_getElem? (i := 2) rfl))) (mvT hZ (hw _ (List.mem_of_getElem? (i := 3) rfl))) (by decide) (backOf (W := 0) (rm21 l Z a0 hw [] x0 w_NOT_EQUAL h0 n0 Z0 hc60 hc87 S_w_NOT_EQUAL) hZ (hw _ (List.mem_of_getElem? (i := 3) rfl)) (hw _ (List.mem_of_getElem? (i := 2) rfl)) (by decide) (by decide)) (g := (mkF m 1 #[.val (.int x0), .val (.long x1), .second, .val (.long x2), .second, .unset, .unset, .unset, .unset, .unset] [(.int x0)])) rfl (by rw [hml]; rfl) (argsL := [(.int x0)]) (rest := []) (lenOf pd_0 rfl) rfl (by show 2 * 0 + _ ≤ _; exact Nat.le_of_eq rfl) (hb hby at_1) (fun _ _ => ⟨rfl, e0, (by decide : 0 + 0 ≤ _), (by decide : 0 + 0 ≤ _)⟩)
      dsimp only [Pt.U, Pt.locs, Pt.cells, Pt.slots] at X88 l88 y88 z88 st88 hQ88
      subst l88 y88 z88
      obtain ⟨rfl, N88q, e88⟩ := hQ88
      have N88 := Fr.app N0 N88q
      obtain ⟨cq89, kq89, q89a, q89b, q89c⟩ := isOf hZ e88 E_w_NOT_EQUAL
      obtain ⟨_, _, ⟨T89, L89, k89, n89⟩, -, X89, ⟨Lc89, hQ89, l89, y89, z89⟩, st89⟩ := X88.virtualBack hx (y := (⟨"com/example/latticut/latticut/lang/Comparison", "negated", "()Lcom/example/latticut/latticut/lang/Comparison;"⟩ : MethodName)) (z := (⟨"com/example/latticut/latticut/lang/Comparison", "negated", "()Lcom/example/latticut/latticut/lang/Comparison;"⟩ : MethodName)) hown (mvT hZ (hw _ (List.mem_of_getElem? (i := 8) rfl))) (mvT hZ (hw _ (List.mem_of_getElem? (i := 9) rfl))) (notFace_of_selects (args := #[]) (mvT hZ (hw _ (List.mem_of_getElem? (i := 11) rfl)))) (mvT hZ (hw _ (List.mem_of_getElem? (i := 11) rfl))) (mvT hZ (hw _ (List.mem_of_getElem? (i := 10) rfl))) (by decide) (backOf (W := 0) (rm22 l Z a0 hw [] w_NOT_EQUAL w_EQUAL h0 n0 Z0 S_w_EQUAL ((Fld.ne F_whenGreater_w_NOT_EQUAL F_whenGreater_w_EQUAL (by decide))) S_w_NOT_EQUAL) hZ (hw _ (List.mem_of_getElem? (i := 12) rfl)) (hw _ (List.mem_of_getElem? (i := 6) rfl)) (by decide) (by decide)) q89a q89c (g := (mkF m 8 #[.val (.int x0), .val (.long x1), .second, .val (.long x2), .second, .val (.ref w_NOT_EQUAL), .unset, .unset, .unset, .unset] [(.ref w_NOT_EQUAL)])) rfl (by rw [hml]; rfl) (Steps.refl _) (argsL := []) (rest := []) (lenOf pd_1 rfl) rfl (by show 2 * 0 + _ ≤ _; exact Nat.le_of_eq rfl) (hb hby at_8) (fun _ _ => ⟨rfl, e88, (by decide : 0 + 0 ≤ _), (by decide : 0 + 0 ≤ _)⟩)
      dsimp only [Pt.U, Pt.locs, Pt.cells, Pt.slots] at X89 l89 y89 z89 st89 hQ89
      subst l89 y89 z89
      obtain ⟨rfl, N89q, e89⟩ := hQ89
      have N89 := Fr.app N88 N89q
      have pre90 : ∀ t, Steps p.tables e below (T89.setTop (mkF m 24 #[.val (.int x0), .val (.long x1), .second, .val (.long x2), .second, .val (.ref w_NOT_EQUAL), .val (.ref w_EQUAL), .unset, .unset, .unset] [(.long x2), (.long x1), (.ref w_EQUAL)])) t → Steps p.tables e below (s₁.setTop (entryFrame m #[(.int x0), (.long x1), (.long x2)] maxLocals)) t := fun t kk => pre59 t (by
        show Steps p.tables e below (s₁.setTop (mkF m 1 #[.val (.int x0), .val (.long x1), .second, .val (.long x2), .second, .unset, .unset, .unset, .unset, .unset] [(.int x0)])) _
        refine st88 _ ?_
        show Steps p.tables e below (T88.setTop (mkF m 4 #[.val (.int x0), .val (.long x1), .second, .val (.long x2), .second, .unset, .unset, .unset, .unset, .unset] [(.ref w_NOT_EQUAL)])) _
        refine XS.astore X88.here hx rfl (hb hby at_4) rfl rfl (l' := #[.val (.int x0), .val (.long x1), .second, .val (.long x2), .second, .val (.ref w_NOT_EQUAL), .unset, .unset, .unset, .unset]) rfl ?_
        show Steps p.tables e below (T88.setTop (mkF m 6 #[.val (.int x0), .val (.long x1), .second, .val (.long x2), .second, .val (.ref w_NOT_EQUAL), .unset, .unset, .unset, .unset] [])) _
        refine XS.aload X88.here hx rfl (hb hby at_6) rfl rfl ?_
        show Steps p.tables e below (T88.setTop (mkF m 8 #[.val (.int x0), .val (.long x1), .second, .val (.long x2), .second, .val (.ref w_NOT_EQUAL), .unset, .unset, .unset, .unset] [(.ref w_NOT_EQUAL)])) _
        refine st89.trans ?_
        show Steps p.tables e below (T89.setTop (mkF m 11 #[.val (.int x0), .val (.long x1), .second, .val (.long x2), .second, .val (.ref w_NOT_EQUAL), .unset, .unset, .unset, .unset] [(.ref w_EQUAL)])) _
        refine XS.astore X89.here hx rfl (hb hby at_11) rfl rfl (l' := #[.val (.int x0), .val (.long x1), .second, .val (.long x2), .second, .val (.ref w_NOT_EQUAL), .val (.ref w_EQUAL), .unset, .unset, .unset]) rfl ?_
        show Steps p.tables e below (T89.setTop (mkF m 13 #[.val (.int x0), .val (.long x1), .second, .val (.long x2), .second, .val (.ref w_NOT_EQUAL), .val (.ref w_EQUAL), .unset, .unset, .unset] [])) _
        refine XS.aload X89.here hx rfl (hb hby at_13) rfl rfl ?_
        show Steps p.tables e below (T89.setTop (mkF m 15 #[.val (.int x0), .val (.long x1), .second, .val (.long x2), .second, .val (.ref w_NOT_EQUAL), .val (.ref w_EQUAL), .unset, .unset, .unset] [(.ref w_EQUAL)])) _
        refine XS.ifnonnullYes X89.here hx rfl (pc0 := 15) (pc' := 20) rfl (hb hby at_15) rfl (by decide) (by decide) ?_
        show Steps p.tables e below (T89.setTop (mkF m 20 #[.val (.int x0), .val (.long x1), .second, .val (.long x2), .second, .val (.ref w_NOT_EQUAL), .val (.ref w_EQUAL), .unset, .unset, .unset] [])) _
        refine XS.aload X89.here hx rfl (hb hby at_20) rfl rfl ?_
        show Steps p.tables e below (T89.setTop (mkF m 22 #[.val (.int x0), .val (.long x1), .second, .val (.long x2), .second, .val (.ref w_NOT_EQUAL), .val (.ref w_EQUAL), .unset, .unset, .unset] [(.ref w_EQUAL)])) _
        refine XS.lloadN X89.here hx rfl (hb hby at_22) rfl ?_
        show Steps p.tables e below (T89.setTop (mkF m 23 #[.val (.int x0), .val (.long x1), .second, .val (.long x2), .second, .val (.ref w_NOT_EQUAL), .val (.ref w_EQUAL), .unset, .unset, .unset] [(.long x1), (.ref w_EQUAL)])) _
        refine XS.lloadN X89.here hx rfl (hb hby at_23) rfl ?_
        exact kk)
      by_cases hc91 : (lcmpW x1 x2) < (0 : Int32)
      ·
        obtain ⟨cq92, kq92, q92a, q92b, q92c⟩ := isOf hZ e89 E_w_EQUAL
        obtain ⟨_, _, ⟨T92, L92, k92, n92⟩, -, X92, ⟨Lc92, hQ92, l92, y92, z92⟩, st92⟩ := X89.virtualBack hx (y := (⟨"com/example/latticut/latticut/lang/Comparison", "test", "(JJ)Z"⟩ : MethodName)) (z := (⟨"com/example/latticut/latticut/lang/Comparison", "test", "(JJ)Z"⟩ : MethodName)) hown (mvT hZ (hw _ (List.mem_of_getElem? (i := 16) rfl))) (mvT hZ (hw _ (List.mem_of_getElem? (i := 17) rfl))) (notFace_of_selects (args := #[]) (mvT hZ (hw _ (List.mem_of_getElem? (i := 19) rfl)))) (mvT hZ (hw _ (List.mem_of_getElem? (i := 19) rfl))) (mvT hZ (hw _ (List.mem_of_getElem? (i := 18) rfl))) (by decide) (backOf (W := 0) (rm7 l Z a0 hw [] w_EQUAL x1 x2 h0 n0 Z0 hc91 F_whenLess_w_EQUAL E_w_EQUAL) hZ (hw _ (List.mem_of_getElem? (i := 20) rfl)) (hw _ (List.mem_of_getElem? (i := 6) rfl)) (by decide) (by decide)) q92a q92c (g := (mkF m 24 #[.val (.int x0), .val (.long x1), .second, .val (.long x2), .second, .val (.ref w_NOT_EQUAL), .val (.ref w_EQUAL), .unset, .unset, .unset] [(.long x2), (.long x1), (.ref w_EQUAL)])) rfl (by rw [hml]; rfl) (Steps.refl _) (argsL := [(.long x1), (.long x2)]) (rest := []) (lenOf pd_4 rfl) rfl (by show 2 * 0 + _ ≤ _; exact Nat.le_of_eq rfl) (hb hby at_24) (fun _ _ => ⟨rfl, e89, (by decide : 0 + 0 ≤ _), (by decide : 0 + 0 ≤ _)⟩)
        dsimp only [Pt.U, Pt.locs, Pt.cells, Pt.slots] at X92 l92 y92 z92 st92 hQ92
        subst l92 y92 z92
        obtain ⟨rfl, N92q, e92⟩ := hQ92
        have N92 := Fr.app N89 N92q
        obtain ⟨cq93, kq93, q93a, q93b, q93c⟩ := isOf hZ e92 E_w_NOT_EQUAL
        obtain ⟨_, _, ⟨T93, L93, k93, n93⟩, -, X93, ⟨Lc93, hQ93, l93, y93, z93⟩, st93⟩ := X92.virtualBack hx (y := (⟨"com/example/latticut/latticut/lang/Comparison", "test", "(JJ)Z"⟩ : MethodName)) (z := (⟨"com/example/latticut/latticut/lang/Comparison", "test", "(JJ)Z"⟩ : MethodName)) hown (mvT hZ (hw _ (List.mem_of_getElem? (i := 16) rfl))) (mvT hZ (hw _ (List.mem_of_getElem? (i := 17) rfl))) (notFace_of_selects (args := #[]) (mvT hZ (hw _ (List.mem_of_getElem? (i := 19) rfl)))) (mvT hZ (hw _ (List.mem_of_getElem? (i := 19) rfl))) (mvT hZ (hw _ (List.mem_of_getElem? (i := 18) rfl))) (by decide) (backOf (W := 1) (rm5 l Z a0 hw [] w_NOT_EQUAL x1 x2 h0 n0 Z0 hc91 F_whenLess_w_NOT_EQUAL E_w_NOT_EQUAL) hZ (hw _ (List.mem_of_getElem? (i := 20) rfl)) (hw _ (List.mem_of_getElem? (i := 6) rfl)) (by decide) (by decide)) q93a q93c (g := (mkF m 31 #[.val (.int x0), .val (.long x1), .second, .val (.long x2), .second, .val (.ref w_NOT_EQUAL), .val (.ref w_EQUAL), .unset, .unset, .unset] [(.long x2), (.long x1), (.ref w_NOT_EQUAL), (.int (0 : Int32))])) rfl (by rw [hml]; rfl) (Steps.refl _) (argsL := [(.long x1), (.long x2)]) (rest := [(.int (0 : Int32))]) (lenOf pd_4 rfl) rfl (by show 2 * 0 + _ ≤ _; exact Nat.le_of_eq rfl) (hb hby at_31) (fun _ _ => ⟨rfl, e92, (by decide : 0 + 0 ≤ _), (by decide : 0 + 0 ≤ _)⟩)
        dsimp only [Pt.U, Pt.locs, Pt.cells, Pt.slots] at X93 l93 y93 z93 st93 hQ93
        subst l93 y93 z93
        obtain ⟨rfl, N93q, e93⟩ := hQ93
        have N93 := Fr.app N92 N93q
        obtain ⟨cq94, kq94, q94a, q94b, q94c⟩ := isOf hZ e93 E_w_EQUAL
        obtain ⟨_, _, ⟨T94, L94, k94, n94⟩, -, X94, ⟨Lc94, hQ94, l94, y94, z94⟩, st94⟩ := X93.virtualBack hx (y := (⟨"com/example/latticut/latticut/lang/Comparison", "test", "(JJ)Z"⟩ : MethodName)) (z := (⟨"com/example/latticut/latticut/lang/Comparison", "test", "(JJ)Z"⟩ : MethodName)) hown (mvT hZ (hw _ (List.mem_of_getElem? (i := 16) rfl))) (mvT hZ (hw _ (List.mem_of_getElem? (i := 17) rfl))) (notFace_of_selects (args := #[]) (mvT hZ (hw _ (List.mem_of_getElem? (i := 19) rfl)))) (mvT hZ (hw _ (List.mem_of_getElem? (i := 19) rfl))) (mvT hZ (hw _ (List.mem_of_getElem? (i := 18) rfl))) (by decide) (backOf (W := 0) (rm12 l Z a0 hw [] w_EQUAL x1 h0 n0 Z0 ((own_ar0 x1 x2 hc91)) ((own_ar1 x1 x2 hc91)) F_whenEqual_w_EQUAL E_w_EQUAL) hZ (hw _ (List.mem_of_getElem? (i := 20) rfl)) (hw _ (List.mem_of_getElem? (i := 6) rfl)) (by decide) (by decide)) q94a q94c (g := (mkF m 48 #[.val (.int x0), .val (.long x1), .second, .val (.long x2), .second, .val (.ref w_NOT_EQUAL), .val (.ref w_EQUAL), .val (.int (1 : Int32)), .unset, .unset] [(.long x1), (.long x1), (.ref w_EQUAL)])) rfl (by rw [hml]; rfl) (Steps.refl _) (argsL := [(.long x1), (.long x1)]) (rest := []) (lenOf pd_4 rfl) rfl (by show 2 * 0 + _ ≤ _; exact Nat.le_of_eq rfl) (hb hby at_48) (fun _ _ => ⟨rfl, e93, (by decide : 0 + 0 ≤ _), (by decide : 0 + 0 ≤ _)⟩)
        dsimp only [Pt.U, Pt.locs, Pt.cells, Pt.slots] at X94 l94 y94 z94 st94 hQ94
        subst l94 y94 z94
        obtain ⟨rfl, N94q, e94⟩ := hQ94
        have N94 := Fr.app N93 N94q
        obtain ⟨cq95, kq95, q95a, q95b, q95c⟩ := isOf hZ e94 E_w_NOT_EQUAL
        obtain ⟨_, _, ⟨T95, L95, k95, n95⟩, -, X95, ⟨Lc95, hQ95, l95, y95, z95⟩, st95⟩ := X94.virtualBack hx (y := (⟨"com/example/latticut/latticut/lang/Comparison", "test", "(JJ)Z"⟩ : MethodName)) (z := (⟨"com/example/latticut/latticut/lang/Comparison", "test", "(JJ)Z"⟩ : MethodName)) hown (mvT hZ (hw _ (List.mem_of_getElem? (i := 16) rfl))) (mvT hZ (hw _ (List.mem_of_getElem? (i := 17) rfl))) (notFace_of_selects (args := #[]) (mvT hZ (hw _ (List.mem_of_getElem? (i := 19) rfl)))) (mvT hZ (hw _ (List.mem_of_getElem? (i := 19) rfl))) (mvT hZ (hw _ (List.mem_of_getElem? (i := 18) rfl))) (by decide) (backOf (W := 1) (rm10 l Z a0 hw [] w_NOT_EQUAL x1 h0 n0 Z0 ((own_ar0 x1 x2 hc91)) ((own_ar1 x1 x2 hc91)) F_whenEqual_w_NOT_EQUAL E_w_NOT_EQUAL) hZ (hw _ (List.mem_of_getElem? (i := 20) rfl)) (hw _ (List.mem_of_getElem? (i := 6) rfl)) (by decide) (by decide)) q95a q95c (g := (mkF m 55 #[.val (.int x0), .val (.long x1), .second, .val (.long x2), .second, .val (.ref w_NOT_EQUAL), .val (.ref w_EQUAL), .val (.int (1 : Int32)), .unset, .unset] [(.long x1), (.long x1), (.ref w_NOT_EQUAL), (.int (1 : Int32))])) rfl (by rw [hml]; rfl) (Steps.refl _) (argsL := [(.long x1), (.long x1)]) (rest := [(.int (1 : Int32))]) (lenOf pd_4 rfl) rfl (by show 2 * 0 + _ ≤ _; exact Nat.le_of_eq rfl) (hb hby at_55) (fun _ _ => ⟨rfl, e94, (by decide : 0 + 0 ≤ _), (by decide : 0 + 0 ≤ _)⟩)
        dsimp only [Pt.U, Pt.locs, Pt.cells, Pt.slots] at X95 l95 y95 z95 st95 hQ95
        subst l95 y95 z95
        obtain ⟨rfl, N95q, e95⟩ := hQ95
        have N95 := Fr.app N94 N95q
        obtain ⟨cq96, kq96, q96a, q96b, q96c⟩ := isOf hZ e95 E_w_EQUAL
        obtain ⟨_, _, ⟨T96, L96, k96, n96⟩, -, X96, ⟨Lc96, hQ96, l96, y96, z96⟩, st96⟩ := X95.virtualBack hx (y := (⟨"com/example/latticut/latticut/lang/Comparison", "test", "(JJ)Z"⟩ : MethodName)) (z := (⟨"com/example/latticut/latticut/lang/Comparison", "test", "(JJ)Z"⟩ : MethodName)) hown (mvT hZ (hw _ (List.mem_of_getElem? (i := 16) rfl))) (mvT hZ (hw _ (List.mem_of_getElem? (i := 17) rfl))) (notFace_of_selects (args := #[]) (mvT hZ (hw _ (List.mem_of_getElem? (i := 19) rfl)))) (mvT hZ (hw _ (List.mem_of_getElem? (i := 19) rfl))) (mvT hZ (hw _ (List.mem_of_getElem? (i := 18) rfl))) (by decide) (backOf (W := 0) (rm17 l Z a0 hw [] w_EQUAL x2 x1 h0 n0 Z0 ((own_ar2 x1 x2 hc91)) ((own_ar3 x1 x2 hc91)) F_whenGreater_w_EQUAL E_w_EQUAL) hZ (hw _ (List.mem_of_getElem? (i := 20) rfl)) (hw _ (List.mem_of_getElem? (i := 6) rfl)) (by decide) (by decide)) q96a q96c (g := (mkF m 72 #[.val (.int x0), .val (.long x1), .second, .val (.long x2), .second, .val (.ref w_NOT_EQUAL), .val (.ref w_EQUAL), .val (.int (1 : Int32)), .val (.int (1 : Int32)), .unset] [(.long x1), (.long x2), (.ref w_EQUAL)])) rfl (by rw [hml]; rfl) (Steps.refl _) (argsL := [(.long x2), (.long x1)]) (rest := []) (lenOf pd_4 rfl) rfl (by show 2 * 0 + _ ≤ _; exact Nat.le_of_eq rfl) (hb hby at_72) (fun _ _ => ⟨rfl, e95, (by decide : 0 + 0 ≤ _), (by decide : 0 + 0 ≤ _)⟩)
        dsimp only [Pt.U, Pt.locs, Pt.cells, Pt.slots] at X96 l96 y96 z96 st96 hQ96
        subst l96 y96 z96
        obtain ⟨rfl, N96q, e96⟩ := hQ96
        have N96 := Fr.app N95 N96q
        obtain ⟨cq97, kq97, q97a, q97b, q97c⟩ := isOf hZ e96 E_w_NOT_EQUAL
        obtain ⟨_, _, ⟨T97, L97, k97, n97⟩, -, X97, ⟨Lc97, hQ97, l97, y97, z97⟩, st97⟩ := X96.virtualBack hx (y := (⟨"com/example/latticut/latticut/lang/Comparison", "test", "(JJ)Z"⟩ : MethodName)) (z := (⟨"com/example/latticut/latticut/lang/Comparison", "test", "(JJ)Z"⟩ : MethodName)) hown (mvT hZ (hw _ (List.mem_of_getElem? (i := 16) rfl))) (mvT hZ (hw _ (List.mem_of_getElem? (i := 17) rfl))) (notFace_of_selects (args := #[]) (mvT hZ (hw _ (List.mem_of_getElem? (i := 19) rfl)))) (mvT hZ (hw _ (List.mem_of_getElem? (i := 19) rfl))) (mvT hZ (hw _ (List.mem_of_getElem? (i := 18) rfl))) (by decide) (backOf (W := 1) (rm15 l Z a0 hw [] w_NOT_EQUAL x2 x1 h0 n0 Z0 ((own_ar2 x1 x2 hc91)) ((own_ar3 x1 x2 hc91)) F_whenGreater_w_NOT_EQUAL E_w_NOT_EQUAL) hZ (hw _ (List.mem_of_getElem? (i := 20) rfl)) (hw _ (List.mem_of_getElem? (i := 6) rfl)) (by decide) (by decide)) q97a q97c (g := (mkF m 79 #[.val (.int x0), .val (.long x1), .second, .val (.long x2), .second, .val (.ref w_NOT_EQUAL), .val (.ref w_EQUAL), .val (.int (1 : Int32)), .val (.int (1 : Int32)), .unset] [(.long x1), (.long x2), (.ref w_NOT_EQUAL), (.int (0 : Int32))])) rfl (by rw [hml]; rfl) (Steps.refl _) (argsL := [(.long x2), (.long x1)]) (rest := [(.int (0 : Int32))]) (lenOf pd_4 rfl) rfl (by show 2 * 0 + _ ≤ _; exact Nat.le_of_eq rfl) (hb hby at_79) (fun _ _ => ⟨rfl, e96, (by decide : 0 + 0 ≤ _), (by decide : 0 + 0 ≤ _)⟩)
        dsimp only [Pt.U, Pt.locs, Pt.cells, Pt.slots] at X97 l97 y97 z97 st97 hQ97
        subst l97 y97 z97
        obtain ⟨rfl, N97q, e97⟩ := hQ97
        have N97 := Fr.app N96 N97q
        have pre98 : ∀ t, Steps p.tables e below (T97.setTop (mkF m 112 #[.val (.int x0), .val (.long x1), .second, .val (.long x2), .second, .val (.ref w_NOT_EQUAL), .val (.ref w_EQUAL), .val (.int (1 : Int32)), .val (.int (1 : Int32)), .val (.int (1 : Int32))] [(.int (1 : Int32))])) t → Steps p.tables e below (s₁.setTop (entryFrame m #[(.int x0), (.long x1), (.long x2)] maxLocals)) t := fun t kk => pre90 t (by
          show Steps p.tables e below (T89.setTop (mkF m 24 #[.val (.int x0), .val (.long x1), .second, .val (.long x2), .second, .val (.ref w_NOT_EQUAL), .val (.ref w_EQUAL), .unset, .unset, .unset] [(.long x2), (.long x1), (.ref w_EQUAL)])) _
          refine st92.trans ?_
          show Steps p.tables e below (T92.setTop (mkF m 27 #[.val (.int x0), .val (.long x1), .second, .val (.long x2), .second, .val (.ref w_NOT_EQUAL), .val (.ref w_EQUAL), .unset, .unset, .unset] [(.int (0 : Int32))])) _
          refine XS.aload X92.here hx rfl (hb hby at_27) rfl rfl ?_
          show Steps p.tables e below (T92.setTop (mkF m 29 #[.val (.int x0), .val (.long x1), .second, .val (.long x2), .second, .val (.ref w_NOT_EQUAL), .val (.ref w_EQUAL), .unset, .unset, .unset] [(.ref w_NOT_EQUAL), (.int (0 : Int32))])) _
          refine XS.lloadN X92.here hx rfl (hb hby at_29) rfl ?_
          show Steps p.tables e below (T92.setTop (mkF m 30 #[.val (.int x0), .val (.long x1), .second, .val (.long x2), .second, .val (.ref w_NOT_EQUAL), .val (.ref w_EQUAL), .unset, .unset, .unset] [(.long x1), (.ref w_NOT_EQUAL), (.int (0 : Int32))])) _
          refine XS.lloadN X92.here hx rfl (hb hby at_30) rfl ?_
          show Steps p.tables e below (T92.setTop (mkF m 31 #[.val (.int x0), .val (.long x1), .second, .val (.long x2), .second, .val (.ref w_NOT_EQUAL), .val (.ref w_EQUAL), .unset, .unset, .unset] [(.long x2), (.long x1), (.ref w_NOT_EQUAL), (.int (0 : Int32))])) _
          refine st93.trans ?_
          show Steps p.tables e below (T93.setTop (mkF m 34 #[.val (.int x0), .val (.long x1), .second, .val (.long x2), .second, .val (.ref w_NOT_EQUAL), .val (.ref w_EQUAL), .unset, .unset, .unset] [(.int (1 : Int32)), (.int (0 : Int32))])) _
          refine XS.icmpNo X93.here hx rfl (hb hby at_34) rfl (feq ((by decide) : ¬ ((0 : Int32) = (1 : Int32)))).1 ?_
          show Steps p.tables e below (T93.setTop (mkF m 37 #[.val (.int x0), .val (.long x1), .second, .val (.long x2), .second, .val (.ref w_NOT_EQUAL), .val (.ref w_EQUAL), .unset, .unset, .unset] [])) _
          refine XS.iconst X93.here hx rfl (hb hby at_37) ?_
          show Steps p.tables e below (T93.setTop (mkF m 38 #[.val (.int x0), .val (.long x1), .second, .val (.long x2), .second, .val (.ref w_NOT_EQUAL), .val (.ref w_EQUAL), .unset, .unset, .unset] [(.int (1 : Int32))])) _
          refine XS.goto X93.here hx rfl (pc0 := 38) (pc' := 42) rfl (hb hby at_38) (by decide) (by decide) ?_
          show Steps p.tables e below (T93.setTop (mkF m 42 #[.val (.int x0), .val (.long x1), .second, .val (.long x2), .second, .val (.ref w_NOT_EQUAL), .val (.ref w_EQUAL), .unset, .unset, .unset] [(.int (1 : Int32))])) _
          refine XS.istore X93.here hx rfl (hb hby at_42) rfl (l' := #[.val (.int x0), .val (.long x1), .second, .val (.long x2), .second, .val (.ref w_NOT_EQUAL), .val (.ref w_EQUAL), .val (.int (1 : Int32)), .unset, .unset]) rfl ?_
          show Steps p.tables e below (T93.setTop (mkF m 44 #[.val (.int x0), .val (.long x1), .second, .val (.long x2), .second, .val (.ref w_NOT_EQUAL), .val (.ref w_EQUAL), .val (.int (1 : Int32)), .unset, .unset] [])) _
          refine XS.aload X93.here hx rfl (hb hby at_44) rfl rfl ?_
          show Steps p.tables e below (T93.setTop (mkF m 46 #[.val (.int x0), .val (.long x1), .second, .val (.long x2), .second, .val (.ref w_NOT_EQUAL), .val (.ref w_EQUAL), .val (.int (1 : Int32)), .unset, .unset] [(.ref w_EQUAL)])) _
          refine XS.lloadN X93.here hx rfl (hb hby at_46) rfl ?_
          show Steps p.tables e below (T93.setTop (mkF m 47 #[.val (.int x0), .val (.long x1), .second, .val (.long x2), .second, .val (.ref w_NOT_EQUAL), .val (.ref w_EQUAL), .val (.int (1 : Int32)), .unset, .unset] [(.long x1), (.ref w_EQUAL)])) _
          refine XS.lloadN X93.here hx rfl (hb hby at_47) rfl ?_
          show Steps p.tables e below (T93.setTop (mkF m 48 #[.val (.int x0), .val (.long x1), .second, .val (.long x2), .second, .val (.ref w_NOT_EQUAL), .val (.ref w_EQUAL), .val (.int (1 : Int32)), .unset, .unset] [(.long x1), (.long x1), (.ref w_EQUAL)])) _
          refine st94.trans ?_
          show Steps p.tables e below (T94.setTop (mkF m 51 #[.val (.int x0), .val (.long x1), .second, .val (.long x2), .second, .val (.ref w_NOT_EQUAL), .val (.ref w_EQUAL), .val (.int (1 : Int32)), .unset, .unset] [(.int (1 : Int32))])) _
          refine XS.aload X94.here hx rfl (hb hby at_51) rfl rfl ?_
          show Steps p.tables e below (T94.setTop (mkF m 53 #[.val (.int x0), .val (.long x1), .second, .val (.long x2), .second, .val (.ref w_NOT_EQUAL), .val (.ref w_EQUAL), .val (.int (1 : Int32)), .unset, .unset] [(.ref w_NOT_EQUAL), (.int (1 : Int32))])) _
          refine XS.lloadN X94.here hx rfl (hb hby at_53) rfl ?_
          show Steps p.tables e below (T94.setTop (mkF m 54 #[.val (.int x0), .val (.long x1), .second, .val (.long x2), .second, .val (.ref w_NOT_EQUAL), .val (.ref w_EQUAL), .val (.int (1 : Int32)), .unset, .unset] [(.long x1), (.ref w_NOT_EQUAL), (.int (1 : Int32))])) _
          refine XS.lloadN X94.here hx rfl (hb hby at_54) rfl ?_
          show Steps p.tables e below (T94.setTop (mkF m 55 #[.val (.int x0), .val (.long x1), .second, .val (.long x2), .second, .val (.ref w_NOT_EQUAL), .val (.ref w_EQUAL), .val (.int (1 : Int32)), .unset, .unset] [(.long x1), (.long x1), (.ref w_NOT_EQUAL), (.int (1 : Int32))])) _
          refine st95.trans ?_
          show Steps p.tables e below (T95.setTop (mkF m 58 #[.val (.int x0), .val (.long x1), .second, .val (.long x2), .second, .val (.ref w_NOT_EQUAL), .val (.ref w_EQUAL), .val (.int (1 : Int32)), .unset, .unset] [(.int (0 : Int32)), (.int (1 : Int32))])) _
          refine XS.icmpNo X95.here hx rfl (hb hby at_58) rfl (feq ((by decide) : ¬ ((1 : Int32) = (0 : Int32)))).1 ?_
          show Steps p.tables e below (T95.setTop (mkF m 61 #[.val (.int x0), .val (.long x1), .second, .val (.long x2), .second, .val (.ref w_NOT_EQUAL), .val (.ref w_EQUAL), .val (.int (1 : Int32)), .unset, .unset] [])) _
          refine XS.iconst X95.here hx rfl (hb hby at_61) ?_
          show Steps p.tables e below (T95.setTop (mkF m 62 #[.val (.int x0), .val (.long x1), .second, .val (.long x2), .second, .val (.ref w_NOT_EQUAL), .val (.ref w_EQUAL), .val (.int (1 : Int32)), .unset, .unset] [(.int (1 : Int32))])) _
          refine XS.goto X95.here hx rfl (pc0 := 62) (pc' := 66) rfl (hb hby at_62) (by decide) (by decide) ?_
          show Steps p.tables e below (T95.setTop (mkF m 66 #[.val (.int x0), .val (.long x1), .second, .val (.long x2), .second, .val (.ref w_NOT_EQUAL), .val (.ref w_EQUAL), .val (.int (1 : Int32)), .unset, .unset] [(.int (1 : Int32))])) _
          refine XS.istore X95.here hx rfl (hb hby at_66) rfl (l' := #[.val (.int x0), .val (.long x1), .second, .val (.long x2), .second, .val (.ref w_NOT_EQUAL), .val (.ref w_EQUAL), .val (.int (1 : Int32)), .val (.int (1 : Int32)), .unset]) rfl ?_
          show Steps p.tables e below (T95.setTop (mkF m 68 #[.val (.int x0), .val (.long x1), .second, .val (.long x2), .second, .val (.ref w_NOT_EQUAL), .val (.ref w_EQUAL), .val (.int (1 : Int32)), .val (.int (1 : Int32)), .unset] [])) _
          refine XS.aload X95.here hx rfl (hb hby at_68) rfl rfl ?_
          show Steps p.tables e below (T95.setTop (mkF m 70 #[.val (.int x0), .val (.long x1), .second, .val (.long x2), .second, .val (.ref w_NOT_EQUAL), .val (.ref w_EQUAL), .val (.int (1 : Int32)), .val (.int (1 : Int32)), .unset] [(.ref w_EQUAL)])) _
          refine XS.lloadN X95.here hx rfl (hb hby at_70) rfl ?_
          show Steps p.tables e below (T95.setTop (mkF m 71 #[.val (.int x0), .val (.long x1), .second, .val (.long x2), .second, .val (.ref w_NOT_EQUAL), .val (.ref w_EQUAL), .val (.int (1 : Int32)), .val (.int (1 : Int32)), .unset] [(.long x2), (.ref w_EQUAL)])) _
          refine XS.lloadN X95.here hx rfl (hb hby at_71) rfl ?_
          show Steps p.tables e below (T95.setTop (mkF m 72 #[.val (.int x0), .val (.long x1), .second, .val (.long x2), .second, .val (.ref w_NOT_EQUAL), .val (.ref w_EQUAL), .val (.int (1 : Int32)), .val (.int (1 : Int32)), .unset] [(.long x1), (.long x2), (.ref w_EQUAL)])) _
          refine st96.trans ?_
          show Steps p.tables e below (T96.setTop (mkF m 75 #[.val (.int x0), .val (.long x1), .second, .val (.long x2), .second, .val (.ref w_NOT_EQUAL), .val (.ref w_EQUAL), .val (.int (1 : Int32)), .val (.int (1 : Int32)), .unset] [(.int (0 : Int32))])) _
          refine XS.aload X96.here hx rfl (hb hby at_75) rfl rfl ?_
          show Steps p.tables e below (T96.setTop (mkF m 77 #[.val (.int x0), .val (.long x1), .second, .val (.long x2), .second, .val (.ref w_NOT_EQUAL), .val (.ref w_EQUAL), .val (.int (1 : Int32)), .val (.int (1 : Int32)), .unset] [(.ref w_NOT_EQUAL), (.int (0 : Int32))])) _
          refine XS.lloadN X96.here hx rfl (hb hby at_77) rfl ?_
          show Steps p.tables e below (T96.setTop (mkF m 78 #[.val (.int x0), .val (.long x1), .second, .val (.long x2), .second, .val (.ref w_NOT_EQUAL), .val (.ref w_EQUAL), .val (.int (1 : Int32)), .val (.int (1 : Int32)), .unset] [(.long x2), (.ref w_NOT_EQUAL), (.int (0 : Int32))])) _
          refine XS.lloadN X96.here hx rfl (hb hby at_78) rfl ?_
          show Steps p.tables e below (T96.setTop (mkF m 79 #[.val (.int x0), .val (.long x1), .second, .val (.long x2), .second, .val (.ref w_NOT_EQUAL), .val (.ref w_EQUAL), .val (.int (1 : Int32)), .val (.int (1 : Int32)), .unset] [(.long x1), (.long x2), (.ref w_NOT_EQUAL), (.int (0 : Int32))])) _
          refine st97.trans ?_
          show Steps p.tables e below (T97.setTop (mkF m 82 #[.val (.int x0), .val (.long x1), .second, .val (.long x2), .second, .val (.ref w_NOT_EQUAL), .val (.ref w_EQUAL), .val (.int (1 : Int32)), .val (.int (1 : Int32)), .unset] [(.int (1 : Int32)), (.int (0 : Int32))])) _
          refine XS.icmpNo X97.here hx rfl (hb hby at_82) rfl (feq ((by decide) : ¬ ((0 : Int32) = (1 : Int32)))).1 ?_
          show Steps p.tables e below (T97.setTop (mkF m 85 #[.val (.int x0), .val (.long x1), .second, .val (.long x2), .second, .val (.ref w_NOT_EQUAL), .val (.ref w_EQUAL), .val (.int (1 : Int32)), .val (.int (1 : Int32)), .unset] [])) _
          refine XS.iconst X97.here hx rfl (hb hby at_85) ?_
          show Steps p.tables e below (T97.setTop (mkF m 86 #[.val (.int x0), .val (.long x1), .second, .val (.long x2), .second, .val (.ref w_NOT_EQUAL), .val (.ref w_EQUAL), .val (.int (1 : Int32)), .val (.int (1 : Int32)), .unset] [(.int (1 : Int32))])) _
          refine XS.goto X97.here hx rfl (pc0 := 86) (pc' := 90) rfl (hb hby at_86) (by decide) (by decide) ?_
          show Steps p.tables e below (T97.setTop (mkF m 90 #[.val (.int x0), .val (.long x1), .second, .val (.long x2), .second, .val (.ref w_NOT_EQUAL), .val (.ref w_EQUAL), .val (.int (1 : Int32)), .val (.int (1 : Int32)), .unset] [(.int (1 : Int32))])) _
          refine XS.istore X97.here hx rfl (hb hby at_90) rfl (l' := #[.val (.int x0), .val (.long x1), .second, .val (.long x2), .second, .val (.ref w_NOT_EQUAL), .val (.ref w_EQUAL), .val (.int (1 : Int32)), .val (.int (1 : Int32)), .val (.int (1 : Int32))]) rfl ?_
          show Steps p.tables e below (T97.setTop (mkF m 92 #[.val (.int x0), .val (.long x1), .second, .val (.long x2), .second, .val (.ref w_NOT_EQUAL), .val (.ref w_EQUAL), .val (.int (1 : Int32)), .val (.int (1 : Int32)), .val (.int (1 : Int32))] [])) _
          refine XS.iload X97.here hx rfl (hb hby at_92) rfl ?_
          show Steps p.tables e below (T97.setTop (mkF m 94 #[.val (.int x0), .val (.long x1), .second, .val (.long x2), .second, .val (.ref w_NOT_EQUAL), .val (.ref w_EQUAL), .val (.int (1 : Int32)), .val (.int (1 : Int32)), .val (.int (1 : Int32))] [(.int (1 : Int32))])) _
          refine XS.ifNo X97.here hx rfl (hb hby at_94) rfl ((if0 _ _).trans (feq ((by decide) : ¬ ((1 : Int32) = (0 : Int32)))).1) ?_
          show Steps p.tables e below (T97.setTop (mkF m 97 #[.val (.int x0), .val (.long x1), .second, .val (.long x2), .second, .val (.ref w_NOT_EQUAL), .val (.ref w_EQUAL), .val (.int (1 : Int32)), .val (.int (1 : Int32)), .val (.int (1 : Int32))] [])) _
          refine XS.iload X97.here hx rfl (hb hby at_97) rfl ?_
          show Steps p.tables e below (T97.setTop (mkF m 99 #[.val (.int x0), .val (.long x1), .second, .val (.long x2), .second, .val (.ref w_NOT_EQUAL), .val (.ref w_EQUAL), .val (.int (1 : Int32)), .val (.int (1 : Int32)), .val (.int (1 : Int32))] [(.int (1 : Int32))])) _
          refine XS.ifNo X97.here hx rfl (hb hby at_99) rfl ((if0 _ _).trans (feq ((by decide) : ¬ ((1 : Int32) = (0 : Int32)))).1) ?_
          show Steps p.tables e below (T97.setTop (mkF m 102 #[.val (.int x0), .val (.long x1), .second, .val (.long x2), .second, .val (.ref w_NOT_EQUAL), .val (.ref w_EQUAL), .val (.int (1 : Int32)), .val (.int (1 : Int32)), .val (.int (1 : Int32))] [])) _
          refine XS.iload X97.here hx rfl (hb hby at_102) rfl ?_
          show Steps p.tables e below (T97.setTop (mkF m 104 #[.val (.int x0), .val (.long x1), .second, .val (.long x2), .second, .val (.ref w_NOT_EQUAL), .val (.ref w_EQUAL), .val (.int (1 : Int32)), .val (.int (1 : Int32)), .val (.int (1 : Int32))] [(.int (1 : Int32))])) _
          refine XS.ifNo X97.here hx rfl (hb hby at_104) rfl ((if0 _ _).trans (feq ((by decide) : ¬ ((1 : Int32) = (0 : Int32)))).1) ?_
          show Steps p.tables e below (T97.setTop (mkF m 107 #[.val (.int x0), .val (.long x1), .second, .val (.long x2), .second, .val (.ref w_NOT_EQUAL), .val (.ref w_EQUAL), .val (.int (1 : Int32)), .val (.int (1 : Int32)), .val (.int (1 : Int32))] [])) _
          refine XS.iconst X97.here hx rfl (hb hby at_107) ?_
          show Steps p.tables e below (T97.setTop (mkF m 108 #[.val (.int x0), .val (.long x1), .second, .val (.long x2), .second, .val (.ref w_NOT_EQUAL), .val (.ref w_EQUAL), .val (.int (1 : Int32)), .val (.int (1 : Int32)), .val (.int (1 : Int32))] [(.int (1 : Int32))])) _
          refine XS.goto X97.here hx rfl (pc0 := 108) (pc' := 112) rfl (hb hby at_108) (by decide) (by decide) ?_
          exact kk)
        obtain ⟨fs, hr, hrun, hended, hW, hsame⟩ := X97.leave (v := some (.int (1 : Int32))) (fun h => by rw [Bd.returns] at h; cases h)
        refine ⟨_, _, pre98 _ ?_, hrun, hended, _, _, rfl, ?_, ⟨_, rfl⟩, hW, hsame.mono (by decide) (by decide)⟩
        · exact retN X97 hx (t := .boolean) Bd.returns (by simp) (hb hby at_112) hr
        · exact ⟨rfl, N97⟩
      ·
        by_cases hc99 : (lcmpW x1 x2) = (0 : Int32)
        ·
          obtain ⟨cq100, kq100, q100a, q100b, q100c⟩ := isOf hZ e89 E_w_EQUAL
          obtain ⟨_, _, ⟨T100, L100, k100, n100⟩, -, X100, ⟨Lc100, hQ100, l100, y100, z100⟩, st100⟩ := X89.virtualBack hx (y := (⟨"com/example/latticut/latticut/lang/Comparison", "test", "(JJ)Z"⟩ : MethodName)) (z := (⟨"com/example/latticut/latticut/lang/Comparison", "test", "(JJ)Z"⟩ : MethodName)) hown (mvT hZ (hw _ (List.mem_of_getElem? (i := 16) rfl))) (mvT hZ (hw _ (List.mem_of_getElem? (i := 17) rfl))) (notFace_of_selects (args := #[]) (mvT hZ (hw _ (List.mem_of_getElem? (i := 19) rfl)))) (mvT hZ (hw _ (List.mem_of_getElem? (i := 19) rfl))) (mvT hZ (hw _ (List.mem_of_getElem? (i := 18) rfl))) (by decide) (backOf (W := 0) (rm20 l Z a0 hw [] w_EQUAL x1 x2 h0 n0 Z0 hc91 hc99 F_whenEqual_w_EQUAL E_w_EQUAL) hZ (hw _ (List.mem_of_getElem? (i := 20) rfl)) (hw _ (List.mem_of_getElem? (i := 6) rfl)) (by decide) (by decide)) q100a q100c (g := (mkF m 24 #[.val (.int x0), .val (.long x1), .second, .val (.long x2), .second, .val (.ref w_NOT_EQUAL), .val (.ref w_EQUAL), .unset, .unset, .unset] [(.long x2), (.long x1), (.ref w_EQUAL)])) rfl (by rw [hml]; rfl) (Steps.refl _) (argsL := [(.long x1), (.long x2)]) (rest := []) (lenOf pd_4 rfl) rfl (by show 2 * 0 + _ ≤ _; exact Nat.le_of_eq rfl) (hb hby at_24) (fun _ _ => ⟨rfl, e89, (by decide : 0 + 0 ≤ _), (by decide : 0 + 0 ≤ _)⟩)
          dsimp only [Pt.U, Pt.locs, Pt.cells, Pt.slots] at X100 l100 y100 z100 st100 hQ100
          subst l100 y100 z100
          obtain ⟨rfl, N100q, e100⟩ := hQ100
          have N100 := Fr.app N89 N100q
          obtain ⟨cq101, kq101, q101a, q101b, q101c⟩ := isOf hZ e100 E_w_NOT_EQUAL
          obtain ⟨_, _, ⟨T101, L101, k101, n101⟩, -, X101, ⟨Lc101, hQ101, l101, y101, z101⟩, st101⟩ := X100.virtualBack hx (y := (⟨"com/example/latticut/latticut/lang/Comparison", "test", "(JJ)Z"⟩ : MethodName)) (z := (⟨"com/example/latticut/latticut/lang/Comparison", "test", "(JJ)Z"⟩ : MethodName)) hown (mvT hZ (hw _ (List.mem_of_getElem? (i := 16) rfl))) (mvT hZ (hw _ (List.mem_of_getElem? (i := 17) rfl))) (notFace_of_selects (args := #[]) (mvT hZ (hw _ (List.mem_of_getElem? (i := 19) rfl)))) (mvT hZ (hw _ (List.mem_of_getElem? (i := 19) rfl))) (mvT hZ (hw _ (List.mem_of_getElem? (i := 18) rfl))) (by decide) (backOf (W := 1) (rm19 l Z a0 hw [] w_NOT_EQUAL x1 x2 h0 n0 Z0 hc91 hc99 F_whenEqual_w_NOT_EQUAL E_w_NOT_EQUAL) hZ (hw _ (List.mem_of_getElem? (i := 20) rfl)) (hw _ (List.mem_of_getElem? (i := 6) rfl)) (by decide) (by decide)) q101a q101c (g := (mkF m 31 #[.val (.int x0), .val (.long x1), .second, .val (.long x2), .second, .val (.ref w_NOT_EQUAL), .val (.ref w_EQUAL), .unset, .unset, .unset] [(.long x2), (.long x1), (.ref w_NOT_EQUAL), (.int (1 : Int32))])) rfl (by rw [hml]; rfl) (Steps.refl _) (argsL := [(.long x1), (.long x2)]) (rest := [(.int (1 : Int32))]) (lenOf pd_4 rfl) rfl (by show 2 * 0 + _ ≤ _; exact Nat.le_of_eq rfl) (hb hby at_31) (fun _ _ => ⟨rfl, e100, (by decide : 0 + 0 ≤ _), (by decide : 0 + 0 ≤ _)⟩)
          dsimp only [Pt.U, Pt.locs, Pt.cells, Pt.slots] at X101 l101 y101 z101 st101 hQ101
          subst l101 y101 z101
          obtain ⟨rfl, N101q, e101⟩ := hQ101
          have N101 := Fr.app N100 N101q
          obtain ⟨cq102, kq102, q102a, q102b, q102c⟩ := isOf hZ e101 E_w_EQUAL
          obtain ⟨_, _, ⟨T102, L102, k102, n102⟩, -, X102, ⟨Lc102, hQ102, l102, y102, z102⟩, st102⟩ := X101.virtualBack hx (y := (⟨"com/example/latticut/latticut/lang/Comparison", "test", "(JJ)Z"⟩ : MethodName)) (z := (⟨"com/example/latticut/latticut/lang/Comparison", "test", "(JJ)Z"⟩ : MethodName)) hown (mvT hZ (hw _ (List.mem_of_getElem? (i := 16) rfl))) (mvT hZ (hw _ (List.mem_of_getElem? (i := 17) rfl))) (notFace_of_selects (args := #[]) (mvT hZ (hw _ (List.mem_of_getElem? (i := 19) rfl)))) (mvT hZ (hw _ (List.mem_of_getElem? (i := 19) rfl))) (mvT hZ (hw _ (List.mem_of_getElem? (i := 18) rfl))) (by decide) (backOf (W := 0) (rm12 l Z a0 hw [] w_EQUAL x1 h0 n0 Z0 ((own_ar4 x1 x2 hc91 hc99)) ((own_ar5 x1 x2 hc91 hc99)) F_whenEqual_w_EQUAL E_w_EQUAL) hZ (hw _ (List.mem_of_getElem? (i := 20) rfl)) (hw _ (List.mem_of_getElem? (i := 6) rfl)) (by decide) (by decide)) q102a q102c (g := (mkF m 48 #[.val (.int x0), .val (.long x1), .second, .val (.long x2), .second, .val (.ref w_NOT_EQUAL), .val (.ref w_EQUAL), .val (.int (1 : Int32)), .unset, .unset] [(.long x1), (.long x1), (.ref w_EQUAL)])) rfl (by rw [hml]; rfl) (Steps.refl _) (argsL := [(.long x1), (.long x1)]) (rest := []) (lenOf pd_4 rfl) rfl (by show 2 * 0 + _ ≤ _; exact Nat.le_of_eq rfl) (hb hby at_48) (fun _ _ => ⟨rfl, e101, (by decide : 0 + 0 ≤ _), (by decide : 0 + 0 ≤ _)⟩)
          dsimp only [Pt.U, Pt.locs, Pt.cells, Pt.slots] at X102 l102 y102 z102 st102 hQ102
          subst l102 y102 z102
          obtain ⟨rfl, N102q, e102⟩ := hQ102
          have N102 := Fr.app N101 N102q
          obtain ⟨cq103, kq103, q103a, q103b, q103c⟩ := isOf hZ e102 E_w_NOT_EQUAL
          obtain ⟨_, _, ⟨T103, L103, k103, n103⟩, -, X103, ⟨Lc103, hQ103, l103, y103, z103⟩, st103⟩ := X102.virtualBack hx (y := (⟨"com/example/latticut/latticut/lang/Comparison", "test", "(JJ)Z"⟩ : MethodName)) (z := (⟨"com/example/latticut/latticut/lang/Comparison", "test", "(JJ)Z"⟩ : MethodName)) hown (mvT hZ (hw _ (List.mem_of_getElem? (i := 16) rfl))) (mvT hZ (hw _ (List.mem_of_getElem? (i := 17) rfl))) (notFace_of_selects (args := #[]) (mvT hZ (hw _ (List.mem_of_getElem? (i := 19) rfl)))) (mvT hZ (hw _ (List.mem_of_getElem? (i := 19) rfl))) (mvT hZ (hw _ (List.mem_of_getElem? (i := 18) rfl))) (by decide) (backOf (W := 1) (rm10 l Z a0 hw [] w_NOT_EQUAL x1 h0 n0 Z0 ((own_ar4 x1 x2 hc91 hc99)) ((own_ar5 x1 x2 hc91 hc99)) F_whenEqual_w_NOT_EQUAL E_w_NOT_EQUAL) hZ (hw _ (List.mem_of_getElem? (i := 20) rfl)) (hw _ (List.mem_of_getElem? (i := 6) rfl)) (by decide) (by decide)) q103a q103c (g := (mkF m 55 #[.val (.int x0), .val (.long x1), .second, .val (.long x2), .second, .val (.ref w_NOT_EQUAL), .val (.ref w_EQUAL), .val (.int (1 : Int32)), .unset, .unset] [(.long x1), (.long x1), (.ref w_NOT_EQUAL), (.int (1 : Int32))])) rfl (by rw [hml]; rfl) (Steps.refl _) (argsL := [(.long x1), (.long x1)]) (rest := [(.int (1 : Int32))]) (lenOf pd_4 rfl) rfl (by show 2 * 0 + _ ≤ _; exact Nat.le_of_eq rfl) (hb hby at_55) (fun _ _ => ⟨rfl, e102, (by decide : 0 + 0 ≤ _), (by decide : 0 + 0 ≤ _)⟩)
          dsimp only [Pt.U, Pt.locs, Pt.cells, Pt.slots] at X103 l103 y103 z103 st103 hQ103
          subst l103 y103 z103
          obtain ⟨rfl, N103q, e103⟩ := hQ103
          have N103 := Fr.app N102 N103q
          obtain ⟨cq104, kq104, q104a, q104b, q104c⟩ := isOf hZ e103 E_w_EQUAL
          obtain ⟨_, _, ⟨T104, L104, k104, n104⟩, -, X104, ⟨Lc104, hQ104, l104, y104, z104⟩, st104⟩ := X103.virtualBack hx (y := (⟨"com/example/latticut/latticut/lang/Comparison", "test", "(JJ)Z"⟩ : MethodName)) (z := (⟨"com/example/latticut/latticut/lang/Comparison", "test", "(JJ)Z"⟩ : MethodName)) hown (mvT hZ (hw _ (List.mem_of_getElem? (i := 16) rfl))) (mvT hZ (hw _ (List.mem_of_getElem? (i := 17) rfl))) (notFace_of_selects (args := #[]) (mvT hZ (hw _ (List.mem_of_getElem? (i := 19) rfl)))) (mvT hZ (hw _ (List.mem_of_getElem? (i := 19) rfl))) (mvT hZ (hw _ (List.mem_of_getElem? (i := 18) rfl))) (by decide) (backOf (W := 0) (rm20 l Z a0 hw [] w_EQUAL x2 x1 h0 n0 Z0 ((own_ar6 x1 x2 hc91 hc99)) ((own_ar7 x1 x2 hc91 hc99)) F_whenEqual_w_EQUAL E_w_EQUAL) hZ (hw _ (List.mem_of_getElem? (i := 20) rfl)) (hw _ (List.mem_of_getElem? (i := 6) rfl)) (by decide) (by decide)) q104a q104c (g := (mkF m 72 #[.val (.int x0), .val (.long x1), .second, .val (.long x2), .second, .val (.ref w_NOT_EQUAL), .val (.ref w_EQUAL), .val (.int (1 : Int32)), .val (.int (1 : Int32)), .unset] [(.long x1), (.long x2), (.ref w_EQUAL)])) rfl (by rw [hml]; rfl) (Steps.refl _) (argsL := [(.long x2), (.long x1)]) (rest := []) (lenOf pd_4 rfl) rfl (by show 2 * 0 + _ ≤ _; exact Nat.le_of_eq rfl) (hb hby at_72) (fun _ _ => ⟨rfl, e103, (by decide : 0 + 0 ≤ _), (by decide : 0 + 0 ≤ _)⟩)
          dsimp only [Pt.U, Pt.locs, Pt.cells, Pt.slots] at X104 l104 y104 z104 st104 hQ104
          subst l104 y104 z104
          obtain ⟨rfl, N104q, e104⟩ := hQ104
          have N104 := Fr.app N103 N104q
          obtain ⟨cq105, kq105, q105a, q105b, q105c⟩ := isOf hZ e104 E_w_NOT_EQUAL
          obtain ⟨_, _, ⟨T105, L105, k105, n105⟩, -, X105, ⟨Lc105, hQ105, l105, y105, z105⟩, st105⟩ := X104.virtualBack hx (y := (⟨"com/example/latticut/latticut/lang/Comparison", "test", "(JJ)Z"⟩ : MethodName)) (z := (⟨"com/example/latticut/latticut/lang/Comparison", "test", "(JJ)Z"⟩ : MethodName)) hown (mvT hZ (hw _ (List.mem_of_getElem? (i := 16) rfl))) (mvT hZ (hw _ (List.mem_of_getElem? (i := 17) rfl))) (notFace_of_selects (args := #[]) (mvT hZ (hw _ (List.mem_of_getElem? (i := 19) rfl)))) (mvT hZ (hw _ (List.mem_of_getElem? (i := 19) rfl))) (mvT hZ (hw _ (List.mem_of_getElem? (i := 18) rfl))) (by decide) (backOf (W := 1) (rm19 l Z a0 hw [] w_NOT_EQUAL x2 x1 h0 n0 Z0 ((own_ar6 x1 x2 hc91 hc99)) ((own_ar7 x1 x2 hc91 hc99)) F_whenEqual_w_NOT_EQUAL E_w_NOT_EQUAL) hZ (hw _ (List.mem_of_getElem? (i := 20) rfl)) (hw _ (List.mem_of_getElem? (i := 6) rfl)) (by decide) (by decide)) q105a q105c (g := (mkF m 79 #[.val (.int x0), .val (.long x1), .second, .val (.long x2), .second, .val (.ref w_NOT_EQUAL), .val (.ref w_EQUAL), .val (.int (1 : Int32)), .val (.int (1 : Int32)), .unset] [(.long x1), (.long x2), (.ref w_NOT_EQUAL), (.int (1 : Int32))])) rfl (by rw [hml]; rfl) (Steps.refl _) (argsL := [(.long x2), (.long x1)]) (rest := [(.int (1 : Int32))]) (lenOf pd_4 rfl) rfl (by show 2 * 0 + _ ≤ _; exact Nat.le_of_eq rfl) (hb hby at_79) (fun _ _ => ⟨rfl, e104, (by decide : 0 + 0 ≤ _), (by decide : 0 + 0 ≤ _)⟩)
          dsimp only [Pt.U, Pt.locs, Pt.cells, Pt.slots] at X105 l105 y105 z105 st105 hQ105
          subst l105 y105 z105
          obtain ⟨rfl, N105q, e105⟩ := hQ105
          have N105 := Fr.app N104 N105q
          have pre106 : ∀ t, Steps p.tables e below (T105.setTop (mkF m 112 #[.val (.int x0), .val (.long x1), .second, .val (.long x2), .second, .val (.ref w_NOT_EQUAL), .val (.ref w_EQUAL), .val (.int (1 : Int32)), .val (.int (1 : Int32)), .val (.int (1 : Int32))] [(.int (1 : Int32))])) t → Steps p.tables e below (s₁.setTop (entryFrame m #[(.int x0), (.long x1), (.long x2)] maxLocals)) t := fun t kk => pre90 t (by
            show Steps p.tables e below (T89.setTop (mkF m 24 #[.val (.int x0), .val (.long x1), .second, .val (.long x2), .second, .val (.ref w_NOT_EQUAL), .val (.ref w_EQUAL), .unset, .unset, .unset] [(.long x2), (.long x1), (.ref w_EQUAL)])) _
            refine st100.trans ?_
            show Steps p.tables e below (T100.setTop (mkF m 27 #[.val (.int x0), .val (.long x1), .second, .val (.long x2), .second, .val (.ref w_NOT_EQUAL), .val (.ref w_EQUAL), .unset, .unset, .unset] [(.int (1 : Int32))])) _
            refine XS.aload X100.here hx rfl (hb hby at_27) rfl rfl ?_
            show Steps p.tables e below (T100.setTop (mkF m 29 #[.val (.int x0), .val (.long x1), .second, .val (.long x2), .second, .val (.ref w_NOT_EQUAL), .val (.ref w_EQUAL), .unset, .unset, .unset] [(.ref w_NOT_EQUAL), (.int (1 : Int32))])) _
            refine XS.lloadN X100.here hx rfl (hb hby at_29) rfl ?_
            show Steps p.tables e below (T100.setTop (mkF m 30 #[.val (.int x0), .val (.long x1), .second, .val (.long x2), .second, .val (.ref w_NOT_EQUAL), .val (.ref w_EQUAL), .unset, .unset, .unset] [(.long x1), (.ref w_NOT_EQUAL), (.int (1 : Int32))])) _
            refine XS.lloadN X100.here hx rfl (hb hby at_30) rfl ?_
            show Steps p.tables e below (T100.setTop (mkF m 31 #[.val (.int x0), .val (.long x1), .second, .val (.long x2), .second, .val (.ref w_NOT_EQUAL), .val (.ref w_EQUAL), .unset, .unset, .unset] [(.long x2), (.long x1), (.ref w_NOT_EQUAL), (.int (1 : Int32))])) _
            refine st101.trans ?_
            show Steps p.tables e below (T101.setTop (mkF m 34 #[.val (.int x0), .val (.long x1), .second, .val (.long x2), .second, .val (.ref w_NOT_EQUAL), .val (.ref w_EQUAL), .unset, .unset, .unset] [(.int (0 : Int32)), (.int (1 : Int32))])) _
            refine XS.icmpNo X101.here hx rfl (hb hby at_34) rfl (feq ((by decide) : ¬ ((1 : Int32) = (0 : Int32)))).1 ?_
            show Steps p.tables e below (T101.setTop (mkF m 37 #[.val (.int x0), .val (.long x1), .second, .val (.long x2), .second, .val (.ref w_NOT_EQUAL), .val (.ref w_EQUAL), .unset, .unset, .unset] [])) _
            refine XS.iconst X101.here hx rfl (hb hby at_37) ?_
            show Steps p.tables e below (T101.setTop (mkF m 38 #[.val (.int x0), .val (.long x1), .second, .val (.long x2), .second, .val (.ref w_NOT_EQUAL), .val (.ref w_EQUAL), .unset, .unset, .unset] [(.int (1 : Int32))])) _
            refine XS.goto X101.here hx rfl (pc0 := 38) (pc' := 42) rfl (hb hby at_38) (by decide) (by decide) ?_
            show Steps p.tables e below (T101.setTop (mkF m 42 #[.val (.int x0), .val (.long x1), .second, .val (.long x2), .second, .val (.ref w_NOT_EQUAL), .val (.ref w_EQUAL), .unset, .unset, .unset] [(.int (1 : Int32))])) _
            refine XS.istore X101.here hx rfl (hb hby at_42) rfl (l' := #[.val (.int x0), .val (.long x1), .second, .val (.long x2), .second, .val (.ref w_NOT_EQUAL), .val (.ref w_EQUAL), .val (.int (1 : Int32)), .unset, .unset]) rfl ?_
            show Steps p.tables e below (T101.setTop (mkF m 44 #[.val (.int x0), .val (.long x1), .second, .val (.long x2), .second, .val (.ref w_NOT_EQUAL), .val (.ref w_EQUAL), .val (.int (1 : Int32)), .unset, .unset] [])) _
            refine XS.aload X101.here hx rfl (hb hby at_44) rfl rfl ?_
            show Steps p.tables e below (T101.setTop (mkF m 46 #[.val (.int x0), .val (.long x1), .second, .val (.long x2), .second, .val (.ref w_NOT_EQUAL), .val (.ref w_EQUAL), .val (.int (1 : Int32)), .unset, .unset] [(.ref w_EQUAL)])) _
            refine XS.lloadN X101.here hx rfl (hb hby at_46) rfl ?_
            show Steps p.tables e below (T101.setTop (mkF m 47 #[.val (.int x0), .val (.long x1), .second, .val (.long x2), .second, .val (.ref w_NOT_EQUAL), .val (.ref w_EQUAL), .val (.int (1 : Int32)), .unset, .unset] [(.long x1), (.ref w_EQUAL)])) _
            refine XS.lloadN X101.here hx rfl (hb hby at_47) rfl ?_
            show Steps p.tables e below (T101.setTop (mkF m 48 #[.val (.int x0), .val (.long x1), .second, .val (.long x2), .second, .val (.ref w_NOT_EQUAL), .val (.ref w_EQUAL), .val (.int (1 : Int32)), .unset, .unset] [(.long x1), (.long x1), (.ref w_EQUAL)])) _
            refine st102.trans ?_
            show Steps p.tables e below (T102.setTop (mkF m 51 #[.val (.int x0), .val (.long x1), .second, .val (.long x2), .second, .val (.ref w_NOT_EQUAL), .val (.ref w_EQUAL), .val (.int (1 : Int32)), .unset, .unset] [(.int (1 : Int32))])) _
            refine XS.aload X102.here hx rfl (hb hby at_51) rfl rfl ?_
            show Steps p.tables e below (T102.setTop (mkF m 53 #[.val (.int x0), .val (.long x1), .second, .val (.long x2), .second, .val (.ref w_NOT_EQUAL), .val (.ref w_EQUAL), .val (.int (1 : Int32)), .unset, .unset] [(.ref w_NOT_EQUAL), (.int (1 : Int32))])) _
            refine XS.lloadN X102.here hx rfl (hb hby at_53) rfl ?_
            show Steps p.tables e below (T102.setTop (mkF m 54 #[.val (.int x0), .val (.long x1), .second, .val (.long x2), .second, .val (.ref w_NOT_EQUAL), .val (.ref w_EQUAL), .val (.int (1 : Int32)), .unset, .unset] [(.long x1), (.ref w_NOT_EQUAL), (.int (1 : Int32))])) _
            refine XS.lloadN X102.here hx rfl (hb hby at_54) rfl ?_
            show Steps p.tables e below (T102.setTop (mkF m 55 #[.val (.int x0), .val (.long x1), .second, .val (.long x2), .second, .val (.ref w_NOT_EQUAL), .val (.ref w_EQUAL), .val (.int (1 : Int32)), .unset, .unset] [(.long x1), (.long x1), (.ref w_NOT_EQUAL), (.int (1 : Int32))])) _
            refine st103.trans ?_
            show Steps p.tables e below (T103.setTop (mkF m 58 #[.val (.int x0), .val (.long x1), .second, .val (.long x2), .second, .val (.ref w_NOT_EQUAL), .val (.ref w_EQUAL), .val (.int (1 : Int32)), .unset, .unset] [(.int (0 : Int32)), (.int (1 : Int32))])) _
            refine XS.icmpNo X103.here hx rfl (hb hby at_58) rfl (feq ((by decide) : ¬ ((1 : Int32) = (0 : Int32)))).1 ?_
            show Steps p.tables e below (T103.setTop (mkF m 61 #[.val (.int x0), .val (.long x1), .second, .val (.long x2), .second, .val (.ref w_NOT_EQUAL), .val (.ref w_EQUAL), .val (.int (1 : Int32)), .unset, .unset] [])) _
            refine XS.iconst X103.here hx rfl (hb hby at_61) ?_
            show Steps p.tables e below (T103.setTop (mkF m 62 #[.val (.int x0), .val (.long x1), .second, .val (.long x2), .second, .val (.ref w_NOT_EQUAL), .val (.ref w_EQUAL), .val (.int (1 : Int32)), .unset, .unset] [(.int (1 : Int32))])) _
            refine XS.goto X103.here hx rfl (pc0 := 62) (pc' := 66) rfl (hb hby at_62) (by decide) (by decide) ?_
            show Steps p.tables e below (T103.setTop (mkF m 66 #[.val (.int x0), .val (.long x1), .second, .val (.long x2), .second, .val (.ref w_NOT_EQUAL), .val (.ref w_EQUAL), .val (.int (1 : Int32)), .unset, .unset] [(.int (1 : Int32))])) _
            refine XS.istore X103.here hx rfl (hb hby at_66) rfl (l' := #[.val (.int x0), .val (.long x1), .second, .val (.long x2), .second, .val (.ref w_NOT_EQUAL), .val (.ref w_EQUAL), .val (.int (1 : Int32)), .val (.int (1 : Int32)), .unset]) rfl ?_
            show Steps p.tables e below (T103.setTop (mkF m 68 #[.val (.int x0), .val (.long x1), .second, .val (.long x2), .second, .val (.ref w_NOT_EQUAL), .val (.ref w_EQUAL), .val (.int (1 : Int32)), .val (.int (1 : Int32)), .unset] [])) _
            refine XS.aload X103.here hx rfl (hb hby at_68) rfl rfl ?_
            show Steps p.tables e below (T103.setTop (mkF m 70 #[.val (.int x0), .val (.long x1), .second, .val (.long x2), .second, .val (.ref w_NOT_EQUAL), .val (.ref w_EQUAL), .val (.int (1 : Int32)), .val (.int (1 : Int32)), .unset] [(.ref w_EQUAL)])) _
            refine XS.lloadN X103.here hx rfl (hb hby at_70) rfl ?_
            show Steps p.tables e below (T103.setTop (mkF m 71 #[.val (.int x0), .val (.long x1), .second, .val (.long x2), .second, .val (.ref w_NOT_EQUAL), .val (.ref w_EQUAL), .val (.int (1 : Int32)), .val (.int (1 : Int32)), .unset] [(.long x2), (.ref w_EQUAL)])) _
            refine XS.lloadN X103.here hx rfl (hb hby at_71) rfl ?_
            show Steps p.tables e below (T103.setTop (mkF m 72 #[.val (.int x0), .val (.long x1), .second, .val (.long x2), .second, .val (.ref w_NOT_EQUAL), .val (.ref w_EQUAL), .val (.int (1 : Int32)), .val (.int (1 : Int32)), .unset] [(.long x1), (.long x2), (.ref w_EQUAL)])) _
            refine st104.trans ?_
            show Steps p.tables e below (T104.setTop (mkF m 75 #[.val (.int x0), .val (.long x1), .second, .val (.long x2), .second, .val (.ref w_NOT_EQUAL), .val (.ref w_EQUAL), .val (.int (1 : Int32)), .val (.int (1 : Int32)), .unset] [(.int (1 : Int32))])) _
            refine XS.aload X104.here hx rfl (hb hby at_75) rfl rfl ?_
            show Steps p.tables e below (T104.setTop (mkF m 77 #[.val (.int x0), .val (.long x1), .second, .val (.long x2), .second, .val (.ref w_NOT_EQUAL), .val (.ref w_EQUAL), .val (.int (1 : Int32)), .val (.int (1 : Int32)), .unset] [(.ref w_NOT_EQUAL), (.int (1 : Int32))])) _
            refine XS.lloadN X104.here hx rfl (hb hby at_77) rfl ?_
            show Steps p.tables e below (T104.setTop (mkF m 78 #[.val (.int x0), .val (.long x1), .second, .val (.long x2), .second, .val (.ref w_NOT_EQUAL), .val (.ref w_EQUAL), .val (.int (1 : Int32)), .val (.int (1 : Int32)), .unset] [(.long x2), (.ref w_NOT_EQUAL), (.int (1 : Int32))])) _
            refine XS.lloadN X104.here hx rfl (hb hby at_78) rfl ?_
            show Steps p.tables e below (T104.setTop (mkF m 79 #[.val (.int x0), .val (.long x1), .second, .val (.long x2), .second, .val (.ref w_NOT_EQUAL), .val (.ref w_EQUAL), .val (.int (1 : Int32)), .val (.int (1 : Int32)), .unset] [(.long x1), (.long x2), (.ref w_NOT_EQUAL), (.int (1 : Int32))])) _
            refine st105.trans ?_
            show Steps p.tables e below (T105.setTop (mkF m 82 #[.val (.int x0), .val (.long x1), .second, .val (.long x2), .second, .val (.ref w_NOT_EQUAL), .val (.ref w_EQUAL), .val (.int (1 : Int32)), .val (.int (1 : Int32)), .unset] [(.int (0 : Int32)), (.int (1 : Int32))])) _
            refine XS.icmpNo X105.here hx rfl (hb hby at_82) rfl (feq ((by decide) : ¬ ((1 : Int32) = (0 : Int32)))).1 ?_
            show Steps p.tables e below (T105.setTop (mkF m 85 #[.val (.int x0), .val (.long x1), .second, .val (.long x2), .second, .val (.ref w_NOT_EQUAL), .val (.ref w_EQUAL), .val (.int (1 : Int32)), .val (.int (1 : Int32)), .unset] [])) _
            refine XS.iconst X105.here hx rfl (hb hby at_85) ?_
            show Steps p.tables e below (T105.setTop (mkF m 86 #[.val (.int x0), .val (.long x1), .second, .val (.long x2), .second, .val (.ref w_NOT_EQUAL), .val (.ref w_EQUAL), .val (.int (1 : Int32)), .val (.int (1 : Int32)), .unset] [(.int (1 : Int32))])) _
            refine XS.goto X105.here hx rfl (pc0 := 86) (pc' := 90) rfl (hb hby at_86) (by decide) (by decide) ?_
            show Steps p.tables e below (T105.setTop (mkF m 90 #[.val (.int x0), .val (.long x1), .second, .val (.long x2), .second, .val (.ref w_NOT_EQUAL), .val (.ref w_EQUAL), .val (.int (1 : Int32)), .val (.int (1 : Int32)), .unset] [(.int (1 : Int32))])) _
            refine XS.istore X105.here hx rfl (hb hby at_90) rfl (l' := #[.val (.int x0), .val (.long x1), .second, .val (.long x2), .second, .val (.ref w_NOT_EQUAL), .val (.ref w_EQUAL), .val (.int (1 : Int32)), .val (.int (1 : Int32)), .val (.int (1 : Int32))]) rfl ?_
            show Steps p.tables e below (T105.setTop (mkF m 92 #[.val (.int x0), .val (.long x1), .second, .val (.long x2), .second, .val (.ref w_NOT_EQUAL), .val (.ref w_EQUAL), .val (.int (1 : Int32)), .val (.int (1 : Int32)), .val (.int (1 : Int32))] [])) _
            refine XS.iload X105.here hx rfl (hb hby at_92) rfl ?_
            show Steps p.tables e below (T105.setTop (mkF m 94 #[.val (.int x0), .val (.long x1), .second, .val (.long x2), .second, .val (.ref w_NOT_EQUAL), .val (.ref w_EQUAL), .val (.int (1 : Int32)), .val (.int (1 : Int32)), .val (.int (1 : Int32))] [(.int (1 : Int32))])) _
            refine XS.ifNo X105.here hx rfl (hb hby at_94) rfl ((if0 _ _).trans (feq ((by decide) : ¬ ((1 : Int32) = (0 : Int32)))).1) ?_
            show Steps p.tables e below (T105.setTop (mkF m 97 #[.val (.int x0), .val (.long x1), .second, .val (.long x2), .second, .val (.ref w_NOT_EQUAL), .val (.ref w_EQUAL), .val (.int (1 : Int32)), .val (.int (1 : Int32)), .val (.int (1 : Int32))] [])) _
            refine XS.iload X105.here hx rfl (hb hby at_97) rfl ?_
            show Steps p.tables e below (T105.setTop (mkF m 99 #[.val (.int x0), .val (.long x1), .second, .val (.long x2), .second, .val (.ref w_NOT_EQUAL), .val (.ref w_EQUAL), .val (.int (1 : Int32)), .val (.int (1 : Int32)), .val (.int (1 : Int32))] [(.int (1 : Int32))])) _
            refine XS.ifNo X105.here hx rfl (hb hby at_99) rfl ((if0 _ _).trans (feq ((by decide) : ¬ ((1 : Int32) = (0 : Int32)))).1) ?_
            show Steps p.tables e below (T105.setTop (mkF m 102 #[.val (.int x0), .val (.long x1), .second, .val (.long x2), .second, .val (.ref w_NOT_EQUAL), .val (.ref w_EQUAL), .val (.int (1 : Int32)), .val (.int (1 : Int32)), .val (.int (1 : Int32))] [])) _
            refine XS.iload X105.here hx rfl (hb hby at_102) rfl ?_
            show Steps p.tables e below (T105.setTop (mkF m 104 #[.val (.int x0), .val (.long x1), .second, .val (.long x2), .second, .val (.ref w_NOT_EQUAL), .val (.ref w_EQUAL), .val (.int (1 : Int32)), .val (.int (1 : Int32)), .val (.int (1 : Int32))] [(.int (1 : Int32))])) _
            refine XS.ifNo X105.here hx rfl (hb hby at_104) rfl ((if0 _ _).trans (feq ((by decide) : ¬ ((1 : Int32) = (0 : Int32)))).1) ?_
            show Steps p.tables e below (T105.setTop (mkF m 107 #[.val (.int x0), .val (.long x1), .second, .val (.long x2), .second, .val (.ref w_NOT_EQUAL), .val (.ref w_EQUAL), .val (.int (1 : Int32)), .val (.int (1 : Int32)), .val (.int (1 : Int32))] [])) _
            refine XS.iconst X105.here hx rfl (hb hby at_107) ?_
            show Steps p.tables e below (T105.setTop (mkF m 108 #[.val (.int x0), .val (.long x1), .second, .val (.long x2), .second, .val (.ref w_NOT_EQUAL), .val (.ref w_EQUAL), .val (.int (1 : Int32)), .val (.int (1 : Int32)), .val (.int (1 : Int32))] [(.int (1 : Int32))])) _
            refine XS.goto X105.here hx rfl (pc0 := 108) (pc' := 112) rfl (hb hby at_108) (by decide) (by decide) ?_
            exact kk)
          obtain ⟨fs, hr, hrun, hended, hW, hsame⟩ := X105.leave (v := some (.int (1 : Int32))) (fun h => by rw [Bd.returns] at h; cases h)
          refine ⟨_, _, pre106 _ ?_, hrun, hended, _, _, rfl, ?_, ⟨_, rfl⟩, hW, hsame.mono (by decide) (by decide)⟩
          · exact retN X105 hx (t := .boolean) Bd.returns (by simp) (hb hby at_112) hr
          · exact ⟨rfl, N105⟩
        ·
          obtain ⟨cq107, kq107, q107a, q107b, q107c⟩ := isOf hZ e89 E_w_EQUAL
          obtain ⟨_, _, ⟨T107, L107, k107, n107⟩, -, X107, ⟨Lc107, hQ107, l107, y107, z107⟩, st107⟩ := X89.virtualBack hx (y := (⟨"com/example/latticut/latticut/lang/Comparison", "test", "(JJ)Z"⟩ : MethodName)) (z := (⟨"com/example/latticut/latticut/lang/Comparison", "test", "(JJ)Z"⟩ : MethodName)) hown (mvT hZ (hw _ (List.mem_of_getElem? (i := 16) rfl))) (mvT hZ (hw _ (List.mem_of_getElem? (i := 17) rfl))) (notFace_of_selects (args := #[]) (mvT hZ (hw _ (List.mem_of_getElem? (i := 19) rfl)))) (mvT hZ (hw _ (List.mem_of_getElem? (i := 19) rfl))) (mvT hZ (hw _ (List.mem_of_getElem? (i := 18) rfl))) (by decide) (backOf (W := 0) (rm17 l Z a0 hw [] w_EQUAL x1 x2 h0 n0 Z0 hc91 hc99 F_whenGreater_w_EQUAL E_w_EQUAL) hZ (hw _ (List.mem_of_getElem? (i := 20) rfl)) (hw _ (List.mem_of_getElem? (i := 6) rfl)) (by decide) (by decide)) q107a q107c (g := (mkF m 24 #[.val (.int x0), .val (.long x1), .second, .val (.long x2), .second, .val (.ref w_NOT_EQUAL), .val (.ref w_EQUAL), .unset, .unset, .unset] [(.long x2), (.long x1), (.ref w_EQUAL)])) rfl (by rw [hml]; rfl) (Steps.refl _) (argsL := [(.long x1), (.long x2)]) (rest := []) (lenOf pd_4 rfl) rfl (by show 2 * 0 + _ ≤ _; exact Nat.le_of_eq rfl) (hb hby at_24) (fun _ _ => ⟨rfl, e89, (by decide : 0 + 0 ≤ _), (by decide : 0 + 0 ≤ _)⟩)
          dsimp only [Pt.U, Pt.locs, Pt.cells, Pt.slots] at X107 l107 y107 z107 st107 hQ107
          subst l107 y107 z107
          obtain ⟨rfl, N107q, e107⟩ := hQ107
          have N107 := Fr.app N89 N107q
          obtain ⟨cq108, kq108, q108a, q108b, q108c⟩ := isOf hZ e107 E_w_NOT_EQUAL
          obtain ⟨_, _, ⟨T108, L108, k108, n108⟩, -, X108, ⟨Lc108, hQ108, l108, y108, z108⟩, st108⟩ := X107.virtualBack hx (y := (⟨"com/example/latticut/latticut/lang/Comparison", "test", "(JJ)Z"⟩ : MethodName)) (z := (⟨"com/example/latticut/latticut/lang/Comparison", "test", "(JJ)Z"⟩ : MethodName)) hown (mvT hZ (hw _ (List.mem_of_getElem? (i := 16) rfl))) (mvT hZ (hw _ (List.mem_of_getElem? (i := 17) rfl))) (notFace_of_selects (args := #[]) (mvT hZ (hw _ (List.mem_of_getElem? (i := 19) rfl)))) (mvT hZ (hw _ (List.mem_of_getElem? (i := 19) rfl))) (mvT hZ (hw _ (List.mem_of_getElem? (i := 18) rfl))) (by decide) (backOf (W := 1) (rm15 l Z a0 hw [] w_NOT_EQUAL x1 x2 h0 n0 Z0 hc91 hc99 F_whenGreater_w_NOT_EQUAL E_w_NOT_EQUAL) hZ (hw _ (List.mem_of_getElem? (i := 20) rfl)) (hw _ (List.mem_of_getElem? (i := 6) rfl)) (by decide) (by decide)) q108a q108c (g := (mkF m 31 #[.val (.int x0), .val (.long x1), .second, .val (.long x2), .second, .val (.ref w_NOT_EQUAL), .val (.ref w_EQUAL), .unset, .unset, .unset] [(.long x2), (.long x1), (.ref w_NOT_EQUAL), (.int (0 : Int32))])) rfl (by rw [hml]; rfl) (Steps.refl _) (argsL := [(.long x1), (.long x2)]) (rest := [(.int (0 : Int32))]) (lenOf pd_4 rfl) rfl (by show 2 * 0 + _ ≤ _; exact Nat.le_of_eq rfl) (hb hby at_31) (fun _ _ => ⟨rfl, e107, (by decide : 0 + 0 ≤ _), (by decide : 0 + 0 ≤ _)⟩)
          dsimp only [Pt.U, Pt.locs, Pt.cells, Pt.slots] at X108 l108 y108 z108 st108 hQ108
          subst l108 y108 z108
          obtain ⟨rfl, N108q, e108⟩ := hQ108
          have N108 := Fr.app N107 N108q
          obtain ⟨cq109, kq109, q109a, q109b, q109c⟩ := isOf hZ e108 E_w_EQUAL
          obtain ⟨_, _, ⟨T109, L109, k109, n109⟩, -, X109, ⟨Lc109, hQ109, l109, y109, z109⟩, st109⟩ := X108.virtualBack hx (y := (⟨"com/example/latticut/latticut/lang/Comparison", "test", "(JJ)Z"⟩ : MethodName)) (z := (⟨"com/example/latticut/latticut/lang/Comparison", "test", "(JJ)Z"⟩ : MethodName)) hown (mvT hZ (hw _ (List.mem_of_getElem? (i := 16) rfl))) (mvT hZ (hw _ (List.mem_of_getElem? (i := 17) rfl))) (notFace_of_selects (args := #[]) (mvT hZ (hw _ (List.mem_of_getElem? (i := 19) rfl)))) (mvT hZ (hw _ (List.mem_of_getElem? (i := 19) rfl))) (mvT hZ (hw _ (List.mem_of_getElem? (i := 18) rfl))) (by decide) (backOf (W := 0) (rm12 l Z a0 hw [] w_EQUAL x1 h0 n0 Z0 ((own_ar8 x1 x2 hc91 hc99)) ((own_ar9 x1 x2 hc91 hc99)) F_whenEqual_w_EQUAL E_w_EQUAL) hZ (hw _ (List.mem_of_getElem? (i := 20) rfl)) (hw _ (List.mem_of_getElem? (i := 6) rfl)) (by decide) (by decide)) q109a q109c (g := (mkF m 48 #[.val (.int x0), .val (.long x1), .second, .val (.long x2), .second, .val (.ref w_NOT_EQUAL), .val (.ref w_EQUAL), .val (.int (1 : Int32)), .unset, .unset] [(.long x1), (.long x1), (.ref w_EQUAL)])) rfl (by rw [hml]; rfl) (Steps.refl _) (argsL := [(.long x1), (.long x1)]) (rest := []) (lenOf pd_4 rfl) rfl (by show 2 * 0 + _ ≤ _; exact Nat.le_of_eq rfl) (hb hby at_48) (fun _ _ => ⟨rfl, e108, (by decide : 0 + 0 ≤ _), (by decide : 0 + 0 ≤ _)⟩)
          dsimp only [Pt.U, Pt.locs, Pt.cells, Pt.slots] at X109 l109 y109 z109 st109 hQ109
          subst l109 y109 z109
          obtain ⟨rfl, N109q, e109⟩ := hQ109
          have N109 := Fr.app N108 N109q
          obtain ⟨cq110, kq110, q110a, q110b, q110c⟩ := isOf hZ e109 E_w_NOT_EQUAL
          obtain ⟨_, _, ⟨T110, L110, k110, n110⟩, -, X110, ⟨Lc110, hQ110, l110, y110, z110⟩, st110⟩ := X109.virtualBack hx (y := (⟨"com/example/latticut/latticut/lang/Comparison", "test", "(JJ)Z"⟩ : MethodName)) (z := (⟨"com/example/latticut/latticut/lang/Comparison", "test", "(JJ)Z"⟩ : MethodName)) hown (mvT hZ (hw _ (List.mem_of_getElem? (i := 16) rfl))) (mvT hZ (hw _ (List.mem_of_getElem? (i := 17) rfl))) (notFace_of_selects (args := #[]) (mvT hZ (hw _ (List.mem_of_getElem? (i := 19) rfl)))) (mvT hZ (hw _ (List.mem_of_getElem? (i := 19) rfl))) (mvT hZ (hw _ (List.mem_of_getElem? (i := 18) rfl))) (by decide) (backOf (W := 1) (rm10 l Z a0 hw [] w_NOT_EQUAL x1 h0 n0 Z0 ((own_ar8 x1 x2 hc91 hc99)) ((own_ar9 x1 x2 hc91 hc99)) F_whenEqual_w_NOT_EQUAL E_w_NOT_EQUAL) hZ (hw _ (List.mem_of_getElem? (i := 20) rfl)) (hw _ (List.mem_of_getElem? (i := 6) rfl)) (by decide) (by decide)) q110a q110c (g := (mkF m 55 #[.val (.int x0), .val (.long x1), .second, .val (.long x2), .second, .val (.ref w_NOT_EQUAL), .val (.ref w_EQUAL), .val (.int (1 : Int32)), .unset, .unset] [(.long x1), (.long x1), (.ref w_NOT_EQUAL), (.int (1 : Int32))])) rfl (by rw [hml]; rfl) (Steps.refl _) (argsL := [(.long x1), (.long x1)]) (rest := [(.int (1 : Int32))]) (lenOf pd_4 rfl) rfl (by show 2 * 0 + _ ≤ _; exact Nat.le_of_eq rfl) (hb hby at_55) (fun _ _ => ⟨rfl, e109, (by decide : 0 + 0 ≤ _), (by decide : 0 + 0 ≤ _)⟩)
          dsimp only [Pt.U, Pt.locs, Pt.cells, Pt.slots] at X110 l110 y110 z110 st110 hQ110
          subst l110 y110 z110
          obtain ⟨rfl, N110q, e110⟩ := hQ110
          have N110 := Fr.app N109 N110q
          obtain ⟨cq111, kq111, q111a, q111b, q111c⟩ := isOf hZ e110 E_w_EQUAL
          obtain ⟨_, _, ⟨T111, L111, k111, n111⟩, -, X111, ⟨Lc111, hQ111, l111, y111, z111⟩, st111⟩ := X110.virtualBack hx (y := (⟨"com/example/latticut/latticut/lang/Comparison", "test", "(JJ)Z"⟩ : MethodName)) (z := (⟨"com/example/latticut/latticut/lang/Comparison", "test", "(JJ)Z"⟩ : MethodName)) hown (mvT hZ (hw _ (List.mem_of_getElem? (i := 16) rfl))) (mvT hZ (hw _ (List.mem_of_getElem? (i := 17) rfl))) (notFace_of_selects (args := #[]) (mvT hZ (hw _ (List.mem_of_getElem? (i := 19) rfl)))) (mvT hZ (hw _ (List.mem_of_getElem? (i := 19) rfl))) (mvT hZ (hw _ (List.mem_of_getElem? (i := 18) rfl))) (by decide) (backOf (W := 0) (rm7 l Z a0 hw [] w_EQUAL x2 x1 h0 n0 Z0 ((own_ar10 x1 x2 hc91 hc99)) F_whenLess_w_EQUAL E_w_EQUAL) hZ (hw _ (List.mem_of_getElem? (i := 20) rfl)) (hw _ (List.mem_of_getElem? (i := 6) rfl)) (by decide) (by decide)) q111a q111c (g := (mkF m 72 #[.val (.int x0), .val (.long x1), .second, .val (.long x2), .second, .val (.ref w_NOT_EQUAL), .val (.ref w_EQUAL), .val (.int (1 : Int32)), .val (.int (1 : Int32)), .unset] [(.long x1), (.long x2), (.ref w_EQUAL)])) rfl (by rw [hml]; rfl) (Steps.refl _) (argsL := [(.long x2), (.long x1)]) (rest := []) (lenOf pd_4 rfl) rfl (by show 2 * 0 + _ ≤ _; exact Nat.le_of_eq rfl) (hb hby at_72) (fun _ _ => ⟨rfl, e110, (by decide : 0 + 0 ≤ _), (by decide : 0 + 0 ≤ _)⟩)
          dsimp only [Pt.U, Pt.locs, Pt.cells, Pt.slots] at X111 l111 y111 z111 st111 hQ111
          subst l111 y111 z111
          obtain ⟨rfl, N111q, e111⟩ := hQ111
          have N111 := Fr.app N110 N111q
          obtain ⟨cq112, kq112, q112a, q112b, q112c⟩ := isOf hZ e111 E_w_NOT_EQUAL
          obtain ⟨_, _, ⟨T112, L112, k112, n112⟩, -, X112, ⟨Lc112, hQ112, l112, y112, z112⟩, st112⟩ := X111.virtualBack hx (y := (⟨"com/example/latticut/latticut/lang/Comparison", "test", "(JJ)Z"⟩ : MethodName)) (z := (⟨"com/example/latticut/latticut/lang/Comparison", "test", "(JJ)Z"⟩ : MethodName)) hown (mvT hZ (hw _ (List.mem_of_getElem? (i := 16) rfl))) (mvT hZ (hw _ (List.mem_of_getElem? (i := 17) rfl))) (notFace_of_selects (args := #[]) (mvT hZ (hw _ (List.mem_of_getElem? (i := 19) rfl)))) (mvT hZ (hw _ (List.mem_of_getElem? (i := 19) rfl))) (mvT hZ (hw _ (List.mem_of_getElem? (i := 18) rfl))) (by decide) (backOf (W := 1) (rm5 l Z a0 hw [] w_NOT_EQUAL x2 x1 h0 n0 Z0 ((own_ar10 x1 x2 hc91 hc99)) F_whenLess_w_NOT_EQUAL E_w_NOT_EQUAL) hZ (hw _ (List.mem_of_getElem? (i := 20) rfl)) (hw _ (List.mem_of_getElem? (i := 6) rfl)) (by decide) (by decide)) q112a q112c (g := (mkF m 79 #[.val (.int x0), .val (.long x1), .second, .val (.long x2), .second, .val (.ref w_NOT_EQUAL), .val (.ref w_EQUAL), .val (.int (1 : Int32)), .val (.int (1 : Int32)), .unset] [(.long x1), (.long x2), (.ref w_NOT_EQUAL), (.int (0 : Int32))])) rfl (by rw [hml]; rfl) (Steps.refl _) (argsL := [(.long x2), (.long x1)]) (rest := [(.int (0 : Int32))]) (lenOf pd_4 rfl) rfl (by show 2 * 0 + _ ≤ _; exact Nat.le_of_eq rfl) (hb hby at_79) (fun _ _ => ⟨rfl, e111, (by decide : 0 + 0 ≤ _), (by decide : 0 + 0 ≤ _)⟩)
          dsimp only [Pt.U, Pt.locs, Pt.cells, Pt.slots] at X112 l112 y112 z112 st112 hQ112
          subst l112 y112 z112
          obtain ⟨rfl, N112q, e112⟩ := hQ112
          have N112 := Fr.app N111 N112q
          have pre113 : ∀ t, Steps p.tables e below (T112.setTop (mkF m 112 #[.val (.int x0), .val (.long x1), .second, .val (.long x2), .second, .val (.ref w_NOT_EQUAL), .val (.ref w_EQUAL), .val (.int (1 : Int32)), .val (.int (1 : Int32)), .val (.int (1 : Int32))] [(.int (1 : Int32))])) t → Steps p.tables e below (s₁.setTop (entryFrame m #[(.int x0), (.long x1), (.long x2)] maxLocals)) t := fun t kk => pre90 t (by
            show Steps p.tables e below (T89.setTop (mkF m 24 #[.val (.int x0), .val (.long x1), .second, .val (.long x2), .second, .val (.ref w_NOT_EQUAL), .val (.ref w_EQUAL), .unset, .unset, .unset] [(.long x2), (.long x1), (.ref w_EQUAL)])) _
            refine st107.trans ?_
            show Steps p.tables e below (T107.setTop (mkF m 27 #[.val (.int x0), .val (.long x1), .second, .val (.long x2), .second, .val (.ref w_NOT_EQUAL), .val (.ref w_EQUAL), .unset, .unset, .unset] [(.int (0 : Int32))])) _
            refine XS.aload X107.here hx rfl (hb hby at_27) rfl rfl ?_
            show Steps p.tables e below (T107.setTop (mkF m 29 #[.val (.int x0), .val (.long x1), .second, .val (.long x2), .second, .val (.ref w_NOT_EQUAL), .val (.ref w_EQUAL), .unset, .unset, .unset] [(.ref w_NOT_EQUAL), (.int (0 : Int32))])) _
            refine XS.lloadN X107.here hx rfl (hb hby at_29) rfl ?_
            show Steps p.tables e below (T107.setTop (mkF m 30 #[.val (.int x0), .val (.long x1), .second, .val (.long x2), .second, .val (.ref w_NOT_EQUAL), .val (.ref w_EQUAL), .unset, .unset, .unset] [(.long x1), (.ref w_NOT_EQUAL), (.int (0 : Int32))])) _
            refine XS.lloadN X107.here hx rfl (hb hby at_30) rfl ?_
            show Steps p.tables e below (T107.setTop (mkF m 31 #[.val (.int x0), .val (.long x1), .second, .val (.long x2), .second, .val (.ref w_NOT_EQUAL), .val (.ref w_EQUAL), .unset, .unset, .unset] [(.long x2), (.long x1), (.ref w_NOT_EQUAL), (.int (0 : Int32))])) _
            refine st108.trans ?_
            show Steps p.tables e below (T108.setTop (mkF m 34 #[.val (.int x0), .val (.long x1), .second, .val (.long x2), .second, .val (.ref w_NOT_EQUAL), .val (.ref w_EQUAL), .unset, .unset, .unset] [(.int (1 : Int32)), (.int (0 : Int32))])) _
            refine XS.icmpNo X108.here hx rfl (hb hby at_34) rfl (feq ((by decide) : ¬ ((0 : Int32) = (1 : Int32)))).1 ?_
            show Steps p.tables e below (T108.setTop (mkF m 37 #[.val (.int x0), .val (.long x1), .second, .val (.long x2), .second, .val (.ref w_NOT_EQUAL), .val (.ref w_EQUAL), .unset, .unset, .unset] [])) _
            refine XS.iconst X108.here hx rfl (hb hby at_37) ?_
            show Steps p.tables e below (T108.setTop (mkF m 38 #[.val (.int x0), .val (.long x1), .second, .val (.long x2), .second, .val (.ref w_NOT_EQUAL), .val (.ref w_EQUAL), .unset, .unset, .unset] [(.int (1 : Int32))])) _
            refine XS.goto X108.here hx rfl (pc0 := 38) (pc' := 42) rfl (hb hby at_38) (by decide) (by decide) ?_
            show Steps p.tables e below (T108.setTop (mkF m 42 #[.val (.int x0), .val (.long x1), .second, .val (.long x2), .second, .val (.ref w_NOT_EQUAL), .val (.ref w_EQUAL), .unset, .unset, .unset] [(.int (1 : Int32))])) _
            refine XS.istore X108.here hx rfl (hb hby at_42) rfl (l' := #[.val (.int x0), .val (.long x1), .second, .val (.long x2), .second, .val (.ref w_NOT_EQUAL), .val (.ref w_EQUAL), .val (.int (1 : Int32)), .unset, .unset]) rfl ?_
            show Steps p.tables e below (T108.setTop (mkF m 44 #[.val (.int x0), .val (.long x1), .second, .val (.long x2), .second, .val (.ref w_NOT_EQUAL), .val (.ref w_EQUAL), .val (.int (1 : Int32)), .unset, .unset] [])) _
            refine XS.aload X108.here hx rfl (hb hby at_44) rfl rfl ?_
            show Steps p.tables e below (T108.setTop (mkF m 46 #[.val (.int x0), .val (.long x1), .second, .val (.long x2), .second, .val (.ref w_NOT_EQUAL), .val (.ref w_EQUAL), .val (.int (1 : Int32)), .unset, .unset] [(.ref w_EQUAL)])) _
            refine XS.lloadN X108.here hx rfl (hb hby at_46) rfl ?_
            show Steps p.tables e below (T108.setTop (mkF m 47 #[.val (.int x0), .val (.long x1), .second, .val (.long x2), .second, .val (.ref w_NOT_EQUAL), .val (.ref w_EQUAL), .val (.int (1 : Int32)), .unset, .unset] [(.long x1), (.ref w_EQUAL)])) _
            refine XS.lloadN X108.here hx rfl (hb hby at_47) rfl ?_
            show Steps p.tables e below (T108.setTop (mkF m 48 #[.val (.int x0), .val (.long x1), .second, .val (.long x2), .second, .val (.ref w_NOT_EQUAL), .val (.ref w_EQUAL), .val (.int (1 : Int32)), .unset, .unset] [(.long x1), (.long x1), (.ref w_EQUAL)])) _
            refine st109.trans ?_
            show Steps p.tables e below (T109.setTop (mkF m 51 #[.val (.int x0), .val (.long x1), .second, .val (.long x2), .second, .val (.ref w_NOT_EQUAL), .val (.ref w_EQUAL), .val (.int (1 : Int32)), .unset, .unset] [(.int (1 : Int32))])) _
            refine XS.aload X109.here hx rfl (hb hby at_51) rfl rfl ?_
            show Steps p.tables e below (T109.setTop (mkF m 53 #[.val (.int x0), .val (.long x1), .second, .val (.long x2), .second, .val (.ref w_NOT_EQUAL), .val (.ref w_EQUAL), .val (.int (1 : Int32)), .unset, .unset] [(.ref w_NOT_EQUAL), (.int (1 : Int32))])) _
            refine XS.lloadN X109.here hx rfl (hb hby at_53) rfl ?_
            show Steps p.tables e below (T109.setTop (mkF m 54 #[.val (.int x0), .val (.long x1), .second, .val (.long x2), .second, .val (.ref w_NOT_EQUAL), .val (.ref w_EQUAL), .val (.int (1 : Int32)), .unset, .unset] [(.long x1), (.ref w_NOT_EQUAL), (.int (1 : Int32))])) _
            refine XS.lloadN X109.here hx rfl (hb hby at_54) rfl ?_
            show Steps p.tables e below (T109.setTop (mkF m 55 #[.val (.int x0), .val (.long x1), .second, .val (.long x2), .second, .val (.ref w_NOT_EQUAL), .val (.ref w_EQUAL), .val (.int (1 : Int32)), .unset, .unset] [(.long x1), (.long x1), (.ref w_NOT_EQUAL), (.int (1 : Int32))])) _
            refine st110.trans ?_
            show Steps p.tables e below (T110.setTop (mkF m 58 #[.val (.int x0), .val (.long x1), .second, .val (.long x2), .second, .val (.ref w_NOT_EQUAL), .val (.ref w_EQUAL), .val (.int (1 : Int32)), .unset, .unset] [(.int (0 : Int32)), (.int (1 : Int32))])) _
            refine XS.icmpNo X110.here hx rfl (hb hby at_58) rfl (feq ((by decide) : ¬ ((1 : Int32) = (0 : Int32)))).1 ?_
            show Steps p.tables e below (T110.setTop (mkF m 61 #[.val (.int x0), .val (.long x1), .second, .val (.long x2), .second, .val (.ref w_NOT_EQUAL), .val (.ref w_EQUAL), .val (.int (1 : Int32)), .unset, .unset] [])) _
            refine XS.iconst X110.here hx rfl (hb hby at_61) ?_
            show Steps p.tables e below (T110.setTop (mkF m 62 #[.val (.int x0), .val (.long x1), .second, .val (.long x2), .second, .val (.ref w_NOT_EQUAL), .val (.ref w_EQUAL), .val (.int (1 : Int32)), .unset, .unset] [(.int (1 : Int32))])) _
            refine XS.goto X110.here hx rfl (pc0 := 62) (pc' := 66) rfl (hb hby at_62) (by decide) (by decide) ?_
            show Steps p.tables e below (T110.setTop (mkF m 66 #[.val (.int x0), .val (.long x1), .second, .val (.long x2), .second, .val (.ref w_NOT_EQUAL), .val (.ref w_EQUAL), .val (.int (1 : Int32)), .unset, .unset] [(.int (1 : Int32))])) _
            refine XS.istore X110.here hx rfl (hb hby at_66) rfl (l' := #[.val (.int x0), .val (.long x1), .second, .val (.long x2), .second, .val (.ref w_NOT_EQUAL), .val (.ref w_EQUAL), .val (.int (1 : Int32)), .val (.int (1 : Int32)), .unset]) rfl ?_
            show Steps p.tables e below (T110.setTop (mkF m 68 #[.val (.int x0), .val (.long x1), .second, .val (.long x2), .second, .val (.ref w_NOT_EQUAL), .val (.ref w_EQUAL), .val (.int (1 : Int32)), .val (.int (1 : Int32)), .unset] [])) _
            refine XS.aload X110.here hx rfl (hb hby at_68) rfl rfl ?_
            show Steps p.tables e below (T110.setTop (mkF m 70 #[.val (.int x0), .val (.long x1), .second, .val (.long x2), .second, .val (.ref w_NOT_EQUAL), .val (.ref w_EQUAL), .val (.int (1 : Int32)), .val (.int (1 : Int32)), .unset] [(.ref w_EQUAL)])) _
            refine XS.lloadN X110.here hx rfl (hb hby at_70) rfl ?_
            show Steps p.tables e below (T110.setTop (mkF m 71 #[.val (.int x0), .val (.long x1), .second, .val (.long x2), .second, .val (.ref w_NOT_EQUAL), .val (.ref w_EQUAL), .val (.int (1 : Int32)), .val (.int (1 : Int32)), .unset] [(.long x2), (.ref w_EQUAL)])) _
            refine XS.lloadN X110.here hx rfl (hb hby at_71) rfl ?_
            show Steps p.tables e below (T110.setTop (mkF m 72 #[.val (.int x0), .val (.long x1), .second, .val (.long x2), .second, .val (.ref w_NOT_EQUAL), .val (.ref w_EQUAL), .val (.int (1 : Int32)), .val (.int (1 : Int32)), .unset] [(.long x1), (.long x2), (.ref w_EQUAL)])) _
            refine st111.trans ?_
            show Steps p.tables e below (T111.setTop (mkF m 75 #[.val (.int x0), .val (.long x1), .second, .val (.long x2), .second, .val (.ref w_NOT_EQUAL), .val (.ref w_EQUAL), .val (.int (1 : Int32)), .val (.int (1 : Int32)), .unset] [(.int (0 : Int32))])) _
            refine XS.aload X111.here hx rfl (hb hby at_75) rfl rfl ?_
            show Steps p.tables e below (T111.setTop (mkF m 77 #[.val (.int x0), .val (.long x1), .second, .val (.long x2), .second, .val (.ref w_NOT_EQUAL), .val (.ref w_EQUAL), .val (.int (1 : Int32)), .val (.int (1 : Int32)), .unset] [(.ref w_NOT_EQUAL), (.int (0 : Int32))])) _
            refine XS.lloadN X111.here hx rfl (hb hby at_77) rfl ?_
            show Steps p.tables e below (T111.setTop (mkF m 78 #[.val (.int x0), .val (.long x1), .second, .val (.long x2), .second, .val (.ref w_NOT_EQUAL), .val (.ref w_EQUAL), .val (.int (1 : Int32)), .val (.int (1 : Int32)), .unset] [(.long x2), (.ref w_NOT_EQUAL), (.int (0 : Int32))])) _
            refine XS.lloadN X111.here hx rfl (hb hby at_78) rfl ?_
            show Steps p.tables e below (T111.setTop (mkF m 79 #[.val (.int x0), .val (.long x1), .second, .val (.long x2), .second, .val (.ref w_NOT_EQUAL), .val (.ref w_EQUAL), .val (.int (1 : Int32)), .val (.int (1 : Int32)), .unset] [(.long x1), (.long x2), (.ref w_NOT_EQUAL), (.int (0 : Int32))])) _
            refine st112.trans ?_
            show Steps p.tables e below (T112.setTop (mkF m 82 #[.val (.int x0), .val (.long x1), .second, .val (.long x2), .second, .val (.ref w_NOT_EQUAL), .val (.ref w_EQUAL), .val (.int (1 : Int32)), .val (.int (1 : Int32)), .unset] [(.int (1 : Int32)), (.int (0 : Int32))])) _
            refine XS.icmpNo X112.here hx rfl (hb hby at_82) rfl (feq ((by decide) : ¬ ((0 : Int32) = (1 : Int32)))).1 ?_
            show Steps p.tables e below (T112.setTop (mkF m 85 #[.val (.int x0), .val (.long x1), .second, .val (.long x2), .second, .val (.ref w_NOT_EQUAL), .val (.ref w_EQUAL), .val (.int (1 : Int32)), .val (.int (1 : Int32)), .unset] [])) _
            refine XS.iconst X112.here hx rfl (hb hby at_85) ?_
            show Steps p.tables e below (T112.setTop (mkF m 86 #[.val (.int x0), .val (.long x1), .second, .val (.long x2), .second, .val (.ref w_NOT_EQUAL), .val (.ref w_EQUAL), .val (.int (1 : Int32)), .val (.int (1 : Int32)), .unset] [(.int (1 : Int32))])) _
            refine XS.goto X112.here hx rfl (pc0 := 86) (pc' := 90) rfl (hb hby at_86) (by decide) (by decide) ?_
            show Steps p.tables e below (T112.setTop (mkF m 90 #[.val (.int x0), .val (.long x1), .second, .val (.long x2), .second, .val (.ref w_NOT_EQUAL), .val (.ref w_EQUAL), .val (.int (1 : Int32)), .val (.int (1 : Int32)), .unset] [(.int (1 : Int32))])) _
            refine XS.istore X112.here hx rfl (hb hby at_90) rfl (l' := #[.val (.int x0), .val (.long x1), .second, .val (.long x2), .second, .val (.ref w_NOT_EQUAL), .val (.ref w_EQUAL), .val (.int (1 : Int32)), .val (.int (1 : Int32)), .val (.int (1 : Int32))]) rfl ?_
            show Steps p.tables e below (T112.setTop (mkF m 92 #[.val (.int x0), .val (.long x1), .second, .val (.long x2), .second, .val (.ref w_NOT_EQUAL), .val (.ref w_EQUAL), .val (.int (1 : Int32)), .val (.int (1 : Int32)), .val (.int (1 : Int32))] [])) _
            refine XS.iload X112.here hx rfl (hb hby at_92) rfl ?_
            show Steps p.tables e below (T112.setTop (mkF m 94 #[.val (.int x0), .val (.long x1), .second, .val (.long x2), .second, .val (.ref w_NOT_EQUAL), .val (.ref w_EQUAL), .val (.int (1 : Int32)), .val (.int (1 : Int32)), .val (.int (1 : Int32))] [(.int (1 : Int32))])) _
            refine XS.ifNo X112.here hx rfl (hb hby at_94) rfl ((if0 _ _).trans (feq ((by decide) : ¬ ((1 : Int32) = (0 : Int32)))).1) ?_
            show Steps p.tables e below (T112.setTop (mkF m 97 #[.val (.int x0), .val (.long x1), .second, .val (.long x2), .second, .val (.ref w_NOT_EQUAL), .val (.ref w_EQUAL), .val (.int (1 : Int32)), .val (.int (1 : Int32)), .val (.int (1 : Int32))] [])) _
            refine XS.iload X112.here hx rfl (hb hby at_97) rfl ?_
            show Steps p.tables e below (T112.setTop (mkF m 99 #[.val (.int x0), .val (.long x1), .second, .val (.long x2), .second, .val (.ref w_NOT_EQUAL), .val (.ref w_EQUAL), .val (.int (1 : Int32)), .val (.int (1 : Int32)), .val (.int (1 : Int32))] [(.int (1 : Int32))])) _
            refine XS.ifNo X112.here hx rfl (hb hby at_99) rfl ((if0 _ _).trans (feq ((by decide) : ¬ ((1 : Int32) = (0 : Int32)))).1) ?_
            show Steps p.tables e below (T112.setTop (mkF m 102 #[.val (.int x0), .val (.long x1), .second, .val (.long x2), .second, .val (.ref w_NOT_EQUAL), .val (.ref w_EQUAL), .val (.int (1 : Int32)), .val (.int (1 : Int32)), .val (.int (1 : Int32))] [])) _
            refine XS.iload X112.here hx rfl (hb hby at_102) rfl ?_
            show Steps p.tables e below (T112.setTop (mkF m 104 #[.val (.int x0), .val (.long x1), .second, .val (.long x2), .second, .val (.ref w_NOT_EQUAL), .val (.ref w_EQUAL), .val (.int (1 : Int32)), .val (.int (1 : Int32)), .val (.int (1 : Int32))] [(.int (1 : Int32))])) _
            refine XS.ifNo X112.here hx rfl (hb hby at_104) rfl ((if0 _ _).trans (feq ((by decide) : ¬ ((1 : Int32) = (0 : Int32)))).1) ?_
            show Steps p.tables e below (T112.setTop (mkF m 107 #[.val (.int x0), .val (.long x1), .second, .val (.long x2), .second, .val (.ref w_NOT_EQUAL), .val (.ref w_EQUAL), .val (.int (1 : Int32)), .val (.int (1 : Int32)), .val (.int (1 : Int32))] [])) _
            refine XS.iconst X112.here hx rfl (hb hby at_107) ?_
            show Steps p.tables e below (T112.setTop (mkF m 108 #[.val (.int x0), .val (.long x1), .second, .val (.long x2), .second, .val (.ref w_NOT_EQUAL), .val (.ref w_EQUAL), .val (.int (1 : Int32)), .val (.int (1 : Int32)), .val (.int (1 : Int32))] [(.int (1 : Int32))])) _
            refine XS.goto X112.here hx rfl (pc0 := 108) (pc' := 112) rfl (hb hby at_108) (by decide) (by decide) ?_
            exact kk)
          obtain ⟨fs, hr, hrun, hended, hW, hsame⟩ := X112.leave (v := some (.int (1 : Int32))) (fun h => by rw [Bd.returns] at h; cases h)
          refine ⟨_, _, pre113 _ ?_, hrun, hended, _, _, rfl, ?_, ⟨_, rfl⟩, hW, hsame.mono (by decide) (by decide)⟩
          · exact retN X112 hx (t := .boolean) Bd.returns (by simp) (hb hby at_112) hr
          · exact ⟨rfl, N112⟩
    ·
      by_cases hc114 : ((x0 &&& (2147483647 : Int32)) % (6 : Int32)) = (2 : Int32)
      ·
        obtain ⟨_, _, ⟨T115, L115, k115, n115⟩, -, X115, ⟨Lc115, hQ115, l115, y115, z115⟩, st115⟩ := Jvm.LawKit.callS X0 hx (y := (⟨"com/example/latticut/latticut/lang/ComparisonNegatedPinLaw", "pick", "(I)Lcom/example/latticut/latticut/lang/Comparison;"⟩ : MethodName)) hown (mvT hZ (hw _ (List.mem_of_getElem? (i := 0) rfl))) (mvT hZ (hw _ (List.mem_of_getElem? (i := 1) rfl))) (mvT hZ (hw _ (List.mem_of_getElem? (i := 2) rfl))) (mvT hZ (hw _ (List.mem_of_getElem? (i := 3) rfl))) (by decide) (backOf (W := 0) (rm23 l Z a0 hw [] x0 w_LESS h0 n0 Z0 hc60 hc87 hc114 S_w_LESS) hZ (hw _ (List.mem_of_getElem? (i := 3) rfl)) (hw _ (List.mem_of_getElem? (i := 2) rfl)) (by decide) (by decide)) (g := (mkF m 1 #[.val (.int x0), .val (.long x1), .second, .val (.long x2), .second, .unset, .unset, .unset, .unset, .unset] [(.int x0)])) rfl (by rw [hml]; rfl) (argsL := [(.int x0)]) (rest := []) (lenOf pd_0 rfl) rfl (by show 2 * 0 + _ ≤ _; exact Nat.le_of_eq rfl) (hb hby at_1) (fun _ _ => ⟨rfl, e0, (by decide : 0 + 0 ≤ _), (by decide : 0 + 0 ≤ _)⟩)
        dsimp only [Pt.U, Pt.locs, Pt.cells, Pt.slots] at X115 l115 y115 z115 st115 hQ115
        subst l115 y115 z115
        obtain ⟨rfl, N115q, e115⟩ := hQ115
        have N115 := Fr.app N0 N115q
        obtain ⟨cq116, kq116, q116a, q116b, q116c⟩ := isOf hZ e115 E_w_LESS
        obtain ⟨_, _, ⟨T116, L116, k116, n116⟩, -, X116, ⟨Lc116, hQ116, l116, y116, z116⟩, st116⟩ := X115.virtualBack hx (y := (⟨"com/example/latticut/latticut/lang/Comparison", "negated", "()Lcom/example/latticut/latticut/lang/Comparison;"⟩ : MethodName)) (z := (⟨"com/example/latticut/latticut/lang/Comparison", "negated", "()Lcom/example/latticut/latticut/lang/Comparison;"⟩ : MethodName)) hown (mvT hZ (hw _ (List.mem_of_getElem? (i := 8) rfl))) (mvT hZ (hw _ (List.mem_of_getElem? (i := 9) rfl))) (notFace_of_selects (args := #[]) (mvT hZ (hw _ (List.mem_of_getElem? (i := 11) rfl)))) (mvT hZ (hw _ (List.mem_of_getElem? (i := 11) rfl))) (mvT hZ (hw _ (List.mem_of_getElem? (i := 10) rfl))) (by decide) (backOf (W := 0) (rm24 l Z a0 hw [] w_LESS w_EQUAL w_NOT_EQUAL w_GREATER_OR_EQUAL h0 n0 Z0 S_w_EQUAL ((Fld.ne F_ordinal_w_LESS F_ordinal_w_EQUAL (by decide))) S_w_NOT_EQUAL ((Fld.ne F_ordinal_w_LESS F_ordinal_w_NOT_EQUAL (by decide))) S_w_LESS S_w_GREATER_OR_EQUAL) hZ (hw _ (List.mem_of_getElem? (i := 12) rfl)) (hw _ (List.mem_of_getElem? (i := 6) rfl)) (by decide) (by decide)) q116a q116c (g := (mkF m 8 #[.val (.int x0), .val (.long x1), .second, .val (.long x2), .second, .val (.ref w_LESS), .unset, .unset, .unset, .unset] [(.ref w_LESS)])) rfl (by rw [hml]; rfl) (Steps.refl _) (argsL := []) (rest := []) (lenOf pd_1 rfl) rfl (by show 2 * 0 + _ ≤ _; exact Nat.le_of_eq rfl) (hb hby at_8) (fun _ _ => ⟨rfl, e115, (by decide : 0 + 0 ≤ _), (by decide : 0 + 0 ≤ _)⟩)
        dsimp only [Pt.U, Pt.locs, Pt.cells, Pt.slots] at X116 l116 y116 z116 st116 hQ116
        subst l116 y116 z116
        obtain ⟨rfl, N116q, e116⟩ := hQ116
        have N116 := Fr.app N115 N116q
        have pre117 : ∀ t, Steps p.tables e below (T116.setTop (mkF m 24 #[.val (.int x0), .val (.long x1), .second, .val (.long x2), .second, .val (.ref w_LESS), .val (.ref w_GREATER_OR_EQUAL), .unset, .unset, .unset] [(.long x2), (.long x1), (.ref w_GREATER_OR_EQUAL)])) t → Steps p.tables e below (s₁.setTop (entryFrame m #[(.int x0), (.long x1), (.long x2)] maxLocals)) t := fun t kk => pre59 t (by
          show Steps p.tables e below (s₁.setTop (mkF m 1 #[.val (.int x0), .val (.long x1), .second, .val (.long x2), .second, .unset, .unset, .unset, .unset, .unset] [(.int x0)])) _
          refine st115 _ ?_
          show Steps p.tables e below (T115.setTop (mkF m 4 #[.val (.int x0), .val (.long x1), .second, .val (.long x2), .second, .unset, .unset, .unset, .unset, .unset] [(.ref w_LESS)])) _
          refine XS.astore X115.here hx rfl (hb hby at_4) rfl rfl (l' := #[.val (.int x0), .val (.long x1), .second, .val (.long x2), .second, .val (.ref w_LESS), .unset, .unset, .unset, .unset]) rfl ?_
          show Steps p.tables e below (T115.setTop (mkF m 6 #[.val (.int x0), .val (.long x1), .second, .val (.long x2), .second, .val (.ref w_LESS), .unset, .unset, .unset, .unset] [])) _
          refine XS.aload X115.here hx rfl (hb hby at_6) rfl rfl ?_
          show Steps p.tables e below (T115.setTop (mkF m 8 #[.val (.int x0), .val (.long x1), .second, .val (.long x2), .second, .val (.ref w_LESS), .unset, .unset, .unset, .unset] [(.ref w_LESS)])) _
          refine st116.trans ?_
          show Steps p.tables e below (T116.setTop (mkF m 11 #[.val (.int x0), .val (.long x1), .second, .val (.long x2), .second, .val (.ref w_LESS), .unset, .unset, .unset, .unset] [(.ref w_GREATER_OR_EQUAL)])) _
          refine XS.astore X116.here hx rfl (hb hby at_11) rfl rfl (l' := #[.val (.int x0), .val (.long x1), .second, .val (.long x2), .second, .val (.ref w_LESS), .val (.ref w_GREATER_OR_EQUAL), .unset, .unset, .unset]) rfl ?_
          show Steps p.tables e below (T116.setTop (mkF m 13 #[.val (.int x0), .val (.long x1), .second, .val (.long x2), .second, .val (.ref w_LESS), .val (.ref w_GREATER_OR_EQUAL), .unset, .unset, .unset] [])) _
          refine XS.aload X116.here hx rfl (hb hby at_13) rfl rfl ?_
          show Steps p.tables e below (T116.setTop (mkF m 15 #[.val (.int x0), .val (.long x1), .second, .val (.long x2), .second, .val (.ref w_LESS), .val (.ref w_GREATER_OR_EQUAL), .unset, .unset, .unset] [(.ref w_GREATER_OR_EQUAL)])) _
          refine XS.ifnonnullYes X116.here hx rfl (pc0 := 15) (pc' := 20) rfl (hb hby at_15) rfl (by decide) (by decide) ?_
          show Steps p.tables e below (T116.setTop (mkF m 20 #[.val (.int x0), .val (.long x1), .second, .val (.long x2), .second, .val (.ref w_LESS), .val (.ref w_GREATER_OR_EQUAL), .unset, .unset, .unset] [])) _
          refine XS.aload X116.here hx rfl (hb hby at_20) rfl rfl ?_
          show Steps p.tables e below (T116.setTop (mkF m 22 #[.val (.int x0), .val (.long x1), .second, .val (.long x2), .second, .val (.ref w_LESS), .val (.ref w_GREATER_OR_EQUAL), .unset, .unset, .unset] [(.ref w_GREATER_OR_EQUAL)])) _
          refine XS.lloadN X116.here hx rfl (hb hby at_22) rfl ?_
          show Steps p.tables e below (T116.setTop (mkF m 23 #[.val (.int x0), .val (.long x1), .second, .val (.long x2), .second, .val (.ref w_LESS), .val (.ref w_GREATER_OR_EQUAL), .unset, .unset, .unset] [(.long x1), (.ref w_GREATER_OR_EQUAL)])) _
          refine XS.lloadN X116.here hx rfl (hb hby at_23) rfl ?_
          exact kk)
        by_cases hc118 : (lcmpW x1 x2) < (0 : Int32)
        ·
          obtain ⟨cq119, kq119, q119a, q119b, q119c⟩ := isOf hZ e116 E_w_GREATER_OR_EQUAL
          obtain ⟨_, _, ⟨T119, L119, k119, n119⟩, -, X119, ⟨Lc119, hQ119, l119, y119, z119⟩, st119⟩ := X116.virtualBack hx (y := (⟨"com/example/latticut/latticut/lang/Comparison", "test", "(JJ)Z"⟩ : MethodName)) (z := (⟨"com/example/latticut/latticut/lang/Comparison", "test", "(JJ)Z"⟩ : MethodName)) hown (mvT hZ (hw _ (List.mem_of_getElem? (i := 16) rfl))) (mvT hZ (hw _ (List.mem_of_getElem? (i := 17) rfl))) (notFace_of_selects (args := #[]) (mvT hZ (hw _ (List.mem_of_getElem? (i := 19) rfl)))) (mvT hZ (hw _ (List.mem_of_getElem? (i := 19) rfl))) (mvT hZ (hw _ (List.mem_of_getElem? (i := 18) rfl))) (by decide) (backOf (W := 0) (rm7 l Z a0 hw [] w_GREATER_OR_EQUAL x1 x2 h0 n0 Z0 hc118 F_whenLess_w_GREATER_OR_EQUAL E_w_GREATER_OR_EQUAL) hZ (hw _ (List.mem_of_getElem? (i := 20) rfl)) (hw _ (List.mem_of_getElem? (i := 6) rfl)) (by decide) (by decide)) q119a q119c (g := (mkF m 24 #[.val (.int x0), .val (.long x1), .second, .val (.long x2), .second, .val (.ref w_LESS), .val (.ref w_GREATER_OR_EQUAL), .unset, .unset, .unset] [(.long x2), (.long x1), (.ref w_GREATER_OR_EQUAL)])) rfl (by rw [hml]; rfl) (Steps.refl _) (argsL := [(.long x1), (.long x2)]) (rest := []) (lenOf pd_4 rfl) rfl (by show 2 * 0 + _ ≤ _; exact Nat.le_of_eq rfl) (hb hby at_24) (fun _ _ => ⟨rfl, e116, (by decide : 0 + 0 ≤ _), (by decide : 0 + 0 ≤ _)⟩)
          dsimp only [Pt.U, Pt.locs, Pt.cells, Pt.slots] at X119 l119 y119 z119 st119 hQ119
          subst l119 y119 z119
          obtain ⟨rfl, N119q, e119⟩ := hQ119
          have N119 := Fr.app N116 N119q
          obtain ⟨cq120, kq120, q120a, q120b, q120c⟩ := isOf hZ e119 E_w_LESS
          obtain ⟨_, _, ⟨T120, L120, k120, n120⟩, -, X120, ⟨Lc120, hQ120, l120, y120, z120⟩, st120⟩ := X119.virtualBack hx (y := (⟨"com/example/latticut/latticut/lang/Comparison", "test", "(JJ)Z"⟩ : MethodName)) (z := (⟨"com/example/latticut/latticut/lang/Comparison", "test", "(JJ)Z"⟩ : MethodName)) hown (mvT hZ (hw _ (List.mem_of_getElem? (i := 16) rfl))) (mvT hZ (hw _ (List.mem_of_getElem? (i := 17) rfl))) (notFace_of_selects (args := #[]) (mvT hZ (hw _ (List.mem_of_getElem? (i := 19) rfl)))) (mvT hZ (hw _ (List.mem_of_getElem? (i := 19) rfl))) (mvT hZ (hw _ (List.mem_of_getElem? (i := 18) rfl))) (by decide) (backOf (W := 1) (rm5 l Z a0 hw [] w_LESS x1 x2 h0 n0 Z0 hc118 F_whenLess_w_LESS E_w_LESS) hZ (hw _ (List.mem_of_getElem? (i := 20) rfl)) (hw _ (List.mem_of_getElem? (i := 6) rfl)) (by decide) (by decide)) q120a q120c (g := (mkF m 31 #[.val (.int x0), .val (.long x1), .second, .val (.long x2), .second, .val (.ref w_LESS), .val (.ref w_GREATER_OR_EQUAL), .unset, .unset, .unset] [(.long x2), (.long x1), (.ref w_LESS), (.int (0 : Int32))])) rfl (by rw [hml]; rfl) (Steps.refl _) (argsL := [(.long x1), (.long x2)]) (rest := [(.int (0 : Int32))]) (lenOf pd_4 rfl) rfl (by show 2 * 0 + _ ≤ _; exact Nat.le_of_eq rfl) (hb hby at_31) (fun _ _ => ⟨rfl, e119, (by decide : 0 + 0 ≤ _), (by decide : 0 + 0 ≤ _)⟩)
          dsimp only [Pt.U, Pt.locs, Pt.cells, Pt.slots] at X120 l120 y120 z120 st120 hQ120
          subst l120 y120 z120
          obtain ⟨rfl, N120q, e120⟩ := hQ120
          have N120 := Fr.app N119 N120q
          obtain ⟨cq121, kq121, q121a, q121b, q121c⟩ := isOf hZ e120 E_w_GREATER_OR_EQUAL
          obtain ⟨_, _, ⟨T121, L121, k121, n121⟩, -, X121, ⟨Lc121, hQ121, l121, y121, z121⟩, st121⟩ := X120.virtualBack hx (y := (⟨"com/example/latticut/latticut/lang/Comparison", "test", "(JJ)Z"⟩ : MethodName)) (z := (⟨"com/example/latticut/latticut/lang/Comparison", "test", "(JJ)Z"⟩ : MethodName)) hown (mvT hZ (hw _ (List.mem_of_getElem? (i := 16) rfl))) (mvT hZ (hw _ (List.mem_of_getElem? (i := 17) rfl))) (notFace_of_selects (args := #[]) (mvT hZ (hw _ (List.mem_of_getElem? (i := 19) rfl)))) (mvT hZ (hw _ (List.mem_of_getElem? (i := 19) rfl))) (mvT hZ (hw _ (List.mem_of_getElem? (i := 18) rfl))) (by decide) (backOf (W := 0) (rm12 l Z a0 hw [] w_GREATER_OR_EQUAL x1 h0 n0 Z0 ((own_ar0 x1 x2 hc118)) ((own_ar1 x1 x2 hc118)) F_whenEqual_w_GREATER_OR_EQUAL E_w_GREATER_OR_EQUAL) hZ (hw _ (List.mem_of_getElem? (i := 20) rfl)) (hw _ (List.mem_of_getElem? (i := 6) rfl)) (by decide) (by decide)) q121a q121c (g := (mkF m 48 #[.val (.int x0), .val (.long x1), .second, .val (.long x2), .second, .val (.ref w_LESS), .val (.ref w_GREATER_OR_EQUAL), .val (.int (1 : Int32)), .unset, .unset] [(.long x1), (.long x1), (.ref w_GREATER_OR_EQUAL)])) rfl (by rw [hml]; rfl) (Steps.refl _) (argsL := [(.long x1), (.long x1)]) (rest := []) (lenOf pd_4 rfl) rfl (by show 2 * 0 + _ ≤ _; exact Nat.le_of_eq rfl) (hb hby at_48) (fun _ _ => ⟨rfl, e120, (by decide : 0 + 0 ≤ _), (by decide : 0 + 0 ≤ _)⟩)
          dsimp only [Pt.U, Pt.locs, Pt.cells, Pt.slots] at X121 l121 y121 z121 st121 hQ121
          subst l121 y121 z121
          obtain ⟨rfl, N121q, e121⟩ := hQ121
          have N121 := Fr.app N120 N121q
          obtain ⟨cq122, kq122, q122a, q122b, q122c⟩ := isOf hZ e121 E_w_LESS
          obtain ⟨_, _, ⟨T122, L122, k122, n122⟩, -, X122, ⟨Lc122, hQ122, l122, y122, z122⟩, st122⟩ := X121.virtualBack hx (y := (⟨"com/example/latticut/latticut/lang/Comparison", "test", "(JJ)Z"⟩ : MethodName)) (z := (⟨"com/example/latticut/latticut/lang/Comparison", "test", "(JJ)Z"⟩ : MethodName)) hown (mvT hZ (hw _ (List.mem_of_getElem? (i := 16) rfl))) (mvT hZ (hw _ (List.mem_of_getElem? (i := 17) rfl))) (notFace_of_selects (args := #[]) (mvT hZ (hw _ (List.mem_of_getElem? (i := 19) rfl)))) (mvT hZ (hw _ (List.mem_of_getElem? (i := 19) rfl))) (mvT hZ (hw _ (List.mem_of_getElem? (i := 18) rfl))) (by decide) (backOf (W := 1) (rm10 l Z a0 hw [] w_LESS x1 h0 n0 Z0 ((own_ar0 x1 x2 hc118)) ((own_ar1 x1 x2 hc118)) F_whenEqual_w_LESS E_w_LESS) hZ (hw _ (List.mem_of_getElem? (i := 20) rfl)) (hw _ (List.mem_of_getElem? (i := 6) rfl)) (by decide) (by decide)) q122a q122c (g := (mkF m 55 #[.val (.int x0), .val (.long x1), .second, .val (.long x2), .second, .val (.ref w_LESS), .val (.ref w_GREATER_OR_EQUAL), .val (.int (1 : Int32)), .unset, .unset] [(.long x1), (.long x1), (.ref w_LESS), (.int (1 : Int32))])) rfl (by rw [hml]; rfl) (Steps.refl _) (argsL := [(.long x1), (.long x1)]) (rest := [(.int (1 : Int32))]) (lenOf pd_4 rfl) rfl (by show 2 * 0 + _ ≤ _; exact Nat.le_of_eq rfl) (hb hby at_55) (fun _ _ => ⟨rfl, e121, (by decide : 0 + 0 ≤ _), (by decide : 0 + 0 ≤ _)⟩)
          dsimp only [Pt.U, Pt.locs, Pt.cells, Pt.slots] at X122 l122 y122 z122 st122 hQ122
          subst l122 y122 z122
          obtain ⟨rfl, N122q, e122⟩ := hQ122
          have N122 := Fr.app N121 N122q
          obtain ⟨cq123, kq123, q123a, q123b, q123c⟩ := isOf hZ e122 E_w_GREATER_OR_EQUAL
          obtain ⟨_, _, ⟨T123, L123, k123, n123⟩, -, X123, ⟨Lc123, hQ123, l123, y123, z123⟩, st123⟩ := X122.virtualBack hx (y := (⟨"com/example/latticut/latticut/lang/Comparison", "test", "(JJ)Z"⟩ : MethodName)) (z := (⟨"com/example/latticut/latticut/lang/Comparison", "test", "(JJ)Z"⟩ : MethodName)) hown (mvT hZ (hw _ (List.mem_of_getElem? (i := 16) rfl))) (mvT hZ (hw _ (List.mem_of_getElem? (i := 17) rfl))) (notFace_of_selects (args := #[]) (mvT hZ (hw _ (List.mem_of_getElem? (i := 19) rfl)))) (mvT hZ (hw _ (List.mem_of_getElem? (i := 19) rfl))) (mvT hZ (hw _ (List.mem_of_getElem? (i := 18) rfl))) (by decide) (backOf (W := 0) (rm15 l Z a0 hw [] w_GREATER_OR_EQUAL x2 x1 h0 n0 Z0 ((own_ar2 x1 x2 hc118)) ((own_ar3 x1 x2 hc118)) F_whenGreater_w_GREATER_OR_EQUAL E_w_GREATER_OR_EQUAL) hZ (hw _ (List.mem_of_getElem? (i := 20) rfl)) (hw _ (List.mem_of_getElem? (i := 6) rfl)) (by decide) (by decide)) q123a q123c (g := (mkF m 72 #[.val (.int x0), .val (.long x1), .second, .val (.long x2), .second, .val (.ref w_LESS), .val (.ref w_GREATER_OR_EQUAL), .val (.int (1 : Int32)), .val (.int (1 : Int32)), .unset] [(.long x1), (.long x2), (.ref w_GREATER_OR_EQUAL)])) rfl (by rw [hml]; rfl) (Steps.refl _) (argsL := [(.long x2), (.long x1)]) (rest := []) (lenOf pd_4 rfl) rfl (by show 2 * 0 + _ ≤ _; exact Nat.le_of_eq rfl) (hb hby at_72) (fun _ _ => ⟨rfl, e122, (by decide : 0 + 0 ≤ _), (by decide : 0 + 0 ≤ _)⟩)
          dsimp only [Pt.U, Pt.locs, Pt.cells, Pt.slots] at X123 l123 y123 z123 st123 hQ123
          subst l123 y123 z123
          obtain ⟨rfl, N123q, e123⟩ := hQ123
          have N123 := Fr.app N122 N123q
          obtain ⟨cq124, kq124, q124a, q124b, q124c⟩ := isOf hZ e123 E_w_LESS
          obtain ⟨_, _, ⟨T124, L124, k124, n124⟩, -, X124, ⟨Lc124, hQ124, l124, y124, z124⟩, st124⟩ := X123.virtualBack hx (y := (⟨"com/example/latticut/latticut/lang/Comparison", "test", "(JJ)Z"⟩ : MethodName)) (z := (⟨"com/example/latticut/latticut/lang/Comparison", "test", "(JJ)Z"⟩ : MethodName)) hown (mvT hZ (hw _ (List.mem_of_getElem? (i := 16) rfl))) (mvT hZ (hw _ (List.mem_of_getElem? (i := 17) rfl))) (notFace_of_selects (args := #[]) (mvT hZ (hw _ (List.mem_of_getElem? (i := 19) rfl)))) (mvT hZ (hw _ (List.mem_of_getElem? (i := 19) rfl))) (mvT hZ (hw _ (List.mem_of_getElem? (i := 18) rfl))) (by decide) (backOf (W := 1) (rm17 l Z a0 hw [] w_LESS x2 x1 h0 n0 Z0 ((own_ar2 x1 x2 hc118)) ((own_ar3 x1 x2 hc118)) F_whenGreater_w_LESS E_w_LESS) hZ (hw _ (List.mem_of_getElem? (i := 20) rfl)) (hw _ (List.mem_of_getElem? (i := 6) rfl)) (by decide) (by decide)) q124a q124c (g := (mkF m 79 #[.val (.int x0), .val (.long x1), .second, .val (.long x2), .second, .val (.ref w_LESS), .val (.ref w_GREATER_OR_EQUAL), .val (.int (1 : Int32)), .val (.int (1 : Int32)), .unset] [(.long x1), (.long x2), (.ref w_LESS), (.int (1 : Int32))])) rfl (by rw [hml]; rfl) (Steps.refl _) (argsL := [(.long x2), (.long x1)]) (rest := [(.int (1 : Int32))]) (lenOf pd_4 rfl) rfl (by show 2 * 0 + _ ≤ _; exact Nat.le_of_eq rfl) (hb hby at_79) (fun _ _ => ⟨rfl, e123, (by decide : 0 + 0 ≤ _), (by decide : 0 + 0 ≤ _)⟩)
          dsimp only [Pt.U, Pt.locs, Pt.cells, Pt.slots] at X124 l124 y124 z124 st124 hQ124
          subst l124 y124 z124
          obtain ⟨rfl, N124q, e124⟩ := hQ124
          have N124 := Fr.app N123 N124q
          have pre125 : ∀ t, Steps p.tables e below (T124.setTop (mkF m 112 #[.val (.int x0), .val (.long x1), .second, .val (.long x2), .second, .val (.ref w_LESS), .val (.ref w_GREATER_OR_EQUAL), .val (.int (1 : Int32)), .val (.int (1 : Int32)), .val (.int (1 : Int32))] [(.int (1 : Int32))])) t → Steps p.tables e below (s₁.setTop (entryFrame m #[(.int x0), (.long x1), (.long x2)] maxLocals)) t := fun t kk => pre117 t (by
            show Steps p.tables e below (T116.setTop (mkF m 24 #[.val (.int x0), .val (.long x1), .second, .val (.long x2), .second, .val (.ref w_LESS), .val (.ref w_GREATER_OR_EQUAL), .unset, .unset, .unset] [(.long x2), (.long x1), (.ref w_GREATER_OR_EQUAL)])) _
            refine st119.trans ?_
            show Steps p.tables e below (T119.setTop (mkF m 27 #[.val (.int x0), .val (.long x1), .second, .val (.long x2), .second, .val (.ref w_LESS), .val (.ref w_GREATER_OR_EQUAL), .unset, .unset, .unset] [(.int (0 : Int32))])) _
            refine XS.aload X119.here hx rfl (hb hby at_27) rfl rfl ?_
            show Steps p.tables e below (T119.setTop (mkF m 29 #[.val (.int x0), .val (.long x1), .second, .val (.long x2), .second, .val (.ref w_LESS), .val (.ref w_GREATER_OR_EQUAL), .unset, .unset, .unset] [(.ref w_LESS), (.int (0 : Int32))])) _
            refine XS.lloadN X119.here hx rfl (hb hby at_29) rfl ?_
            show Steps p.tables e below (T119.setTop (mkF m 30 #[.val (.int x0), .val (.long x1), .second, .val (.long x2), .second, .val (.ref w_LESS), .val (.ref w_GREATER_OR_EQUAL), .unset, .unset, .unset] [(.long x1), (.ref w_LESS), (.int (0 : Int32))])) _
            refine XS.lloadN X119.here hx rfl (hb hby at_30) rfl ?_
            show Steps p.tables e below (T119.setTop (mkF m 31 #[.val (.int x0), .val (.long x1), .second, .val (.long x2), .second, .val (.ref w_LESS), .val (.ref w_GREATER_OR_EQUAL), .unset, .unset, .unset] [(.long x2), (.long x1), (.ref w_LESS), (.int (0 : Int32))])) _
            refine st120.trans ?_
            show Steps p.tables e below (T120.setTop (mkF m 34 #[.val (.int x0), .val (.long x1), .second, .val (.long x2), .second, .val (.ref w_LESS), .val (.ref w_GREATER_OR_EQUAL), .unset, .unset, .unset] [(.int (1 : Int32)), (.int (0 : Int32))])) _
            refine XS.icmpNo X120.here hx rfl (hb hby at_34) rfl (feq ((by decide) : ¬ ((0 : Int32) = (1 : Int32)))).1 ?_
            show Steps p.tables e below (T120.setTop (mkF m 37 #[.val (.int x0), .val (.long x1), .second, .val (.long x2), .second, .val (.ref w_LESS), .val (.ref w_GREATER_OR_EQUAL), .unset, .unset, .unset] [])) _
            refine XS.iconst X120.here hx rfl (hb hby at_37) ?_
            show Steps p.tables e below (T120.setTop (mkF m 38 #[.val (.int x0), .val (.long x1), .second, .val (.long x2), .second, .val (.ref w_LESS), .val (.ref w_GREATER_OR_EQUAL), .unset, .unset, .unset] [(.int (1 : Int32))])) _
            refine XS.goto X120.here hx rfl (pc0 := 38) (pc' := 42) rfl (hb hby at_38) (by decide) (by decide) ?_
            show Steps p.tables e below (T120.setTop (mkF m 42 #[.val (.int x0), .val (.long x1), .second, .val (.long x2), .second, .val (.ref w_LESS), .val (.ref w_GREATER_OR_EQUAL), .unset, .unset, .unset] [(.int (1 : Int32))])) _
            refine XS.istore X120.here hx rfl (hb hby at_42) rfl (l' := #[.val (.int x0), .val (.long x1), .second, .val (.long x2), .second, .val (.ref w_LESS), .val (.ref w_GREATER_OR_EQUAL), .val (.int (1 : Int32)), .unset, .unset]) rfl ?_
            show Steps p.tables e below (T120.setTop (mkF m 44 #[.val (.int x0), .val (.long x1), .second, .val (.long x2), .second, .val (.ref w_LESS), .val (.ref w_GREATER_OR_EQUAL), .val (.int (1 : Int32)), .unset, .unset] [])) _
            refine XS.aload X120.here hx rfl (hb hby at_44) rfl rfl ?_
            show Steps p.tables e below (T120.setTop (mkF m 46 #[.val (.int x0), .val (.long x1), .second, .val (.long x2), .second, .val (.ref w_LESS), .val (.ref w_GREATER_OR_EQUAL), .val (.int (1 : Int32)), .unset, .unset] [(.ref w_GREATER_OR_EQUAL)])) _
            refine XS.lloadN X120.here hx rfl (hb hby at_46) rfl ?_
            show Steps p.tables e below (T120.setTop (mkF m 47 #[.val (.int x0), .val (.long x1), .second, .val (.long x2), .second, .val (.ref w_LESS), .val (.ref w_GREATER_OR_EQUAL), .val (.int (1 : Int32)), .unset, .unset] [(.long x1), (.ref w_GREATER_OR_EQUAL)])) _
            refine XS.lloadN X120.here hx rfl (hb hby at_47) rfl ?_
            show Steps p.tables e below (T120.setTop (mkF m 48 #[.val (.int x0), .val (.long x1), .second, .val (.long x2), .second, .val (.ref w_LESS), .val (.ref w_GREATER_OR_EQUAL), .val (.int (1 : Int32)), .unset, .unset] [(.long x1), (.long x1), (.ref w_GREATER_OR_EQUAL)])) _
            refine st121.trans ?_
            show Steps p.tables e below (T121.setTop (mkF m 51 #[.val (.int x0), .val (.long x1), .second, .val (.long x2), .second, .val (.ref w_LESS), .val (.ref w_GREATER_OR_EQUAL), .val (.int (1 : Int32)), .unset, .unset] [(.int (1 : Int32))])) _
            refine XS.aload X121.here hx rfl (hb hby at_51) rfl rfl ?_
            show Steps p.tables e below (T121.setTop (mkF m 53 #[.val (.int x0), .val (.long x1), .second, .val (.long x2), .second, .val (.ref w_LESS), .val (.ref w_GREATER_OR_EQUAL), .val (.int (1 : Int32)), .unset, .unset] [(.ref w_LESS), (.int (1 : Int32))])) _
            refine XS.lloadN X121.here hx rfl (hb hby at_53) rfl ?_
            show Steps p.tables e below (T121.setTop (mkF m 54 #[.val (.int x0), .val (.long x1), .second, .val (.long x2), .second, .val (.ref w_LESS), .val (.ref w_GREATER_OR_EQUAL), .val (.int (1 : Int32)), .unset, .unset] [(.long x1), (.ref w_LESS), (.int (1 : Int32))])) _
            refine XS.lloadN X121.here hx rfl (hb hby at_54) rfl ?_
            show Steps p.tables e below (T121.setTop (mkF m 55 #[.val (.int x0), .val (.long x1), .second, .val (.long x2), .second, .val (.ref w_LESS), .val (.ref w_GREATER_OR_EQUAL), .val (.int (1 : Int32)), .unset, .unset] [(.long x1), (.long x1), (.ref w_LESS), (.int (1 : Int32))])) _
            refine st122.trans ?_
            show Steps p.tables e below (T122.setTop (mkF m 58 #[.val (.int x0), .val (.long x1), .second, .val (.long x2), .second, .val (.ref w_LESS), .val (.ref w_GREATER_OR_EQUAL), .val (.int (1 : Int32)), .unset, .unset] [(.int (0 : Int32)), (.int (1 : Int32))])) _
            refine XS.icmpNo X122.here hx rfl (hb hby at_58) rfl (feq ((by decide) : ¬ ((1 : Int32) = (0 : Int32)))).1 ?_
            show Steps p.tables e below (T122.setTop (mkF m 61 #[.val (.int x0), .val (.long x1), .second, .val (.long x2), .second, .val (.ref w_LESS), .val (.ref w_GREATER_OR_EQUAL), .val (.int (1 : Int32)), .unset, .unset] [])) _
            refine XS.iconst X122.here hx rfl (hb hby at_61) ?_
            show Steps p.tables e below (T122.setTop (mkF m 62 #[.val (.int x0), .val (.long x1), .second, .val (.long x2), .second, .val (.ref w_LESS), .val (.ref w_GREATER_OR_EQUAL), .val (.int (1 : Int32)), .unset, .unset] [(.int (1 : Int32))])) _
            refine XS.goto X122.here hx rfl (pc0 := 62) (pc' := 66) rfl (hb hby at_62) (by decide) (by decide) ?_
            show Steps p.tables e below (T122.setTop (mkF m 66 #[.val (.int x0), .val (.long x1), .second, .val (.long x2), .second, .val (.ref w_LESS), .val (.ref w_GREATER_OR_EQUAL), .val (.int (1 : Int32)), .unset, .unset] [(.int (1 : Int32))])) _
            refine XS.istore X122.here hx rfl (hb hby at_66) rfl (l' := #[.val (.int x0), .val (.long x1), .second, .val (.long x2), .second, .val (.ref w_LESS), .val (.ref w_GREATER_OR_EQUAL), .val (.int (1 : Int32)), .val (.int (1 : Int32)), .unset]) rfl ?_
            show Steps p.tables e below (T122.setTop (mkF m 68 #[.val (.int x0), .val (.long x1), .second, .val (.long x2), .second, .val (.ref w_LESS), .val (.ref w_GREATER_OR_EQUAL), .val (.int (1 : Int32)), .val (.int (1 : Int32)), .unset] [])) _
            refine XS.aload X122.here hx rfl (hb hby at_68) rfl rfl ?_
            show Steps p.tables e below (T122.setTop (mkF m 70 #[.val (.int x0), .val (.long x1), .second, .val (.long x2), .second, .val (.ref w_LESS), .val (.ref w_GREATER_OR_EQUAL), .val (.int (1 : Int32)), .val (.int (1 : Int32)), .unset] [(.ref w_GREATER_OR_EQUAL)])) _
            refine XS.lloadN X122.here hx rfl (hb hby at_70) rfl ?_
            show Steps p.tables e below (T122.setTop (mkF m 71 #[.val (.int x0), .val (.long x1), .second, .val (.long x2), .second, .val (.ref w_LESS), .val (.ref w_GREATER_OR_EQUAL), .val (.int (1 : Int32)), .val (.int (1 : Int32)), .unset] [(.long x2), (.ref w_GREATER_OR_EQUAL)])) _
            refine XS.lloadN X122.here hx rfl (hb hby at_71) rfl ?_
            show Steps p.tables e below (T122.setTop (mkF m 72 #[.val (.int x0), .val (.long x1), .second, .val (.long x2), .second, .val (.ref w_LESS), .val (.ref w_GREATER_OR_EQUAL), .val (.int (1 : Int32)), .val (.int (1 : Int32)), .unset] [(.long x1), (.long x2), (.ref w_GREATER_OR_EQUAL)])) _
            refine st123.trans ?_
            show Steps p.tables e below (T123.setTop (mkF m 75 #[.val (.int x0), .val (.long x1), .second, .val (.long x2), .second, .val (.ref w_LESS), .val (.ref w_GREATER_OR_EQUAL), .val (.int (1 : Int32)), .val (.int (1 : Int32)), .unset] [(.int (1 : Int32))])) _
            refine XS.aload X123.here hx rfl (hb hby at_75) rfl rfl ?_
            show Steps p.tables e below (T123.setTop (mkF m 77 #[.val (.int x0), .val (.long x1), .second, .val (.long x2), .second, .val (.ref w_LESS), .val (.ref w_GREATER_OR_EQUAL), .val (.int (1 : Int32)), .val (.int (1 : Int32)), .unset] [(.ref w_LESS), (.int (1 : Int32))])) _
            refine XS.lloadN X123.here hx rfl (hb hby at_77) rfl ?_
            show Steps p.tables e below (T123.setTop (mkF m 78 #[.val (.int x0), .val (.long x1), .second, .val (.long x2), .second, .val (.ref w_LESS), .val (.ref w_GREATER_OR_EQUAL), .val (.int (1 : Int32)), .val (.int (1 : Int32)), .unset] [(.long x2), (.ref w_LESS), (.int (1 : Int32))])) _
            refine XS.lloadN X123.here hx rfl (hb hby at_78) rfl ?_
            show Steps p.tables e below (T123.setTop (mkF m 79 #[.val (.int x0), .val (.long x1), .second, .val (.long x2), .second, .val (.ref w_LESS), .val (.ref w_GREATER_OR_EQUAL), .val (.int (1 : Int32)), .val (.int (1 : Int32)), .unset] [(.long x1), (.long x2), (.ref w_LESS), (.int (1 : Int32))])) _
            refine st124.trans ?_
            show Steps p.tables e below (T124.setTop (mkF m 82 #[.val (.int x0), .val (.long x1), .second, .val (.long x2), .second, .val (.ref w_LESS), .val (.ref w_GREATER_OR_EQUAL), .val (.int (1 : Int32)), .val (.int (1 : Int32)), .unset] [(.int (0 : Int32)), (.int (1 : Int32))])) _
            refine XS.icmpNo X124.here hx rfl (hb hby at_82) rfl (feq ((by decide) : ¬ ((1 : Int32) = (0 : Int32)))).1 ?_
            show Steps p.tables e below (T124.setTop (mkF m 85 #[.val (.int x0), .val (.long x1), .second, .val (.long x2), .second, .val (.ref w_LESS), .val (.ref w_GREATER_OR_EQUAL), .val (.int (1 : Int32)), .val (.int (1 : Int32)), .unset] [])) _
            refine XS.iconst X124.here hx rfl (hb hby at_85) ?_
            show Steps p.tables e below (T124.setTop (mkF m 86 #[.val (.int x0), .val (.long x1), .second, .val (.long x2), .second, .val (.ref w_LESS), .val (.ref w_GREATER_OR_EQUAL), .val (.int (1 : Int32)), .val (.int (1 : Int32)), .unset] [(.int (1 : Int32))])) _
            refine XS.goto X124.here hx rfl (pc0 := 86) (pc' := 90) rfl (hb hby at_86) (by decide) (by decide) ?_
            show Steps p.tables e below (T124.setTop (mkF m 90 #[.val (.int x0), .val (.long x1), .second, .val (.long x2), .second, .val (.ref w_LESS), .val (.ref w_GREATER_OR_EQUAL), .val (.int (1 : Int32)), .val (.int (1 : Int32)), .unset] [(.int (1 : Int32))])) _
            refine XS.istore X124.here hx rfl (hb hby at_90) rfl (l' := #[.val (.int x0), .val (.long x1), .second, .val (.long x2), .second, .val (.ref w_LESS), .val (.ref w_GREATER_OR_EQUAL), .val (.int (1 : Int32)), .val (.int (1 : Int32)), .val (.int (1 : Int32))]) rfl ?_
            show Steps p.tables e below (T124.setTop (mkF m 92 #[.val (.int x0), .val (.long x1), .second, .val (.long x2), .second, .val (.ref w_LESS), .val (.ref w_GREATER_OR_EQUAL), .val (.int (1 : Int32)), .val (.int (1 : Int32)), .val (.int (1 : Int32))] [])) _
            refine XS.iload X124.here hx rfl (hb hby at_92) rfl ?_
            show Steps p.tables e below (T124.setTop (mkF m 94 #[.val (.int x0), .val (.long x1), .second, .val (.long x2), .second, .val (.ref w_LESS), .val (.ref w_GREATER_OR_EQUAL), .val (.int (1 : Int32)), .val (.int (1 : Int32)), .val (.int (1 : Int32))] [(.int (1 : Int32))])) _
            refine XS.ifNo X124.here hx rfl (hb hby at_94) rfl ((if0 _ _).trans (feq ((by decide) : ¬ ((1 : Int32) = (0 : Int32)))).1) ?_
            show Steps p.tables e below (T124.setTop (mkF m 97 #[.val (.int x0), .val (.long x1), .second, .val (.long x2), .second, .val (.ref w_LESS), .val (.ref w_GREATER_OR_EQUAL), .val (.int (1 : Int32)), .val (.int (1 : Int32)), .val (.int (1 : Int32))] [])) _
            refine XS.iload X124.here hx rfl (hb hby at_97) rfl ?_
            show Steps p.tables e below (T124.setTop (mkF m 99 #[.val (.int x0), .val (.long x1), .second, .val (.long x2), .second, .val (.ref w_LESS), .val (.ref w_GREATER_OR_EQUAL), .val (.int (1 : Int32)), .val (.int (1 : Int32)), .val (.int (1 : Int32))] [(.int (1 : Int32))])) _
            refine XS.ifNo X124.here hx rfl (hb hby at_99) rfl ((if0 _ _).trans (feq ((by decide) : ¬ ((1 : Int32) = (0 : Int32)))).1) ?_
            show Steps p.tables e below (T124.setTop (mkF m 102 #[.val (.int x0), .val (.long x1), .second, .val (.long x2), .second, .val (.ref w_LESS), .val (.ref w_GREATER_OR_EQUAL), .val (.int (1 : Int32)), .val (.int (1 : Int32)), .val (.int (1 : Int32))] [])) _
            refine XS.iload X124.here hx rfl (hb hby at_102) rfl ?_
            show Steps p.tables e below (T124.setTop (mkF m 104 #[.val (.int x0), .val (.long x1), .second, .val (.long x2), .second, .val (.ref w_LESS), .val (.ref w_GREATER_OR_EQUAL), .val (.int (1 : Int32)), .val (.int (1 : Int32)), .val (.int (1 : Int32))] [(.int (1 : Int32))])) _
            refine XS.ifNo X124.here hx rfl (hb hby at_104) rfl ((if0 _ _).trans (feq ((by decide) : ¬ ((1 : Int32) = (0 : Int32)))).1) ?_
            show Steps p.tables e below (T124.setTop (mkF m 107 #[.val (.int x0), .val (.long x1), .second, .val (.long x2), .second, .val (.ref w_LESS), .val (.ref w_GREATER_OR_EQUAL), .val (.int (1 : Int32)), .val (.int (1 : Int32)), .val (.int (1 : Int32))] [])) _
            refine XS.iconst X124.here hx rfl (hb hby at_107) ?_
            show Steps p.tables e below (T124.setTop (mkF m 108 #[.val (.int x0), .val (.long x1), .second, .val (.long x2), .second, .val (.ref w_LESS), .val (.ref w_GREATER_OR_EQUAL), .val (.int (1 : Int32)), .val (.int (1 : Int32)), .val (.int (1 : Int32))] [(.int (1 : Int32))])) _
            refine XS.goto X124.here hx rfl (pc0 := 108) (pc' := 112) rfl (hb hby at_108) (by decide) (by decide) ?_
            exact kk)
          obtain ⟨fs, hr, hrun, hended, hW, hsame⟩ := X124.leave (v := some (.int (1 : Int32))) (fun h => by rw [Bd.returns] at h; cases h)
          refine ⟨_, _, pre125 _ ?_, hrun, hended, _, _, rfl, ?_, ⟨_, rfl⟩, hW, hsame.mono (by decide) (by decide)⟩
          · exact retN X124 hx (t := .boolean) Bd.returns (by simp) (hb hby at_112) hr
          · exact ⟨rfl, N124⟩
        ·
          by_cases hc126 : (lcmpW x1 x2) = (0 : Int32)
          ·
            obtain ⟨cq127, kq127, q127a, q127b, q127c⟩ := isOf hZ e116 E_w_GREATER_OR_EQUAL
            obtain ⟨_, _, ⟨T127, L127, k127, n127⟩, -, X127, ⟨Lc127, hQ127, l127, y127, z127⟩, st127⟩ := X116.virtualBack hx (y := (⟨"com/example/latticut/latticut/lang/Comparison", "test", "(JJ)Z"⟩ : MethodName)) (z := (⟨"com/example/latticut/latticut/lang/Comparison", "test", "(JJ)Z"⟩ : MethodName)) hown (mvT hZ (hw _ (List.mem_of_getElem? (i := 16) rfl))) (mvT hZ (hw _ (List.mem_of_getElem? (i := 17) rfl))) (notFace_of_selects (args := #[]) (mvT hZ (hw _ (List.mem_of_getElem? (i := 19) rfl)))) (mvT hZ (hw _ (List.mem_of_getElem? (i := 19) rfl))) (mvT hZ (hw _ (List.mem_of_getElem? (i := 18) rfl))) (by decide) (backOf (W := 0) (rm20 l Z a0 hw [] w_GREATER_OR_EQUAL x1 x2 h0 n0 Z0 hc118 hc126 F_whenEqual_w_GREATER_OR_EQUAL E_w_GREATER_OR_EQUAL) hZ (hw _ (List.mem_of_getElem? (i := 20) rfl)) (hw _ (List.mem_of_getElem? (i := 6) rfl)) (by decide) (by decide)) q127a q127c (g := (mkF m 24 #[.val (.int x0), .val (.long x1), .second, .val (.long x2), .second, .val (.ref w_LESS), .val (.ref w_GREATER_OR_EQUAL), .unset, .unset, .unset] [(.long x2), (.long x1), (.ref w_GREATER_OR_EQUAL)])) rfl (by rw [hml]; rfl) (Steps.refl _) (argsL := [(.long x1), (.long x2)]) (rest := []) (lenOf pd_4 rfl) rfl (by show 2 * 0 + _ ≤ _; exact Nat.le_of_eq rfl) (hb hby at_24) (fun _ _ => ⟨rfl, e116, (by decide : 0 + 0 ≤ _), (by decide : 0 + 0 ≤ _)⟩)
            dsimp only [Pt.U, Pt.locs, Pt.cells, Pt.slots] at X127 l127 y127 z127 st127 hQ127
            subst l127 y127 z127
            obtain ⟨rfl, N127q, e127⟩ := hQ127
            have N127 := Fr.app N116 N127q
            obtain ⟨cq128, kq128, q128a, q128b, q128c⟩ := isOf hZ e127 E_w_LESS
            obtain ⟨_, _, ⟨T128, L128, k128, n128⟩, -, X128, ⟨Lc128, hQ128, l128, y128, z128⟩, st128⟩ := X127.virtualBack hx (y := (⟨"com/example/latticut/latticut/lang/Comparison", "test", "(JJ)Z"⟩ : MethodName)) (z := (⟨"com/example/latticut/latticut/lang/Comparison", "test", "(JJ)Z"⟩ : MethodName)) hown (mvT hZ (hw _ (List.mem_of_getElem? (i := 16) rfl))) (mvT hZ (hw _ (List.mem_of_getElem? (i := 17) rfl))) (notFace_of_selects (args := #[]) (mvT hZ (hw _ (List.mem_of_getElem? (i := 19) rfl)))) (mvT hZ (hw _ (List.mem_of_getElem? (i := 19) rfl))) (mvT hZ (hw _ (List.mem_of_getElem? (i := 18) rfl))) (by decide) (backOf (W := 1) (rm19 l Z a0 hw [] w_LESS x1 x2 h0 n0 Z0 hc118 hc126 F_whenEqual_w_LESS E_w_LESS) hZ (hw _ (List.mem_of_getElem? (i := 20) rfl)) (hw _ (List.mem_of_getElem? (i := 6) rfl)) (by decide) (by decide)) q128a q128c (g := (mkF m 31 #[.val (.int x0), .val (.long x1), .second, .val (.long x2), .second, .val (.ref w_LESS), .val (.ref w_GREATER_OR_EQUAL), .unset, .unset, .unset] [(.long x2), (.long x1), (.ref w_LESS), (.int (1 : Int32))])) rfl (by rw [hml]; rfl) (Steps.refl _) (argsL := [(.long x1), (.long x2)]) (rest := [(.int (1 : Int32))]) (lenOf pd_4 rfl) rfl (by show 2 * 0 + _ ≤ _; exact Nat.le_of_eq rfl) (hb hby at_31) (fun _ _ => ⟨rfl, e127, (by decide : 0 + 0 ≤ _), (by decide : 0 + 0 ≤ _)⟩)
            dsimp only [Pt.U, Pt.locs, Pt.cells, Pt.slots] at X128 l128 y128 z128 st128 hQ128
            subst l128 y128 z128
            obtain ⟨rfl, N128q, e128⟩ := hQ128
            have N128 := Fr.app N127 N128q
            obtain ⟨cq129, kq129, q129a, q129b, q129c⟩ := isOf hZ e128 E_w_GREATER_OR_EQUAL
            obtain ⟨_, _, ⟨T129, L129, k129, n129⟩, -, X129, ⟨Lc129, hQ129, l129, y129, z129⟩, st129⟩ := X128.virtualBack hx (y := (⟨"com/example/latticut/latticut/lang/Comparison", "test", "(JJ)Z"⟩ : MethodName)) (z := (⟨"com/example/latticut/latticut/lang/Comparison", "test", "(JJ)Z"⟩ : MethodName)) hown (mvT hZ (hw _ (List.mem_of_getElem? (i := 16) rfl))) (mvT hZ (hw _ (List.mem_of_getElem? (i := 17) rfl))) (notFace_of_selects (args := #[]) (mvT hZ (hw _ (List.mem_of_getElem? (i := 19) rfl)))) (mvT hZ (hw _ (List.mem_of_getElem? (i := 19) rfl))) (mvT hZ (hw _ (List.mem_of_getElem? (i := 18) rfl))) (by decide) (backOf (W := 0) (rm12 l Z a0 hw [] w_GREATER_OR_EQUAL x1 h0 n0 Z0 ((own_ar4 x1 x2 hc118 hc126)) ((own_ar5 x1 x2 hc118 hc126)) F_whenEqual_w_GREATER_OR_EQUAL E_w_GREATER_OR_EQUAL) hZ (hw _ (List.mem_of_getElem? (i := 20) rfl)) (hw _ (List.mem_of_getElem? (i := 6) rfl)) (by decide) (by decide)) q129a q129c (g := (mkF m 48 #[.val (.int x0), .val (.long x1), .second, .val (.long x2), .second, .val (.ref w_LESS), .val (.ref w_GREATER_OR_EQUAL), .val (.int (1 : Int32)), .unset, .unset] [(.long x1), (.long x1), (.ref w_GREATER_OR_EQUAL)])) rfl (by rw [hml]; rfl) (Steps.refl _) (argsL := [(.long x1), (.long x1)]) (rest := []) (lenOf pd_4 rfl) rfl (by show 2 * 0 + _ ≤ _; exact Nat.le_of_eq rfl) (hb hby at_48) (fun _ _ => ⟨rfl, e128, (by decide : 0 + 0 ≤ _), (by decide : 0 + 0 ≤ _)⟩)
            dsimp only [Pt.U, Pt.locs, Pt.cells, Pt.slots] at X129 l129 y129 z129 st129 hQ129
            subst l129 y129 z129
            obtain ⟨rfl, N129q, e129⟩ := hQ129
            have N129 := Fr.app N128 N129q
            obtain ⟨cq130, kq130, q130a, q130b, q130c⟩ := isOf hZ e129 E_w_LESS
            obtain ⟨_, _, ⟨T130, L130, k130, n130⟩, -, X130, ⟨Lc130, hQ130, l130, y130, z130⟩, st130⟩ := X129.virtualBack hx (y := (⟨"com/example/latticut/latticut/lang/Comparison", "test", "(JJ)Z"⟩ : MethodName)) (z := (⟨"com/example/latticut/latticut/lang/Comparison", "test", "(JJ)Z"⟩ : MethodName)) hown (mvT hZ (hw _ (List.mem_of_getElem? (i := 16) rfl))) (mvT hZ (hw _ (List.mem_of_getElem? (i := 17) rfl))) (notFace_of_selects (args := #[]) (mvT hZ (hw _ (List.mem_of_getElem? (i := 19) rfl)))) (mvT hZ (hw _ (List.mem_of_getElem? (i := 19) rfl))) (mvT hZ (hw _ (List.mem_of_getElem? (i := 18) rfl))) (by decide) (backOf (W := 1) (rm10 l Z a0 hw [] w_LESS x1 h0 n0 Z0 ((own_ar4 x1 x2 hc118 hc126)) ((own_ar5 x1 x2 hc118 hc126)) F_whenEqual_w_LESS E_w_LESS) hZ (hw _ (List.mem_of_getElem? (i := 20) rfl)) (hw _ (List.mem_of_getElem? (i := 6) rfl)) (by decide) (by decide)) q130a q130c (g := (mkF m 55 #[.val (.int x0), .val (.long x1), .second, .val (.long x2), .second, .val (.ref w_LESS), .val (.ref w_GREATER_OR_EQUAL), .val (.int (1 : Int32)), .unset, .unset] [(.long x1), (.long x1), (.ref w_LESS), (.int (1 : Int32))])) rfl (by rw [hml]; rfl) (Steps.refl _) (argsL := [(.long x1), (.long x1)]) (rest := [(.int (1 : Int32))]) (lenOf pd_4 rfl) rfl (by show 2 * 0 + _ ≤ _; exact Nat.le_of_eq rfl) (hb hby at_55) (fun _ _ => ⟨rfl, e129, (by decide : 0 + 0 ≤ _), (by decide : 0 + 0 ≤ _)⟩)
            dsimp only [Pt.U, Pt.locs, Pt.cells, Pt.slots] at X130 l130 y130 z130 st130 hQ130
            subst l130 y130 z130
            obtain ⟨rfl, N130q, e130⟩ := hQ130
            have N130 := Fr.app N129 N130q
            obtain ⟨cq131, kq131, q131a, q131b, q131c⟩ := isOf hZ e130 E_w_GREATER_OR_EQUAL
            obtain ⟨_, _, ⟨T131, L131, k131, n131⟩, -, X131, ⟨Lc131, hQ131, l131, y131, z131⟩, st131⟩ := X130.virtualBack hx (y := (⟨"com/example/latticut/latticut/lang/Comparison", "test", "(JJ)Z"⟩ : MethodName)) (z := (⟨"com/example/latticut/latticut/lang/Comparison", "test", "(JJ)Z"⟩ : MethodName)) hown (mvT hZ (hw _ (List.mem_of_getElem? (i := 16) rfl))) (mvT hZ (hw _ (List.mem_of_getElem? (i := 17) rfl))) (notFace_of_selects (args := #[]) (mvT hZ (hw _ (List.mem_of_getElem? (i := 19) rfl)))) (mvT hZ (hw _ (List.mem_of_getElem? (i := 19) rfl))) (mvT hZ (hw _ (List.mem_of_getElem? (i := 18) rfl))) (by decide) (backOf (W := 0) (rm20 l Z a0 hw [] w_GREATER_OR_EQUAL x2 x1 h0 n0 Z0 ((own_ar6 x1 x2 hc118 hc126)) ((own_ar7 x1 x2 hc118 hc126)) F_whenEqual_w_GREATER_OR_EQUAL E_w_GREATER_OR_EQUAL) hZ (hw _ (List.mem_of_getElem? (i := 20) rfl)) (hw _ (List.mem_of_getElem? (i := 6) rfl)) (by decide) (by decide)) q131a q131c (g := (mkF m 72 #[.val (.int x0), .val (.long x1), .second, .val (.long x2), .second, .val (.ref w_LESS), .val (.ref w_GREATER_OR_EQUAL), .val (.int (1 : Int32)), .val (.int (1 : Int32)), .unset] [(.long x1), (.long x2), (.ref w_GREATER_OR_EQUAL)])) rfl (by rw [hml]; rfl) (Steps.refl _) (argsL := [(.long x2), (.long x1)]) (rest := []) (lenOf pd_4 rfl) rfl (by show 2 * 0 + _ ≤ _; exact Nat.le_of_eq rfl) (hb hby at_72) (fun _ _ => ⟨rfl, e130, (by decide : 0 + 0 ≤ _), (by decide : 0 + 0 ≤ _)⟩)
            dsimp only [Pt.U, Pt.locs, Pt.cells, Pt.slots] at X131 l131 y131 z131 st131 hQ131
            subst l131 y131 z131
            obtain ⟨rfl, N131q, e131⟩ := hQ131
            have N131 := Fr.app N130 N131q
            obtain ⟨cq132, kq132, q132a, q132b, q132c⟩ := isOf hZ e131 E_w_LESS
            obtain ⟨_, _, ⟨T132, L132, k132, n132⟩, -, X132, ⟨Lc132, hQ132, l132, y132, z132⟩, st132⟩ := X131.virtualBack hx (y := (⟨"com/example/latticut/latticut/lang/Comparison", "test", "(JJ)Z"⟩ : MethodName)) (z := (⟨"com/example/latticut/latticut/lang/Comparison", "test", "(JJ)Z"⟩ : MethodName)) hown (mvT hZ (hw _ (List.mem_of_getElem? (i := 16) rfl))) (mvT hZ (hw _ (List.mem_of_getElem? (i := 17) rfl))) (notFace_of_selects (args := #[]) (mvT hZ (hw _ (List.mem_of_getElem? (i := 19) rfl)))) (mvT hZ (hw _ (List.mem_of_getElem? (i := 19) rfl))) (mvT hZ (hw _ (List.mem_of_getElem? (i := 18) rfl))) (by decide) (backOf (W := 1) (rm19 l Z a0 hw [] w_LESS x2 x1 h0 n0 Z0 ((own_ar6 x1 x2 hc118 hc126)) ((own_ar7 x1 x2 hc118 hc126)) F_whenEqual_w_LESS E_w_LESS) hZ (hw _ (List.mem_of_getElem? (i := 20) rfl)) (hw _ (List.mem_of_getElem? (i := 6) rfl)) (by decide) (by decide)) q132a q132c (g := (mkF m 79 #[.val (.int x0), .val (.long x1), .second, .val (.long x2), .second, .val (.ref w_LESS), .val (.ref w_GREATER_OR_EQUAL), .val (.int (1 : Int32)), .val (.int (1 : Int32)), .unset] [(.long x1), (.long x2), (.ref w_LESS), (.int (1 : Int32))])) rfl (by rw [hml]; rfl) (Steps.refl _) (argsL := [(.long x2), (.long x1)]) (rest := [(.int (1 : Int32))]) (lenOf pd_4 rfl) rfl (by show 2 * 0 + _ ≤ _; exact Nat.le_of_eq rfl) (hb hby at_79) (fun _ _ => ⟨rfl, e131, (by decide : 0 + 0 ≤ _), (by decide : 0 + 0 ≤ _)⟩)
            dsimp only [Pt.U, Pt.locs, Pt.cells, Pt.slots] at X132 l132 y132 z132 st132 hQ132
            subst l132 y132 z132
            obtain ⟨rfl, N132q, e132⟩ := hQ132
            have N132 := Fr.app N131 N132q
            have pre133 : ∀ t, Steps p.tables e below (T132.setTop (mkF m 112 #[.val (.int x0), .val (.long x1), .second, .val (.long x2), .second, .val (.ref w_LESS), .val (.ref w_GREATER_OR_EQUAL), .val (.int (1 : Int32)), .val (.int (1 : Int32)), .val (.int (1 : Int32))] [(.int (1 : Int32))])) t → Steps p.tables e below (s₁.setTop (entryFrame m #[(.int x0), (.long x1), (.long x2)] maxLocals)) t := fun t kk => pre117 t (by
              show Steps p.tables e below (T116.setTop (mkF m 24 #[.val (.int x0), .val (.long x1), .second, .val (.long x2), .second, .val (.ref w_LESS), .val (.ref w_GREATER_OR_EQUAL), .unset, .unset, .unset] [(.long x2), (.long x1), (.ref w_GREATER_OR_EQUAL)])) _
              refine st127.trans ?_
              show Steps p.tables e below (T127.setTop (mkF m 27 #[.val (.int x0), .val (.long x1), .second, .val (.long x2), .second, .val (.ref w_LESS), .val (.ref w_GREATER_OR_EQUAL), .unset, .unset, .unset] [(.int (1 : Int32))])) _
              refine XS.aload X127.here hx rfl (hb hby at_27) rfl rfl ?_
              show Steps p.tables e below (T127.setTop (mkF m 29 #[.val (.int x0), .val (.long x1), .second, .val (.long x2), .second, .val (.ref w_LESS), .val (.ref w_GREATER_OR_EQUAL), .unset, .unset, .unset] [(.ref w_LESS), (.int (1 : Int32))])) _
              refine XS.lloadN X127.here hx rfl (hb hby at_29) rfl ?_
              show Steps p.tables e below (T127.setTop (mkF m 30 #[.val (.int x0), .val (.long x1), .second, .val (.long x2), .second, .val (.ref w_LESS), .val (.ref w_GREATER_OR_EQUAL), .unset, .unset, .unset] [(.long x1), (.ref w_LESS), (.int (1 : Int32))])) _
              refine XS.lloadN X127.here hx rfl (hb hby at_30) rfl ?_
              show Steps p.tables e below (T127.setTop (mkF m 31 #[.val (.int x0), .val (.long x1), .second, .val (.long x2), .second, .val (.ref w_LESS), .val (.ref w_GREATER_OR_EQUAL), .unset, .unset, .unset] [(.long x2), (.long x1), (.ref w_LESS), (.int (1 : Int32))])) _
              refine st128.trans ?_
              show Steps p.tables e below (T128.setTop (mkF m 34 #[.val (.int x0), .val (.long x1), .second, .val (.long x2), .second, .val (.ref w_LESS), .val (.ref w_GREATER_OR_EQUAL), .unset, .unset, .unset] [(.int (0 : Int32)), (.int (1 : Int32))])) _
              refine XS.icmpNo X128.here hx rfl (hb hby at_34) rfl (feq ((by decide) : ¬ ((1 : Int32) = (0 : Int32)))).1 ?_
              show Steps p.tables e below (T128.setTop (mkF m 37 #[.val (.int x0), .val (.long x1), .second, .val (.long x2), .second, .val (.ref w_LESS), .val (.ref w_GREATER_OR_EQUAL), .unset, .unset, .unset] [])) _
              refine XS.iconst X128.here hx rfl (hb hby at_37) ?_
              show Steps p.tables e below (T128.setTop (mkF m 38 #[.val (.int x0), .val (.long x1), .second, .val (.long x2), .second, .val (.ref w_LESS), .val (.ref w_GREATER_OR_EQUAL), .unset, .unset, .unset] [(.int (1 : Int32))])) _
              refine XS.goto X128.here hx rfl (pc0 := 38) (pc' := 42) rfl (hb hby at_38) (by decide) (by decide) ?_
              show Steps p.tables e below (T128.setTop (mkF m 42 #[.val (.int x0), .val (.long x1), .second, .val (.long x2), .second, .val (.ref w_LESS), .val (.ref w_GREATER_OR_EQUAL), .unset, .unset, .unset] [(.int (1 : Int32))])) _
              refine XS.istore X128.here hx rfl (hb hby at_42) rfl (l' := #[.val (.int x0), .val (.long x1), .second, .val (.long x2), .second, .val (.ref w_LESS), .val (.ref w_GREATER_OR_EQUAL), .val (.int (1 : Int32)), .unset, .unset]) rfl ?_
              show Steps p.tables e below (T128.setTop (mkF m 44 #[.val (.int x0), .val (.long x1), .second, .val (.long x2), .second, .val (.ref w_LESS), .val (.ref w_GREATER_OR_EQUAL), .val (.int (1 : Int32)), .unset, .unset] [])) _
              refine XS.aload X128.here hx rfl (hb hby at_44) rfl rfl ?_
              show Steps p.tables e below (T128.setTop (mkF m 46 #[.val (.int x0), .val (.long x1), .second, .val (.long x2), .second, .val (.ref w_LESS), .val (.ref w_GREATER_OR_EQUAL), .val (.int (1 : Int32)), .unset, .unset] [(.ref w_GREATER_OR_EQUAL)])) _
              refine XS.lloadN X128.here hx rfl (hb hby at_46) rfl ?_
              show Steps p.tables e below (T128.setTop (mkF m 47 #[.val (.int x0), .val (.long x1), .second, .val (.long x2), .second, .val (.ref w_LESS), .val (.ref w_GREATER_OR_EQUAL), .val (.int (1 : Int32)), .unset, .unset] [(.long x1), (.ref w_GREATER_OR_EQUAL)])) _
              refine XS.lloadN X128.here hx rfl (hb hby at_47) rfl ?_
              show Steps p.tables e below (T128.setTop (mkF m 48 #[.val (.int x0), .val (.long x1), .second, .val (.long x2), .second, .val (.ref w_LESS), .val (.ref w_GREATER_OR_EQUAL), .val (.int (1 : Int32)), .unset, .unset] [(.long x1), (.long x1), (.ref w_GREATER_OR_EQUAL)])) _
              refine st129.trans ?_
              show Steps p.tables e below (T129.setTop (mkF m 51 #[.val (.int x0), .val (.long x1), .second, .val (.long x2), .second, .val (.ref w_LESS), .val (.ref w_GREATER_OR_EQUAL), .val (.int (1 : Int32)), .unset, .unset] [(.int (1 : Int32))])) _
              refine XS.aload X129.here hx rfl (hb hby at_51) rfl rfl ?_
              show Steps p.tables e below (T129.setTop (mkF m 53 #[.val (.int x0), .val (.long x1), .second, .val (.long x2), .second, .val (.ref w_LESS), .val (.ref w_GREATER_OR_EQUAL), .val (.int (1 : Int32)), .unset, .unset] [(.ref w_LESS), (.int (1 : Int32))])) _
              refine XS.lloadN X129.here hx rfl (hb hby at_53) rfl ?_
              show Steps p.tables e below (T129.setTop (mkF m 54 #[.val (.int x0), .val (.long x1), .second, .val (.long x2), .second, .val (.ref w_LESS), .val (.ref w_GREATER_OR_EQUAL), .val (.int (1 : Int32)), .unset, .unset] [(.long x1), (.ref w_LESS), (.int (1 : Int32))])) _
              refine XS.lloadN X129.here hx rfl (hb hby at_54) rfl ?_
              show Steps p.tables e below (T129.setTop (mkF m 55 #[.val (.int x0), .val (.long x1), .second, .val (.long x2), .second, .val (.ref w_LESS), .val (.ref w_GREATER_OR_EQUAL), .val (.int (1 : Int32)), .unset, .unset] [(.long x1), (.long x1), (.ref w_LESS), (.int (1 : Int32))])) _
              refine st130.trans ?_
              show Steps p.tables e below (T130.setTop (mkF m 58 #[.val (.int x0), .val (.long x1), .second, .val (.long x2), .second, .val (.ref w_LESS), .val (.ref w_GREATER_OR_EQUAL), .val (.int (1 : Int32)), .unset, .unset] [(.int (0 : Int32)), (.int (1 : Int32))])) _
              refine XS.icmpNo X130.here hx rfl (hb hby at_58) rfl (feq ((by decide) : ¬ ((1 : Int32) = (0 : Int32)))).1 ?_
              show Steps p.tables e below (T130.setTop (mkF m 61 #[.val (.int x0), .val (.long x1), .second, .val (.long x2), .second, .val (.ref w_LESS), .val (.ref w_GREATER_OR_EQUAL), .val (.int (1 : Int32)), .unset, .unset] [])) _
              refine XS.iconst X130.here hx rfl (hb hby at_61) ?_
              show Steps p.tables e below (T130.setTop (mkF m 62 #[.val (.int x0), .val (.long x1), .second, .val (.long x2), .second, .val (.ref w_LESS), .val (.ref w_GREATER_OR_EQUAL), .val (.int (1 : Int32)), .unset, .unset] [(.int (1 : Int32))])) _
              refine XS.goto X130.here hx rfl (pc0 := 62) (pc' := 66) rfl (hb hby at_62) (by decide) (by decide) ?_
              show Steps p.tables e below (T130.setTop (mkF m 66 #[.val (.int x0), .val (.long x1), .second, .val (.long x2), .second, .val (.ref w_LESS), .val (.ref w_GREATER_OR_EQUAL), .val (.int (1 : Int32)), .unset, .unset] [(.int (1 : Int32))])) _
              refine XS.istore X130.here hx rfl (hb hby at_66) rfl (l' := #[.val (.int x0), .val (.long x1), .second, .val (.long x2), .second, .val (.ref w_LESS), .val (.ref w_GREATER_OR_EQUAL), .val (.int (1 : Int32)), .val (.int (1 : Int32)), .unset]) rfl ?_
              show Steps p.tables e below (T130.setTop (mkF m 68 #[.val (.int x0), .val (.long x1), .second, .val (.long x2), .second, .val (.ref w_LESS), .val (.ref w_GREATER_OR_EQUAL), .val (.int (1 : Int32)), .val (.int (1 : Int32)), .unset] [])) _
              refine XS.aload X130.here hx rfl (hb hby at_68) rfl rfl ?_
              show Steps p.tables e below (T130.setTop (mkF m 70 #[.val (.int x0), .val (.long x1), .second, .val (.long x2), .second, .val (.ref w_LESS), .val (.ref w_GREATER_OR_EQUAL), .val (.int (1 : Int32)), .val (.int (1 : Int32)), .unset] [(.ref w_GREATER_OR_EQUAL)])) _
              refine XS.lloadN X130.here hx rfl (hb hby at_70) rfl ?_
              show Steps p.tables e below (T130.setTop (mkF m 71 #[.val (.int x0), .val (.long x1), .second, .val (.long x2), .second, .val (.ref w_LESS), .val (.ref w_GREATER_OR_EQUAL), .val (.int (1 : Int32)), .val (.int (1 : Int32)), .unset] [(.long x2), (.ref w_GREATER_OR_EQUAL)])) _
              refine XS.lloadN X130.here hx rfl (hb hby at_71) rfl ?_
              show Steps p.tables e below (T130.setTop (mkF m 72 #[.val (.int x0), .val (.long x1), .second, .val (.long x2), .second, .val (.ref w_LESS), .val (.ref w_GREATER_OR_EQUAL), .val (.int (1 : Int32)), .val (.int (1 : Int32)), .unset] [(.long x1), (.long x2), (.ref w_GREATER_OR_EQUAL)])) _
              refine st131.trans ?_
              show Steps p.tables e below (T131.setTop (mkF m 75 #[.val (.int x0), .val (.long x1), .second, .val (.long x2), .second, .val (.ref w_LESS), .val (.ref w_GREATER_OR_EQUAL), .val (.int (1 : Int32)), .val (.int (1 : Int32)), .unset] [(.int (1 : Int32))])) _
              refine XS.aload X131.here hx rfl (hb hby at_75) rfl rfl ?_
              show Steps p.tables e below (T131.setTop (mkF m 77 #[.val (.int x0), .val (.long x1), .second, .val (.long x2), .second, .val (.ref w_LESS), .val (.ref w_GREATER_OR_EQUAL), .val (.int (1 : Int32)), .val (.int (1 : Int32)), .unset] [(.ref w_LESS), (.int (1 : Int32))])) _
              refine XS.lloadN X131.here hx rfl (hb hby at_77) rfl ?_
              show Steps p.tables e below (T131.setTop (mkF m 78 #[.val (.int x0), .val (.long x1), .second, .val (.long x2), .second, .val (.ref w_LESS), .val (.ref w_GREATER_OR_EQUAL), .val (.int (1 : Int32)), .val (.int (1 : Int32)), .unset] [(.long x2), (.ref w_LESS), (.int (1 : Int32))])) _
              refine XS.lloadN X131.here hx rfl (hb hby at_78) rfl ?_
              show Steps p.tables e below (T131.setTop (mkF m 79 #[.val (.int x0), .val (.long x1), .second, .val (.long x2), .second, .val (.ref w_LESS), .val (.ref w_GREATER_OR_EQUAL), .val (.int (1 : Int32)), .val (.int (1 : Int32)), .unset] [(.long x1), (.long x2), (.ref w_LESS), (.int (1 : Int32))])) _
              refine st132.trans ?_
              show Steps p.tables e below (T132.setTop (mkF m 82 #[.val (.int x0), .val (.long x1), .second, .val (.long x2), .second, .val (.ref w_LESS), .val (.ref w_GREATER_OR_EQUAL), .val (.int (1 : Int32)), .val (.int (1 : Int32)), .unset] [(.int (0 : Int32)), (.int (1 : Int32))])) _
              refine XS.icmpNo X132.here hx rfl (hb hby at_82) rfl (feq ((by decide) : ¬ ((1 : Int32) = (0 : Int32)))).1 ?_
              show Steps p.tables e below (T132.setTop (mkF m 85 #[.val (.int x0), .val (.long x1), .second, .val (.long x2), .second, .val (.ref w_LESS), .val (.ref w_GREATER_OR_EQUAL), .val (.int (1 : Int32)), .val (.int (1 : Int32)), .unset] [])) _
              refine XS.iconst X132.here hx rfl (hb hby at_85) ?_
              show Steps p.tables e below (T132.setTop (mkF m 86 #[.val (.int x0), .val (.long x1), .second, .val (.long x2), .second, .val (.ref w_LESS), .val (.ref w_GREATER_OR_EQUAL), .val (.int (1 : Int32)), .val (.int (1 : Int32)), .unset] [(.int (1 : Int32))])) _
              refine XS.goto X132.here hx rfl (pc0 := 86) (pc' := 90) rfl (hb hby at_86) (by decide) (by decide) ?_
              show Steps p.tables e below (T132.setTop (mkF m 90 #[.val (.int x0), .val (.long x1), .second, .val (.long x2), .second, .val (.ref w_LESS), .val (.ref w_GREATER_OR_EQUAL), .val (.int (1 : Int32)), .val (.int (1 : Int32)), .unset] [(.int (1 : Int32))])) _
              refine XS.istore X132.here hx rfl (hb hby at_90) rfl (l' := #[.val (.int x0), .val (.long x1), .second, .val (.long x2), .second, .val (.ref w_LESS), .val (.ref w_GREATER_OR_EQUAL), .val (.int (1 : Int32)), .val (.int (1 : Int32)), .val (.int (1 : Int32))]) rfl ?_
              show Steps p.tables e below (T132.setTop (mkF m 92 #[.val (.int x0), .val (.long x1), .second, .val (.long x2), .second, .val (.ref w_LESS), .val (.ref w_GREATER_OR_EQUAL), .val (.int (1 : Int32)), .val (.int (1 : Int32)), .val (.int (1 : Int32))] [])) _
              refine XS.iload X132.here hx rfl (hb hby at_92) rfl ?_
              show Steps p.tables e below (T132.setTop (mkF m 94 #[.val (.int x0), .val (.long x1), .second, .val (.long x2), .second, .val (.ref w_LESS), .val (.ref w_GREATER_OR_EQUAL), .val (.int (1 : Int32)), .val (.int (1 : Int32)), .val (.int (1 : Int32))] [(.int (1 : Int32))])) _
              refine XS.ifNo X132.here hx rfl (hb hby at_94) rfl ((if0 _ _).trans (feq ((by decide) : ¬ ((1 : Int32) = (0 : Int32)))).1) ?_
              show Steps p.tables e below (T132.setTop (mkF m 97 #[.val (.int x0), .val (.long x1), .second, .val (.long x2), .second, .val (.ref w_LESS), .val (.ref w_GREATER_OR_EQUAL), .val (.int (1 : Int32)), .val (.int (1 : Int32)), .val (.int (1 : Int32))] [])) _
              refine XS.iload X132.here hx rfl (hb hby at_97) rfl ?_
              show Steps p.tables e below (T132.setTop (mkF m 99 #[.val (.int x0), .val (.long x1), .second, .val (.long x2), .second, .val (.ref w_LESS), .val (.ref w_GREATER_OR_EQUAL), .val (.int (1 : Int32)), .val (.int (1 : Int32)), .val (.int (1 : Int32))] [(.int (1 : Int32))])) _
              refine XS.ifNo X132.here hx rfl (hb hby at_99) rfl ((if0 _ _).trans (feq ((by decide) : ¬ ((1 : Int32) = (0 : Int32)))).1) ?_
              show Steps p.tables e below (T132.setTop (mkF m 102 #[.val (.int x0), .val (.long x1), .second, .val (.long x2), .second, .val (.ref w_LESS), .val (.ref w_GREATER_OR_EQUAL), .val (.int (1 : Int32)), .val (.int (1 : Int32)), .val (.int (1 : Int32))] [])) _
              refine XS.iload X132.here hx rfl (hb hby at_102) rfl ?_
              show Steps p.tables e below (T132.setTop (mkF m 104 #[.val (.int x0), .val (.long x1), .second, .val (.long x2), .second, .val (.ref w_LESS), .val (.ref w_GREATER_OR_EQUAL), .val (.int (1 : Int32)), .val (.int (1 : Int32)), .val (.int (1 : Int32))] [(.int (1 : Int32))])) _
              refine XS.ifNo X132.here hx rfl (hb hby at_104) rfl ((if0 _ _).trans (feq ((by decide) : ¬ ((1 : Int32) = (0 : Int32)))).1) ?_
              show Steps p.tables e below (T132.setTop (mkF m 107 #[.val (.int x0), .val (.long x1), .second, .val (.long x2), .second, .val (.ref w_LESS), .val (.ref w_GREATER_OR_EQUAL), .val (.int (1 : Int32)), .val (.int (1 : Int32)), .val (.int (1 : Int32))] [])) _
              refine XS.iconst X132.here hx rfl (hb hby at_107) ?_
              show Steps p.tables e below (T132.setTop (mkF m 108 #[.val (.int x0), .val (.long x1), .second, .val (.long x2), .second, .val (.ref w_LESS), .val (.ref w_GREATER_OR_EQUAL), .val (.int (1 : Int32)), .val (.int (1 : Int32)), .val (.int (1 : Int32))] [(.int (1 : Int32))])) _
              refine XS.goto X132.here hx rfl (pc0 := 108) (pc' := 112) rfl (hb hby at_108) (by decide) (by decide) ?_
              exact kk)
            obtain ⟨fs, hr, hrun, hended, hW, hsame⟩ := X132.leave (v := some (.int (1 : Int32))) (fun h => by rw [Bd.returns] at h; cases h)
            refine ⟨_, _, pre133 _ ?_, hrun, hended, _, _, rfl, ?_, ⟨_, rfl⟩, hW, hsame.mono (by decide) (by decide)⟩
            · exact retN X132 hx (t := .boolean) Bd.returns (by simp) (hb hby at_112) hr
            · exact ⟨rfl, N132⟩
          ·
            obtain ⟨cq134, kq134, q134a, q134b, q134c⟩ := isOf hZ e116 E_w_GREATER_OR_EQUAL
            obtain ⟨_, _, ⟨T134, L134, k134, n134⟩, -, X134, ⟨Lc134, hQ134, l134, y134, z134⟩, st134⟩ := X116.virtualBack hx (y := (⟨"com/example/latticut/latticut/lang/Comparison", "test", "(JJ)Z"⟩ : MethodName)) (z := (⟨"com/example/latticut/latticut/lang/Comparison", "test", "(JJ)Z"⟩ : MethodName)) hown (mvT hZ (hw _ (List.mem_of_getElem? (i := 16) rfl))) (mvT hZ (hw _ (List.mem_of_getElem? (i := 17) rfl))) (notFace_of_selects (args := #[]) (mvT hZ (hw _ (List.mem_of_getElem? (i := 19) rfl)))) (mvT hZ (hw _ (List.mem_of_getElem? (i := 19) rfl))) (mvT hZ (hw _ (List.mem_of_getElem? (i := 18) rfl))) (by decide) (backOf (W := 0) (rm15 l Z a0 hw [] w_GREATER_OR_EQUAL x1 x2 h0 n0 Z0 hc118 hc126 F_whenGreater_w_GREATER_OR_EQUAL E_w_GREATER_OR_EQUAL) hZ (hw _ (List.mem_of_getElem? (i := 20) rfl)) (hw _ (List.mem_of_getElem? (i := 6) rfl)) (by decide) (by decide)) q134a q134c (g := (mkF m 24 #[.val (.int x0), .val (.long x1), .second, .val (.long x2), .second, .val (.ref w_LESS), .val (.ref w_GREATER_OR_EQUAL), .unset, .unset, .unset] [(.long x2), (.long x1), (.ref w_GREATER_OR_EQUAL)])) rfl (by rw [hml]; rfl) (Steps.refl _) (argsL := [(.long x1), (.long x2)]) (rest := []) (lenOf pd_4 rfl) rfl (by show 2 * 0 + _ ≤ _; exact Nat.le_of_eq rfl) (hb hby at_24) (fun _ _ => ⟨rfl, e116, (by decide : 0 + 0 ≤ _), (by decide : 0 + 0 ≤ _)⟩)
            dsimp only [Pt.U, Pt.locs, Pt.cells, Pt.slots] at X134 l134 y134 z134 st134 hQ134
            subst l134 y134 z134
            obtain ⟨rfl, N134q, e134⟩ := hQ134
            have N134 := Fr.app N116 N134q
            obtain ⟨cq135, kq135, q135a, q135b, q135c⟩ := isOf hZ e134 E_w_LESS
            obtain ⟨_, _, ⟨T135, L135, k135, n135⟩, -, X135, ⟨Lc135, hQ135, l135, y135, z135⟩, st135⟩ := X134.virtualBack hx (y := (⟨"com/example/latticut/latticut/lang/Comparison", "test", "(JJ)Z"⟩ : MethodName)) (z := (⟨"com/example/latticut/latticut/lang/Comparison", "test", "(JJ)Z"⟩ : MethodName)) hown (mvT hZ (hw _ (List.mem_of_getElem? (i := 16) rfl))) (mvT hZ (hw _ (List.mem_of_getElem? (i := 17) rfl))) (notFace_of_selects (args := #[]) (mvT hZ (hw _ (List.mem_of_getElem? (i := 19) rfl)))) (mvT hZ (hw _ (List.mem_of_getElem? (i := 19) rfl))) (mvT hZ (hw _ (List.mem_of_getElem? (i := 18) rfl))) (by decide) (backOf (W := 1) (rm17 l Z a0 hw [] w_LESS x1 x2 h0 n0 Z0 hc118 hc126 F_whenGreater_w_LESS E_w_LESS) hZ (hw _ (List.mem_of_getElem? (i := 20) rfl)) (hw _ (List.mem_of_getElem? (i := 6) rfl)) (by decide) (by decide)) q135a q135c (g := (mkF m 31 #[.val (.int x0), .val (.long x1), .second, .val (.long x2), .second, .val (.ref w_LESS), .val (.ref w_GREATER_OR_EQUAL), .unset, .unset, .unset] [(.long x2), (.long x1), (.ref w_LESS), (.int (1 : Int32))])) rfl (by rw [hml]; rfl) (Steps.refl _) (argsL := [(.long x1), (.long x2)]) (rest := [(.int (1 : Int32))]) (lenOf pd_4 rfl) rfl (by show 2 * 0 + _ ≤ _; exact Nat.le_of_eq rfl) (hb hby at_31) (fun _ _ => ⟨rfl, e134, (by decide : 0 + 0 ≤ _), (by decide : 0 + 0 ≤ _)⟩)
            dsimp only [Pt.U, Pt.locs, Pt.cells, Pt.slots] at X135 l135 y135 z135 st135 hQ135
            subst l135 y135 z135
            obtain ⟨rfl, N135q, e135⟩ := hQ135
            have N135 := Fr.app N134 N135q
            obtain ⟨cq136, kq136, q136a, q136b, q136c⟩ := isOf hZ e135 E_w_GREATER_OR_EQUAL
            obtain ⟨_, _, ⟨T136, L136, k136, n136⟩, -, X136, ⟨Lc136, hQ136, l136, y136, z136⟩, st136⟩ := X135.virtualBack hx (y := (⟨"com/example/latticut/latticut/lang/Comparison", "test", "(JJ)Z"⟩ : MethodName)) (z := (⟨"com/example/latticut/latticut/lang/Comparison", "test", "(JJ)Z"⟩ : MethodName)) hown (mvT hZ (hw _ (List.mem_of_getElem? (i := 16) rfl))) (mvT hZ (hw _ (List.mem_of_getElem? (i := 17) rfl))) (notFace_of_selects (args := #[]) (mvT hZ (hw _ (List.mem_of_getElem? (i := 19) rfl)))) (mvT hZ (hw _ (List.mem_of_getElem? (i := 19) rfl))) (mvT hZ (hw _ (List.mem_of_getElem? (i := 18) rfl))) (by decide) (backOf (W := 0) (rm12 l Z a0 hw [] w_GREATER_OR_EQUAL x1 h0 n0 Z0 ((own_ar8 x1 x2 hc118 hc126)) ((own_ar9 x1 x2 hc118 hc126)) F_whenEqual_w_GREATER_OR_EQUAL E_w_GREATER_OR_EQUAL) hZ (hw _ (List.mem_of_getElem? (i := 20) rfl)) (hw _ (List.mem_of_getElem? (i := 6) rfl)) (by decide) (by decide)) q136a q136c (g := (mkF m 48 #[.val (.int x0), .val (.long x1), .second, .val (.long x2), .second, .val (.ref w_LESS), .val (.ref w_GREATER_OR_EQUAL), .val (.int (1 : Int32)), .unset, .unset] [(.long x1), (.long x1), (.ref w_GREATER_OR_EQUAL)])) rfl (by rw [hml]; rfl) (Steps.refl _) (argsL := [(.long x1), (.long x1)]) (rest := []) (lenOf pd_4 rfl) rfl (by show 2 * 0 + _ ≤ _; exact Nat.le_of_eq rfl) (hb hby at_48) (fun _ _ => ⟨rfl, e135, (by decide : 0 + 0 ≤ _), (by decide : 0 + 0 ≤ _)⟩)
            dsimp only [Pt.U, Pt.locs, Pt.cells, Pt.slots] at X136 l136 y136 z136 st136 hQ136
            subst l136 y136 z136
            obtain ⟨rfl, N136q, e136⟩ := hQ136
            have N136 := Fr.app N135 N136q
            obtain ⟨cq137, kq137, q137a, q137b, q137c⟩ := isOf hZ e136 E_w_LESS
            obtain ⟨_, _, ⟨T137, L137, k137, n137⟩, -, X137, ⟨Lc137, hQ137, l137, y137, z137⟩, st137⟩ := X136.virtualBack hx (y := (⟨"com/example/latticut/latticut/lang/Comparison", "test", "(JJ)Z"⟩ : MethodName)) (z := (⟨"com/example/latticut/latticut/lang/Comparison", "test", "(JJ)Z"⟩ : MethodName)) hown (mvT hZ (hw _ (List.mem_of_getElem? (i := 16) rfl))) (mvT hZ (hw _ (List.mem_of_getElem? (i := 17) rfl))) (notFace_of_selects (args := #[]) (mvT hZ (hw _ (List.mem_of_getElem? (i := 19) rfl)))) (mvT hZ (hw _ (List.mem_of_getElem? (i := 19) rfl))) (mvT hZ (hw _ (List.mem_of_getElem? (i := 18) rfl))) (by decide) (backOf (W := 1) (rm10 l Z a0 hw [] w_LESS x1 h0 n0 Z0 ((own_ar8 x1 x2 hc118 hc126)) ((own_ar9 x1 x2 hc118 hc126)) F_whenEqual_w_LESS E_w_LESS) hZ (hw _ (List.mem_of_getElem? (i := 20) rfl)) (hw _ (List.mem_of_getElem? (i := 6) rfl)) (by decide) (by decide)) q137a q137c (g := (mkF m 55 #[.val (.int x0), .val (.long x1), .second, .val (.long x2), .second, .val (.ref w_LESS), .val (.ref w_GREATER_OR_EQUAL), .val (.int (1 : Int32)), .unset, .unset] [(.long x1), (.long x1), (.ref w_LESS), (.int (1 : Int32))])) rfl (by rw [hml]; rfl) (Steps.refl _) (argsL := [(.long x1), (.long x1)]) (rest := [(.int (1 : Int32))]) (lenOf pd_4 rfl) rfl (by show 2 * 0 + _ ≤ _; exact Nat.le_of_eq rfl) (hb hby at_55) (fun _ _ => ⟨rfl, e136, (by decide : 0 + 0 ≤ _), (by decide : 0 + 0 ≤ _)⟩)
            dsimp only [Pt.U, Pt.locs, Pt.cells, Pt.slots] at X137 l137 y137 z137 st137 hQ137
            subst l137 y137 z137
            obtain ⟨rfl, N137q, e137⟩ := hQ137
            have N137 := Fr.app N136 N137q
            obtain ⟨cq138, kq138, q138a, q138b, q138c⟩ := isOf hZ e137 E_w_GREATER_OR_EQUAL
            obtain ⟨_, _, ⟨T138, L138, k138, n138⟩, -, X138, ⟨Lc138, hQ138, l138, y138, z138⟩, st138⟩ := X137.virtualBack hx (y := (⟨"com/example/latticut/latticut/lang/Comparison", "test", "(JJ)Z"⟩ : MethodName)) (z := (⟨"com/example/latticut/latticut/lang/Comparison", "test", "(JJ)Z"⟩ : MethodName)) hown (mvT hZ (hw _ (List.mem_of_getElem? (i := 16) rfl))) (mvT hZ (hw _ (List.mem_of_getElem? (i := 17) rfl))) (notFace_of_selects (args := #[]) (mvT hZ (hw _ (List.mem_of_getElem? (i := 19) rfl)))) (mvT hZ (hw _ (List.mem_of_getElem? (i := 19) rfl))) (mvT hZ (hw _ (List.mem_of_getElem? (i := 18) rfl))) (by decide) (backOf (W := 0) (rm7 l Z a0 hw [] w_GREATER_OR_EQUAL x2 x1 h0 n0 Z0 ((own_ar10 x1 x2 hc118 hc126)) F_whenLess_w_GREATER_OR_EQUAL E_w_GREATER_OR_EQUAL) hZ (hw _ (List.mem_of_getElem? (i := 20) rfl)) (hw _ (List.mem_of_getElem? (i := 6) rfl)) (by decide) (by decide)) q138a q138c (g := (mkF m 72 #[.val (.int x0), .val (.long x1), .second, .val (.long x2), .second, .val (.ref w_LESS), .val (.ref w_GREATER_OR_EQUAL), .val (.int (1 : Int32)), .val (.int (1 : Int32)), .unset] [(.long x1), (.long x2), (.ref w_GREATER_OR_EQUAL)])) rfl (by rw [hml]; rfl) (Steps.refl _) (argsL := [(.long x2), (.long x1)]) (rest := []) (lenOf pd_4 rfl) rfl (by show 2 * 0 + _ ≤ _; exact Nat.le_of_eq rfl) (hb hby at_72) (fun _ _ => ⟨rfl, e137, (by decide : 0 + 0 ≤ _), (by decide : 0 + 0 ≤ _)⟩)
            dsimp only [Pt.U, Pt.locs, Pt.cells, Pt.slots] at X138 l138 y138 z138 st138 hQ138
            subst l138 y138 z138
            obtain ⟨rfl, N138q, e138⟩ := hQ138
            have N138 := Fr.app N137 N138q
            obtain ⟨cq139, kq139, q139a, q139b, q139c⟩ := isOf hZ e138 E_w_LESS
            obtain ⟨_, _, ⟨T139, L139, k139, n139⟩, -, X139, ⟨Lc139, hQ139, l139, y139, z139⟩, st139⟩ := X138.virtualBack hx (y := (⟨"com/example/latticut/latticut/lang/Comparison", "test", "(JJ)Z"⟩ : MethodName)) (z := (⟨"com/example/latticut/latticut/lang/Comparison", "test", "(JJ)Z"⟩ : MethodName)) hown (mvT hZ (hw _ (List.mem_of_getElem? (i := 16) rfl))) (mvT hZ (hw _ (List.mem_of_getElem? (i := 17) rfl))) (notFace_of_selects (args := #[]) (mvT hZ (hw _ (List.mem_of_getElem? (i := 19) rfl)))) (mvT hZ (hw _ (List.mem_of_getElem? (i := 19) rfl))) (mvT hZ (hw _ (List.mem_of_getElem? (i := 18) rfl))) (by decide) (backOf (W := 1) (rm5 l Z a0 hw [] w_LESS x2 x1 h0 n0 Z0 ((own_ar10 x1 x2 hc118 hc126)) F_whenLess_w_LESS E_w_LESS) hZ (hw _ (List.mem_of_getElem? (i := 20) rfl)) (hw _ (List.mem_of_getElem? (i := 6) rfl)) (by decide) (by decide)) q139a q139c (g := (mkF m 79 #[.val (.int x0), .val (.long x1), .second, .val (.long x2), .second, .val (.ref w_LESS), .val (.ref w_GREATER_OR_EQUAL), .val (.int (1 : Int32)), .val (.int (1 : Int32)), .unset] [(.long x1), (.long x2), (.ref w_LESS), (.int (0 : Int32))])) rfl (by rw [hml]; rfl) (Steps.refl _) (argsL := [(.long x2), (.long x1)]) (rest := [(.int (0 : Int32))]) (lenOf pd_4 rfl) rfl (by show 2 * 0 + _ ≤ _; exact Nat.le_of_eq rfl) (hb hby at_79) (fun _ _ => ⟨rfl, e138, (by decide : 0 + 0 ≤ _), (by decide : 0 + 0 ≤ _)⟩)
            dsimp only [Pt.U, Pt.locs, Pt.cells, Pt.slots] at X139 l139 y139 z139 st139 hQ139
            subst l139 y139 z139
            obtain ⟨rfl, N139q, e139⟩ := hQ139
            have N139 := Fr.app N138 N139q
            have pre140 : ∀ t, Steps p.tables e below (T139.setTop (mkF m 112 #[.val (.int x0), .val (.long x1), .second, .val (.long x2), .second, .val (.ref w_LESS), .val (.ref w_GREATER_OR_EQUAL), .val (.int (1 : Int32)), .val (.int (1 : Int32)), .val (.int (1 : Int32))] [(.int (1 : Int32))])) t → Steps p.tables e below (s₁.setTop (entryFrame m #[(.int x0), (.long x1), (.long x2)] maxLocals)) t := fun t kk => pre117 t (by
              show Steps p.tables e below (T116.setTop (mkF m 24 #[.val (.int x0), .val (.long x1), .second, .val (.long x2), .second, .val (.ref w_LESS), .val (.ref w_GREATER_OR_EQUAL), .unset, .unset, .unset] [(.long x2), (.long x1), (.ref w_GREATER_OR_EQUAL)])) _
              refine st134.trans ?_
              show Steps p.tables e below (T134.setTop (mkF m 27 #[.val (.int x0), .val (.long x1), .second, .val (.long x2), .second, .val (.ref w_LESS), .val (.ref w_GREATER_OR_EQUAL), .unset, .unset, .unset] [(.int (1 : Int32))])) _
              refine XS.aload X134.here hx rfl (hb hby at_27) rfl rfl ?_
              show Steps p.tables e below (T134.setTop (mkF m 29 #[.val (.int x0), .val (.long x1), .second, .val (.long x2), .second, .val (.ref w_LESS), .val (.ref w_GREATER_OR_EQUAL), .unset, .unset, .unset] [(.ref w_LESS), (.int (1 : Int32))])) _
              refine XS.lloadN X134.here hx rfl (hb hby at_29) rfl ?_
              show Steps p.tables e below (T134.setTop (mkF m 30 #[.val (.int x0), .val (.long x1), .second, .val (.long x2), .second, .val (.ref w_LESS), .val (.ref w_GREATER_OR_EQUAL), .unset, .unset, .unset] [(.long x1), (.ref w_LESS), (.int (1 : Int32))])) _
              refine XS.lloadN X134.here hx rfl (hb hby at_30) rfl ?_
              show Steps p.tables e below (T134.setTop (mkF m 31 #[.val (.int x0), .val (.long x1), .second, .val (.long x2), .second, .val (.ref w_LESS), .val (.ref w_GREATER_OR_EQUAL), .unset, .unset, .unset] [(.long x2), (.long x1), (.ref w_LESS), (.int (1 : Int32))])) _
              refine st135.trans ?_
              show Steps p.tables e below (T135.setTop (mkF m 34 #[.val (.int x0), .val (.long x1), .second, .val (.long x2), .second, .val (.ref w_LESS), .val (.ref w_GREATER_OR_EQUAL), .unset, .unset, .unset] [(.int (0 : Int32)), (.int (1 : Int32))])) _
              refine XS.icmpNo X135.here hx rfl (hb hby at_34) rfl (feq ((by decide) : ¬ ((1 : Int32) = (0 : Int32)))).1 ?_
              show Steps p.tables e below (T135.setTop (mkF m 37 #[.val (.int x0), .val (.long x1), .second, .val (.long x2), .second, .val (.ref w_LESS), .val (.ref w_GREATER_OR_EQUAL), .unset, .unset, .unset] [])) _
              refine XS.iconst X135.here hx rfl (hb hby at_37) ?_
              show Steps p.tables e below (T135.setTop (mkF m 38 #[.val (.int x0), .val (.long x1), .second, .val (.long x2), .second, .val (.ref w_LESS), .val (.ref w_GREATER_OR_EQUAL), .unset, .unset, .unset] [(.int (1 : Int32))])) _
              refine XS.goto X135.here hx rfl (pc0 := 38) (pc' := 42) rfl (hb hby at_38) (by decide) (by decide) ?_
              show Steps p.tables e below (T135.setTop (mkF m 42 #[.val (.int x0), .val (.long x1), .second, .val (.long x2), .second, .val (.ref w_LESS), .val (.ref w_GREATER_OR_EQUAL), .unset, .unset, .unset] [(.int (1 : Int32))])) _
              refine XS.istore X135.here hx rfl (hb hby at_42) rfl (l' := #[.val (.int x0), .val (.long x1), .second, .val (.long x2), .second, .val (.ref w_LESS), .val (.ref w_GREATER_OR_EQUAL), .val (.int (1 : Int32)), .unset, .unset]) rfl ?_
              show Steps p.tables e below (T135.setTop (mkF m 44 #[.val (.int x0), .val (.long x1), .second, .val (.long x2), .second, .val (.ref w_LESS), .val (.ref w_GREATER_OR_EQUAL), .val (.int (1 : Int32)), .unset, .unset] [])) _
              refine XS.aload X135.here hx rfl (hb hby at_44) rfl rfl ?_
              show Steps p.tables e below (T135.setTop (mkF m 46 #[.val (.int x0), .val (.long x1), .second, .val (.long x2), .second, .val (.ref w_LESS), .val (.ref w_GREATER_OR_EQUAL), .val (.int (1 : Int32)), .unset, .unset] [(.ref w_GREATER_OR_EQUAL)])) _
              refine XS.lloadN X135.here hx rfl (hb hby at_46) rfl ?_
              show Steps p.tables e below (T135.setTop (mkF m 47 #[.val (.int x0), .val (.long x1), .second, .val (.long x2), .second, .val (.ref w_LESS), .val (.ref w_GREATER_OR_EQUAL), .val (.int (1 : Int32)), .unset, .unset] [(.long x1), (.ref w_GREATER_OR_EQUAL)])) _
              refine XS.lloadN X135.here hx rfl (hb hby at_47) rfl ?_
              show Steps p.tables e below (T135.setTop (mkF m 48 #[.val (.int x0), .val (.long x1), .second, .val (.long x2), .second, .val (.ref w_LESS), .val (.ref w_GREATER_OR_EQUAL), .val (.int (1 : Int32)), .unset, .unset] [(.long x1), (.long x1), (.ref w_GREATER_OR_EQUAL)])) _
              refine st136.trans ?_
              show Steps p.tables e below (T136.setTop (mkF m 51 #[.val (.int x0), .val (.long x1), .second, .val (.long x2), .second, .val (.ref w_LESS), .val (.ref w_GREATER_OR_EQUAL), .val (.int (1 : Int32)), .unset, .unset] [(.int (1 : Int32))])) _
              refine XS.aload X136.here hx rfl (hb hby at_51) rfl rfl ?_
              show Steps p.tables e below (T136.setTop (mkF m 53 #[.val (.int x0), .val (.long x1), .second, .val (.long x2), .second, .val (.ref w_LESS), .val (.ref w_GREATER_OR_EQUAL), .val (.int (1 : Int32)), .unset, .unset] [(.ref w_LESS), (.int (1 : Int32))])) _
              refine XS.lloadN X136.here hx rfl (hb hby at_53) rfl ?_
              show Steps p.tables e below (T136.setTop (mkF m 54 #[.val (.int x0), .val (.long x1), .second, .val (.long x2), .second, .val (.ref w_LESS), .val (.ref w_GREATER_OR_EQUAL), .val (.int (1 : Int32)), .unset, .unset] [(.long x1), (.ref w_LESS), (.int (1 : Int32))])) _
              refine XS.lloadN X136.here hx rfl (hb hby at_54) rfl ?_
              show Steps p.tables e below (T136.setTop (mkF m 55 #[.val (.int x0), .val (.long x1), .second, .val (.long x2), .second, .val (.ref w_LESS), .val (.ref w_GREATER_OR_EQUAL), .val (.int (1 : Int32)), .unset, .unset] [(.long x1), (.long x1), (.ref w_LESS), (.int (1 : Int32))])) _
              refine st137.trans ?_
              show Steps p.tables e below (T137.setTop (mkF m 58 #[.val (.int x0), .val (.long x1), .second, .val (.long x2), .second, .val (.ref w_LESS), .val (.ref w_GREATER_OR_EQUAL), .val (.int (1 : Int32)), .unset, .unset] [(.int (0 : Int32)), (.int (1 : Int32))])) _
              refine XS.icmpNo X137.here hx rfl (hb hby at_58) rfl (feq ((by decide) : ¬ ((1 : Int32) = (0 : Int32)))).1 ?_
              show Steps p.tables e below (T137.setTop (mkF m 61 #[.val (.int x0), .val (.long x1), .second, .val (.long x2), .second, .val (.ref w_LESS), .val (.ref w_GREATER_OR_EQUAL), .val (.int (1 : Int32)), .unset, .unset] [])) _
              refine XS.iconst X137.here hx rfl (hb hby at_61) ?_
              show Steps p.tables e below (T137.setTop (mkF m 62 #[.val (.int x0), .val (.long x1), .second, .val (.long x2), .second, .val (.ref w_LESS), .val (.ref w_GREATER_OR_EQUAL), .val (.int (1 : Int32)), .unset, .unset] [(.int (1 : Int32))])) _
              refine XS.goto X137.here hx rfl (pc0 := 62) (pc' := 66) rfl (hb hby at_62) (by decide) (by decide) ?_
              show Steps p.tables e below (T137.setTop (mkF m 66 #[.val (.int x0), .val (.long x1), .second, .val (.long x2), .second, .val (.ref w_LESS), .val (.ref w_GREATER_OR_EQUAL), .val (.int (1 : Int32)), .unset, .unset] [(.int (1 : Int32))])) _
              refine XS.istore X137.here hx rfl (hb hby at_66) rfl (l' := #[.val (.int x0), .val (.long x1), .second, .val (.long x2), .second, .val (.ref w_LESS), .val (.ref w_GREATER_OR_EQUAL), .val (.int (1 : Int32)), .val (.int (1 : Int32)), .unset]) rfl ?_
              show Steps p.tables e below (T137.setTop (mkF m 68 #[.val (.int x0), .val (.long x1), .second, .val (.long x2), .second, .val (.ref w_LESS), .val (.ref w_GREATER_OR_EQUAL), .val (.int (1 : Int32)), .val (.int (1 : Int32)), .unset] [])) _
              refine XS.aload X137.here hx rfl (hb hby at_68) rfl rfl ?_
              show Steps p.tables e below (T137.setTop (mkF m 70 #[.val (.int x0), .val (.long x1), .second, .val (.long x2), .second, .val (.ref w_LESS), .val (.ref w_GREATER_OR_EQUAL), .val (.int (1 : Int32)), .val (.int (1 : Int32)), .unset] [(.ref w_GREATER_OR_EQUAL)])) _
              refine XS.lloadN X137.here hx rfl (hb hby at_70) rfl ?_
              show Steps p.tables e below (T137.setTop (mkF m 71 #[.val (.int x0), .val (.long x1), .second, .val (.long x2), .second, .val (.ref w_LESS), .val (.ref w_GREATER_OR_EQUAL), .val (.int (1 : Int32)), .val (.int (1 : Int32)), .unset] [(.long x2), (.ref w_GREATER_OR_EQUAL)])) _
              refine XS.lloadN X137.here hx rfl (hb hby at_71) rfl ?_
              show Steps p.tables e below (T137.setTop (mkF m 72 #[.val (.int x0), .val (.long x1), .second, .val (.long x2), .second, .val (.ref w_LESS), .val (.ref w_GREATER_OR_EQUAL), .val (.int (1 : Int32)), .val (.int (1 : Int32)), .unset] [(.long x1), (.long x2), (.ref w_GREATER_OR_EQUAL)])) _
              refine st138.trans ?_
              show Steps p.tables e below (T138.setTop (mkF m 75 #[.val (.int x0), .val (.long x1), .second, .val (.long x2), .second, .val (.ref w_LESS), .val (.ref w_GREATER_OR_EQUAL), .val (.int (1 : Int32)), .val (.int (1 : Int32)), .unset] [(.int (0 : Int32))])) _
              refine XS.aload X138.here hx rfl (hb hby at_75) rfl rfl ?_
              show Steps p.tables e below (T138.setTop (mkF m 77 #[.val (.int x0), .val (.long x1), .second, .val (.long x2), .second, .val (.ref w_LESS), .val (.ref w_GREATER_OR_EQUAL), .val (.int (1 : Int32)), .val (.int (1 : Int32)), .unset] [(.ref w_LESS), (.int (0 : Int32))])) _
              refine XS.lloadN X138.here hx rfl (hb hby at_77) rfl ?_
              show Steps p.tables e below (T138.setTop (mkF m 78 #[.val (.int x0), .val (.long x1), .second, .val (.long x2), .second, .val (.ref w_LESS), .val (.ref w_GREATER_OR_EQUAL), .val (.int (1 : Int32)), .val (.int (1 : Int32)), .unset] [(.long x2), (.ref w_LESS), (.int (0 : Int32))])) _
              refine XS.lloadN X138.here hx rfl (hb hby at_78) rfl ?_
              show Steps p.tables e below (T138.setTop (mkF m 79 #[.val (.int x0), .val (.long x1), .second, .val (.long x2), .second, .val (.ref w_LESS), .val (.ref w_GREATER_OR_EQUAL), .val (.int (1 : Int32)), .val (.int (1 : Int32)), .unset] [(.long x1), (.long x2), (.ref w_LESS), (.int (0 : Int32))])) _
              refine st139.trans ?_
              show Steps p.tables e below (T139.setTop (mkF m 82 #[.val (.int x0), .val (.long x1), .second, .val (.long x2), .second, .val (.ref w_LESS), .val (.ref w_GREATER_OR_EQUAL), .val (.int (1 : Int32)), .val (.int (1 : Int32)), .unset] [(.int (1 : Int32)), (.int (0 : Int32))])) _
              refine XS.icmpNo X139.here hx rfl (hb hby at_82) rfl (feq ((by decide) : ¬ ((0 : Int32) = (1 : Int32)))).1 ?_
              show Steps p.tables e below (T139.setTop (mkF m 85 #[.val (.int x0), .val (.long x1), .second, .val (.long x2), .second, .val (.ref w_LESS), .val (.ref w_GREATER_OR_EQUAL), .val (.int (1 : Int32)), .val (.int (1 : Int32)), .unset] [])) _
              refine XS.iconst X139.here hx rfl (hb hby at_85) ?_
              show Steps p.tables e below (T139.setTop (mkF m 86 #[.val (.int x0), .val (.long x1), .second, .val (.long x2), .second, .val (.ref w_LESS), .val (.ref w_GREATER_OR_EQUAL), .val (.int (1 : Int32)), .val (.int (1 : Int32)), .unset] [(.int (1 : Int32))])) _
              refine XS.goto X139.here hx rfl (pc0 := 86) (pc' := 90) rfl (hb hby at_86) (by decide) (by decide) ?_
              show Steps p.tables e below (T139.setTop (mkF m 90 #[.val (.int x0), .val (.long x1), .second, .val (.long x2), .second, .val (.ref w_LESS), .val (.ref w_GREATER_OR_EQUAL), .val (.int (1 : Int32)), .val (.int (1 : Int32)), .unset] [(.int (1 : Int32))])) _
              refine XS.istore X139.here hx rfl (hb hby at_90) rfl (l' := #[.val (.int x0), .val (.long x1), .second, .val (.long x2), .second, .val (.ref w_LESS), .val (.ref w_GREATER_OR_EQUAL), .val (.int (1 : Int32)), .val (.int (1 : Int32)), .val (.int (1 : Int32))]) rfl ?_
              show Steps p.tables e below (T139.setTop (mkF m 92 #[.val (.int x0), .val (.long x1), .second, .val (.long x2), .second, .val (.ref w_LESS), .val (.ref w_GREATER_OR_EQUAL), .val (.int (1 : Int32)), .val (.int (1 : Int32)), .val (.int (1 : Int32))] [])) _
              refine XS.iload X139.here hx rfl (hb hby at_92) rfl ?_
              show Steps p.tables e below (T139.setTop (mkF m 94 #[.val (.int x0), .val (.long x1), .second, .val (.long x2), .second, .val (.ref w_LESS), .val (.ref w_GREATER_OR_EQUAL), .val (.int (1 : Int32)), .val (.int (1 : Int32)), .val (.int (1 : Int32))] [(.int (1 : Int32))])) _
              refine XS.ifNo X139.here hx rfl (hb hby at_94) rfl ((if0 _ _).trans (feq ((by decide) : ¬ ((1 : Int32) = (0 : Int32)))).1) ?_
              show Steps p.tables e below (T139.setTop (mkF m 97 #[.val (.int x0), .val (.long x1), .second, .val (.long x2), .second, .val (.ref w_LESS), .val (.ref w_GREATER_OR_EQUAL), .val (.int (1 : Int32)), .val (.int (1 : Int32)), .val (.int (1 : Int32))] [])) _
              refine XS.iload X139.here hx rfl (hb hby at_97) rfl ?_
              show Steps p.tables e below (T139.setTop (mkF m 99 #[.val (.int x0), .val (.long x1), .second, .val (.long x2), .second, .val (.ref w_LESS), .val (.ref w_GREATER_OR_EQUAL), .val (.int (1 : Int32)), .val (.int (1 : Int32)), .val (.int (1 : Int32))] [(.int (1 : Int32))])) _
              refine XS.ifNo X139.here hx rfl (hb hby at_99) rfl ((if0 _ _).trans (feq ((by decide) : ¬ ((1 : Int32) = (0 : Int32)))).1) ?_
              show Steps p.tables e below (T139.setTop (mkF m 102 #[.val (.int x0), .val (.long x1), .second, .val (.long x2), .second, .val (.ref w_LESS), .val (.ref w_GREATER_OR_EQUAL), .val (.int (1 : Int32)), .val (.int (1 : Int32)), .val (.int (1 : Int32))] [])) _
              refine XS.iload X139.here hx rfl (hb hby at_102) rfl ?_
              show Steps p.tables e below (T139.setTop (mkF m 104 #[.val (.int x0), .val (.long x1), .second, .val (.long x2), .second, .val (.ref w_LESS), .val (.ref w_GREATER_OR_EQUAL), .val (.int (1 : Int32)), .val (.int (1 : Int32)), .val (.int (1 : Int32))] [(.int (1 : Int32))])) _
              refine XS.ifNo X139.here hx rfl (hb hby at_104) rfl ((if0 _ _).trans (feq ((by decide) : ¬ ((1 : Int32) = (0 : Int32)))).1) ?_
              show Steps p.tables e below (T139.setTop (mkF m 107 #[.val (.int x0), .val (.long x1), .second, .val (.long x2), .second, .val (.ref w_LESS), .val (.ref w_GREATER_OR_EQUAL), .val (.int (1 : Int32)), .val (.int (1 : Int32)), .val (.int (1 : Int32))] [])) _
              refine XS.iconst X139.here hx rfl (hb hby at_107) ?_
              show Steps p.tables e below (T139.setTop (mkF m 108 #[.val (.int x0), .val (.long x1), .second, .val (.long x2), .second, .val (.ref w_LESS), .val (.ref w_GREATER_OR_EQUAL), .val (.int (1 : Int32)), .val (.int (1 : Int32)), .val (.int (1 : Int32))] [(.int (1 : Int32))])) _
              refine XS.goto X139.here hx rfl (pc0 := 108) (pc' := 112) rfl (hb hby at_108) (by decide) (by decide) ?_
              exact kk)
            obtain ⟨fs, hr, hrun, hended, hW, hsame⟩ := X139.leave (v := some (.int (1 : Int32))) (fun h => by rw [Bd.returns] at h; cases h)
            refine ⟨_, _, pre140 _ ?_, hrun, hended, _, _, rfl, ?_, ⟨_, rfl⟩, hW, hsame.mono (by decide) (by decide)⟩
            · exact retN X139 hx (t := .boolean) Bd.returns (by simp) (hb hby at_112) hr
            · exact ⟨rfl, N139⟩
      ·
        by_cases hc141 : ((x0 &&& (2147483647 : Int32)) % (6 : Int32)) = (3 : Int32)
        ·
          obtain ⟨_, _, ⟨T142, L142, k142, n142⟩, -, X142, ⟨Lc142, hQ142, l142, y142, z142⟩, st142⟩ := Jvm.LawKit.callS X0 hx (y := (⟨"com/example/latticut/latticut/lang/ComparisonNegatedPinLaw", "pick", "(I)Lcom/example/latticut/latticut/lang/Comparison;"⟩ : MethodName)) hown (mvT hZ (hw _ (List.mem_of_getElem? (i := 0) rfl))) (mvT hZ (hw _ (List.mem_of_getElem? (i := 1) rfl))) (mvT hZ (hw _ (List.mem_of_getElem? (i := 2) rfl))) (mvT hZ (hw _ (List.mem_of_getElem? (i := 3) rfl))) (by decide) (backOf (W := 0) (rm25 l Z a0 hw [] x0 w_LESS_OR_EQUAL h0 n0 Z0 hc60 hc87 hc114 hc141 S_w_LESS_OR_EQUAL) hZ (hw _ (List.mem_of_getElem? (i := 3) rfl)) (hw _ (List.mem_of_getElem? (i := 2) rfl)) (by decide) (by decide)) (g := (mkF m 1 #[.val (.int x0), .val (.long x1), .second, .val (.long x2), .second, .unset, .unset, .unset, .unset, .unset] [(.int x0)])) rfl (by rw [hml]; rfl) (argsL := [(.int x0)]) (rest := []) (lenOf pd_0 rfl) rfl (by show 2 * 0 + _ ≤ _; exact Nat.le_of_eq rfl) (hb hby at_1) (fun _ _ => ⟨rfl, e0, (by decide : 0 + 0 ≤ _), (by decide : 0 + 0 ≤ _)⟩)
          dsimp only [Pt.U, Pt.locs, Pt.cells, Pt.slots] at X142 l142 y142 z142 st142 hQ142
          subst l142 y142 z142
          obtain ⟨rfl, N142q, e142⟩ := hQ142
          have N142 := Fr.app N0 N142q
          obtain ⟨cq143, kq143, q143a, q143b, q143c⟩ := isOf hZ e142 E_w_LESS_OR_EQUAL
          obtain ⟨_, _, ⟨T143, L143, k143, n143⟩, -, X143, ⟨Lc143, hQ143, l143, y143, z143⟩, st143⟩ := X142.virtualBack hx (y := (⟨"com/example/latticut/latticut/lang/Comparison", "negated", "()Lcom/example/latticut/latticut/lang/Comparison;"⟩ : MethodName)) (z := (⟨"com/example/latticut/latticut/lang/Comparison", "negated", "()Lcom/example/latticut/latticut/lang/Comparison;"⟩ : MethodName)) hown (mvT hZ (hw _ (List.mem_of_getElem? (i := 8) rfl))) (mvT hZ (hw _ (List.mem_of_getElem? (i := 9) rfl))) (notFace_of_selects (args := #[]) (mvT hZ (hw _ (List.mem_of_getElem? (i := 11) rfl)))) (mvT hZ (hw _ (List.mem_of_getElem? (i := 11) rfl))) (mvT hZ (hw _ (List.mem_of_getElem? (i := 10) rfl))) (by decide) (backOf (W := 0) (rm26 l Z a0 hw [] w_LESS_OR_EQUAL w_EQUAL w_NOT_EQUAL w_LESS w_GREATER h0 n0 Z0 S_w_EQUAL ((Fld.ne F_ordinal_w_LESS_OR_EQUAL F_ordinal_w_EQUAL (by decide))) S_w_NOT_EQUAL ((Fld.ne F_ordinal_w_LESS_OR_EQUAL F_ordinal_w_NOT_EQUAL (by decide))) S_w_LESS ((Fld.ne F_ordinal_w_LESS_OR_EQUAL F_ordinal_w_LESS (by decide))) S_w_LESS_OR_EQUAL S_w_GREATER) hZ (hw _ (List.mem_of_getElem? (i := 12) rfl)) (hw _ (List.mem_of_getElem? (i := 6) rfl)) (by decide) (by decide)) q143a q143c (g := (mkF m 8 #[.val (.int x0), .val (.long x1), .second, .val (.long x2), .second, .val (.ref w_LESS_OR_EQUAL), .unset, .unset, .unset, .unset] [(.ref w_LESS_OR_EQUAL)])) rfl (by rw [hml]; rfl) (Steps.refl _) (argsL := []) (rest := []) (lenOf pd_1 rfl) rfl (by show 2 * 0 + _ ≤ _; exact Nat.le_of_eq rfl) (hb hby at_8) (fun _ _ => ⟨rfl, e142, (by decide : 0 + 0 ≤ _), (by decide : 0 + 0 ≤ _)⟩)
          dsimp only [Pt.U, Pt.locs, Pt.cells, Pt.slots] at X143 l143 y143 z143 st143 hQ143
          subst l143 y143 z143
          obtain ⟨rfl, N143q, e143⟩ := hQ143
          have N143 := Fr.app N142 N143q
          have pre144 : ∀ t, Steps p.tables e below (T143.setTop (mkF m 24 #[.val (.int x0), .val (.long x1), .second, .val (.long x2), .second, .val (.ref w_LESS_OR_EQUAL), .val (.ref w_GREATER), .unset, .unset, .unset] [(.long x2), (.long x1), (.ref w_GREATER)])) t → Steps p.tables e below (s₁.setTop (entryFrame m #[(.int x0), (.long x1), (.long x2)] maxLocals)) t := fun t kk => pre59 t (by
            show Steps p.tables e below (s₁.setTop (mkF m 1 #[.val (.int x0), .val (.long x1), .second, .val (.long x2), .second, .unset, .unset, .unset, .unset, .unset] [(.int x0)])) _
            refine st142 _ ?_
            show Steps p.tables e below (T142.setTop (mkF m 4 #[.val (.int x0), .val (.long x1), .second, .val (.long x2), .second, .unset, .unset, .unset, .unset, .unset] [(.ref w_LESS_OR_EQUAL)])) _
            refine XS.astore X142.here hx rfl (hb hby at_4) rfl rfl (l' := #[.val (.int x0), .val (.long x1), .second, .val (.long x2), .second, .val (.ref w_LESS_OR_EQUAL), .unset, .unset, .unset, .unset]) rfl ?_
            show Steps p.tables e below (T142.setTop (mkF m 6 #[.val (.int x0), .val (.long x1), .second, .val (.long x2), .second, .val (.ref w_LESS_OR_EQUAL), .unset, .unset, .unset, .unset] [])) _
            refine XS.aload X142.here hx rfl (hb hby at_6) rfl rfl ?_
            show Steps p.tables e below (T142.setTop (mkF m 8 #[.val (.int x0), .val (.long x1), .second, .val (.long x2), .second, .val (.ref w_LESS_OR_EQUAL), .unset, .unset, .unset, .unset] [(.ref w_LESS_OR_EQUAL)])) _
            refine st143.trans ?_
            show Steps p.tables e below (T143.setTop (mkF m 11 #[.val (.int x0), .val (.long x1), .second, .val (.long x2), .second, .val (.ref w_LESS_OR_EQUAL), .unset, .unset, .unset, .unset] [(.ref w_GREATER)])) _
            refine XS.astore X143.here hx rfl (hb hby at_11) rfl rfl (l' := #[.val (.int x0), .val (.long x1), .second, .val (.long x2), .second, .val (.ref w_LESS_OR_EQUAL), .val (.ref w_GREATER), .unset, .unset, .unset]) rfl ?_
            show Steps p.tables e below (T143.setTop (mkF m 13 #[.val (.int x0), .val (.long x1), .second, .val (.long x2), .second, .val (.ref w_LESS_OR_EQUAL), .val (.ref w_GREATER), .unset, .unset, .unset] [])) _
            refine XS.aload X143.here hx rfl (hb hby at_13) rfl rfl ?_
            show Steps p.tables e below (T143.setTop (mkF m 15 #[.val (.int x0), .val (.long x1), .second, .val (.long x2), .second, .val (.ref w_LESS_OR_EQUAL), .val (.ref w_GREATER), .unset, .unset, .unset] [(.ref w_GREATER)])) _
            refine XS.ifnonnullYes X143.here hx rfl (pc0 := 15) (pc' := 20) rfl (hb hby at_15) rfl (by decide) (by decide) ?_
            show Steps p.tables e below (T143.setTop (mkF m 20 #[.val (.int x0), .val (.long x1), .second, .val (.long x2), .second, .val (.ref w_LESS_OR_EQUAL), .val (.ref w_GREATER), .unset, .unset, .unset] [])) _
            refine XS.aload X143.here hx rfl (hb hby at_20) rfl rfl ?_
            show Steps p.tables e below (T143.setTop (mkF m 22 #[.val (.int x0), .val (.long x1), .second, .val (.long x2), .second, .val (.ref w_LESS_OR_EQUAL), .val (.ref w_GREATER), .unset, .unset, .unset] [(.ref w_GREATER)])) _
            refine XS.lloadN X143.here hx rfl (hb hby at_22) rfl ?_
            show Steps p.tables e below (T143.setTop (mkF m 23 #[.val (.int x0), .val (.long x1), .second, .val (.long x2), .second, .val (.ref w_LESS_OR_EQUAL), .val (.ref w_GREATER), .unset, .unset, .unset] [(.long x1), (.ref w_GREATER)])) _
            refine XS.lloadN X143.here hx rfl (hb hby at_23) rfl ?_
            exact kk)
          by_cases hc145 : (lcmpW x1 x2) < (0 : Int32)
          ·
            obtain ⟨cq146, kq146, q146a, q146b, q146c⟩ := isOf hZ e143 E_w_GREATER
            obtain ⟨_, _, ⟨T146, L146, k146, n146⟩, -, X146, ⟨Lc146, hQ146, l146, y146, z146⟩, st146⟩ := X143.virtualBack hx (y := (⟨"com/example/latticut/latticut/lang/Comparison", "test", "(JJ)Z"⟩ : MethodName)) (z := (⟨"com/example/latticut/latticut/lang/Comparison", "test", "(JJ)Z"⟩ : MethodName)) hown (mvT hZ (hw _ (List.mem_of_getElem? (i := 16) rfl))) (mvT hZ (hw _ (List.mem_of_getElem? (i := 17) rfl))) (notFace_of_selects (args := #[]) (mvT hZ (hw _ (List.mem_of_getElem? (i := 19) rfl)))) (mvT hZ (hw _ (List.mem_of_getElem? (i := 19) rfl))) (mvT hZ (hw _ (List.mem_of_getElem? (i := 18) rfl))) (by decide) (backOf (W := 0) (rm7 l Z a0 hw [] w_GREATER x1 x2 h0 n0 Z0 hc145 F_whenLess_w_GREATER E_w_GREATER) hZ (hw _ (List.mem_of_getElem? (i := 20) rfl)) (hw _ (List.mem_of_getElem? (i := 6) rfl)) (by decide) (by decide)) q146a q146c (g := (mkF m 24 #[.val (.int x0), .val (.long x1), .second, .val (.long x2), .second, .val (.ref w_LESS_OR_EQUAL), .val (.ref w_GREATER), .unset, .unset, .unset] [(.long x2), (.long x1), (.ref w_GREATER)])) rfl (by rw [hml]; rfl) (Steps.refl _) (argsL := [(.long x1), (.long x2)]) (rest := []) (lenOf pd_4 rfl) rfl (by show 2 * 0 + _ ≤ _; exact Nat.le_of_eq rfl) (hb hby at_24) (fun _ _ => ⟨rfl, e143, (by decide : 0 + 0 ≤ _), (by decide : 0 + 0 ≤ _)⟩)
            dsimp only [Pt.U, Pt.locs, Pt.cells, Pt.slots] at X146 l146 y146 z146 st146 hQ146
            subst l146 y146 z146
            obtain ⟨rfl, N146q, e146⟩ := hQ146
            have N146 := Fr.app N143 N146q
            obtain ⟨cq147, kq147, q147a, q147b, q147c⟩ := isOf hZ e146 E_w_LESS_OR_EQUAL
            obtain ⟨_, _, ⟨T147, L147, k147, n147⟩, -, X147, ⟨Lc147, hQ147, l147, y147, z147⟩, st147⟩ := X146.virtualBack hx (y := (⟨"com/example/latticut/latticut/lang/Comparison", "test", "(JJ)Z"⟩ : MethodName)) (z := (⟨"com/example/latticut/latticut/lang/Comparison", "test", "(JJ)Z"⟩ : MethodName)) hown (mvT hZ (hw _ (List.mem_of_getElem? (i := 16) rfl))) (mvT hZ (hw _ (List.mem_of_getElem? (i := 17) rfl))) (notFace_of_selects (args := #[]) (mvT hZ (hw _ (List.mem_of_getElem? (i := 19) rfl)))) (mvT hZ (hw _ (List.mem_of_getElem? (i := 19) rfl))) (mvT hZ (hw _ (List.mem_of_getElem? (i := 18) rfl))) (by decide) (backOf (W := 1) (rm5 l Z a0 hw [] w_LESS_OR_EQUAL x1 x2 h0 n0 Z0 hc145 F_whenLess_w_LESS_OR_EQUAL E_w_LESS_OR_EQUAL) hZ (hw _ (List.mem_of_getElem? (i := 20) rfl)) (hw _ (List.mem_of_getElem? (i := 6) rfl)) (by decide) (by decide)) q147a q147c (g := (mkF m 31 #[.val (.int x0), .val (.long x1), .second, .val (.long x2), .second, .val (.ref w_LESS_OR_EQUAL), .val (.ref w_GREATER), .unset, .unset, .unset] [(.long x2), (.long x1), (.ref w_LESS_OR_EQUAL), (.int (0 : Int32))])) rfl (by rw [hml]; rfl) (Steps.refl _) (argsL := [(.long x1), (.long x2)]) (rest := [(.int (0 : Int32))]) (lenOf pd_4 rfl) rfl (by show 2 * 0 + _ ≤ _; exact Nat.le_of_eq rfl) (hb hby at_31) (fun _ _ => ⟨rfl, e146, (by decide : 0 + 0 ≤ _), (by decide : 0 + 0 ≤ _)⟩)
            dsimp only [Pt.U, Pt.locs, Pt.cells, Pt.slots] at X147 l147 y147 z147 st147 hQ147
            subst l147 y147 z147
            obtain ⟨rfl, N147q, e147⟩ := hQ147
            have N147 := Fr.app N146 N147q
            obtain ⟨cq148, kq148, q148a, q148b, q148c⟩ := isOf hZ e147 E_w_GREATER
            obtain ⟨_, _, ⟨T148, L148, k148, n148⟩, -, X148, ⟨Lc148, hQ148, l148, y148, z148⟩, st148⟩ := X147.virtualBack hx (y := (⟨"com/example/latticut/latticut/lang/Comparison", "test", "(JJ)Z"⟩ : MethodName)) (z := (⟨"com/example/latticut/latticut/lang/Comparison", "test", "(JJ)Z"⟩ : MethodName)) hown (mvT hZ (hw _ (List.mem_of_getElem? (i := 16) rfl))) (mvT hZ (hw _ (List.mem_of_getElem? (i := 17) rfl))) (notFace_of_selects (args := #[]) (mvT hZ (hw _ (List.mem_of_getElem? (i := 19) rfl)))) (mvT hZ (hw _ (List.mem_of_getElem? (i := 19) rfl))) (mvT hZ (hw _ (List.mem_of_getElem? (i := 18) rfl))) (by decide) (backOf (W := 0) (rm10 l Z a0 hw [] w_GREATER x1 h0 n0 Z0 ((own_ar0 x1 x2 hc145)) ((own_ar1 x1 x2 hc145)) F_whenEqual_w_GREATER E_w_GREATER) hZ (hw _ (List.mem_of_getElem? (i := 20) rfl)) (hw _ (List.mem_of_getElem? (i := 6) rfl)) (by decide) (by decide)) q148a q148c (g := (mkF m 48 #[.val (.int x0), .val (.long x1), .second, .val (.long x2), .second, .val (.ref w_LESS_OR_EQUAL), .val (.ref w_GREATER), .val (.int (1 : Int32)), .unset, .unset] [(.long x1), (.long x1), (.ref w_GREATER)])) rfl (by rw [hml]; rfl) (Steps.refl _) (argsL := [(.long x1), (.long x1)]) (rest := []) (lenOf pd_4 rfl) rfl (by show 2 * 0 + _ ≤ _; exact Nat.le_of_eq rfl) (hb hby at_48) (fun _ _ => ⟨rfl, e147, (by decide : 0 + 0 ≤ _), (by decide : 0 + 0 ≤ _)⟩)
            dsimp only [Pt.U, Pt.locs, Pt.cells, Pt.slots] at X148 l148 y148 z148 st148 hQ148
            subst l148 y148 z148
            obtain ⟨rfl, N148q, e148⟩ := hQ148
            have N148 := Fr.app N147 N148q
            obtain ⟨cq149, kq149, q149a, q149b, q149c⟩ := isOf hZ e148 E_w_LESS_OR_EQUAL
            obtain ⟨_, _, ⟨T149, L149, k149, n149⟩, -, X149, ⟨Lc149, hQ149, l149, y149, z149⟩, st149⟩ := X148.virtualBack hx (y := (⟨"com/example/latticut/latticut/lang/Comparison", "test", "(JJ)Z"⟩ : MethodName)) (z := (⟨"com/example/latticut/latticut/lang/Comparison", "test", "(JJ)Z"⟩ : MethodName)) hown (mvT hZ (hw _ (List.mem_of_getElem? (i := 16) rfl))) (mvT hZ (hw _ (List.mem_of_getElem? (i := 17) rfl))) (notFace_of_selects (args := #[]) (mvT hZ (hw _ (List.mem_of_getElem? (i := 19) rfl)))) (mvT hZ (hw _ (List.mem_of_getElem? (i := 19) rfl))) (mvT hZ (hw _ (List.mem_of_getElem? (i := 18) rfl))) (by decide) (backOf (W := 1) (rm12 l Z a0 hw [] w_LESS_OR_EQUAL x1 h0 n0 Z0 ((own_ar0 x1 x2 hc145)) ((own_ar1 x1 x2 hc145)) F_whenEqual_w_LESS_OR_EQUAL E_w_LESS_OR_EQUAL) hZ (hw _ (List.mem_of_getElem? (i := 20) rfl)) (hw _ (List.mem_of_getElem? (i := 6) rfl)) (by decide) (by decide)) q149a q149c (g := (mkF m 55 #[.val (.int x0), .val (.long x1), .second, .val (.long x2), .second, .val (.ref w_LESS_OR_EQUAL), .val (.ref w_GREATER), .val (.int (1 : Int32)), .unset, .unset] [(.long x1), (.long x1), (.ref w_LESS_OR_EQUAL), (.int (0 : Int32))])) rfl (by rw [hml]; rfl) (Steps.refl _) (argsL := [(.long x1), (.long x1)]) (rest := [(.int (0 : Int32))]) (lenOf pd_4 rfl) rfl (by show 2 * 0 + _ ≤ _; exact Nat.le_of_eq rfl) (hb hby at_55) (fun _ _ => ⟨rfl, e148, (by decide : 0 + 0 ≤ _), (by decide : 0 + 0 ≤ _)⟩)
            dsimp only [Pt.U, Pt.locs, Pt.cells, Pt.slots] at X149 l149 y149 z149 st149 hQ149
            subst l149 y149 z149
            obtain ⟨rfl, N149q, e149⟩ := hQ149
            have N149 := Fr.app N148 N149q
            obtain ⟨cq150, kq150, q150a, q150b, q150c⟩ := isOf hZ e149 E_w_GREATER
            obtain ⟨_, _, ⟨T150, L150, k150, n150⟩, -, X150, ⟨Lc150, hQ150, l150, y150, z150⟩, st150⟩ := X149.virtualBack hx (y := (⟨"com/example/latticut/latticut/lang/Comparison", "test", "(JJ)Z"⟩ : MethodName)) (z := (⟨"com/example/latticut/latticut/lang/Comparison", "test", "(JJ)Z"⟩ : MethodName)) hown (mvT hZ (hw _ (List.mem_of_getElem? (i := 16) rfl))) (mvT hZ (hw _ (List.mem_of_getElem? (i := 17) rfl))) (notFace_of_selects (args := #[]) (mvT hZ (hw _ (List.mem_of_getElem? (i := 19) rfl)))) (mvT hZ (hw _ (List.mem_of_getElem? (i := 19) rfl))) (mvT hZ (hw _ (List.mem_of_getElem? (i := 18) rfl))) (by decide) (backOf (W := 0) (rm15 l Z a0 hw [] w_GREATER x2 x1 h0 n0 Z0 ((own_ar2 x1 x2 hc145)) ((own_ar3 x1 x2 hc145)) F_whenGreater_w_GREATER E_w_GREATER) hZ (hw _ (List.mem_of_getElem? (i := 20) rfl)) (hw _ (List.mem_of_getElem? (i := 6) rfl)) (by decide) (by decide)) q150a q150c (g := (mkF m 72 #[.val (.int x0), .val (.long x1), .second, .val (.long x2), .second, .val (.ref w_LESS_OR_EQUAL), .val (.ref w_GREATER), .val (.int (1 : Int32)), .val (.int (1 : Int32)), .unset] [(.long x1), (.long x2), (.ref w_GREATER)])) rfl (by rw [hml]; rfl) (Steps.refl _) (argsL := [(.long x2), (.long x1)]) (rest := []) (lenOf pd_4 rfl) rfl (by show 2 * 0 + _ ≤ _; exact Nat.le_of_eq rfl) (hb hby at_72) (fun _ _ => ⟨rfl, e149, (by decide : 0 + 0 ≤ _), (by decide : 0 + 0 ≤ _)⟩)
            dsimp only [Pt.U, Pt.locs, Pt.cells, Pt.slots] at X150 l150 y150 z150 st150 hQ150
            subst l150 y150 z150
            obtain ⟨rfl, N150q, e150⟩ := hQ150
            have N150 := Fr.app N149 N150q
            obtain ⟨cq151, kq151, q151a, q151b, q151c⟩ := isOf hZ e150 E_w_LESS_OR_EQUAL
            obtain ⟨_, _, ⟨T151, L151, k151, n151⟩, -, X151, ⟨Lc151, hQ151, l151, y151, z151⟩, st151⟩ := X150.virtualBack hx (y := (⟨"com/example/latticut/latticut/lang/Comparison", "test", "(JJ)Z"⟩ : MethodName)) (z := (⟨"com/example/latticut/latticut/lang/Comparison", "test", "(JJ)Z"⟩ : MethodName)) hown (mvT hZ (hw _ (List.mem_of_getElem? (i := 16) rfl))) (mvT hZ (hw _ (List.mem_of_getElem? (i := 17) rfl))) (notFace_of_selects (args := #[]) (mvT hZ (hw _ (List.mem_of_getElem? (i := 19) rfl)))) (mvT hZ (hw _ (List.mem_of_getElem? (i := 19) rfl))) (mvT hZ (hw _ (List.mem_of_getElem? (i := 18) rfl))) (by decide) (backOf (W := 1) (rm17 l Z a0 hw [] w_LESS_OR_EQUAL x2 x1 h0 n0 Z0 ((own_ar2 x1 x2 hc145)) ((own_ar3 x1 x2 hc145)) F_whenGreater_w_LESS_OR_EQUAL E_w_LESS_OR_EQUAL) hZ (hw _ (List.mem_of_getElem? (i := 20) rfl)) (hw _ (List.mem_of_getElem? (i := 6) rfl)) (by decide) (by decide)) q151a q151c (g := (mkF m 79 #[.val (.int x0), .val (.long x1), .second, .val (.long x2), .second, .val (.ref w_LESS_OR_EQUAL), .val (.ref w_GREATER), .val (.int (1 : Int32)), .val (.int (1 : Int32)), .unset] [(.long x1), (.long x2), (.ref w_LESS_OR_EQUAL), (.int (1 : Int32))])) rfl (by rw [hml]; rfl) (Steps.refl _) (argsL := [(.long x2), (.long x1)]) (rest := [(.int (1 : Int32))]) (lenOf pd_4 rfl) rfl (by show 2 * 0 + _ ≤ _; exact Nat.le_of_eq rfl) (hb hby at_79) (fun _ _ => ⟨rfl, e150, (by decide : 0 + 0 ≤ _), (by decide : 0 + 0 ≤ _)⟩)
            dsimp only [Pt.U, Pt.locs, Pt.cells, Pt.slots] at X151 l151 y151 z151 st151 hQ151
            subst l151 y151 z151
            obtain ⟨rfl, N151q, e151⟩ := hQ151
            have N151 := Fr.app N150 N151q
            have pre152 : ∀ t, Steps p.tables e below (T151.setTop (mkF m 112 #[.val (.int x0), .val (.long x1), .second, .val (.long x2), .second, .val (.ref w_LESS_OR_EQUAL), .val (.ref w_GREATER), .val (.int (1 : Int32)), .val (.int (1 : Int32)), .val (.int (1 : Int32))] [(.int (1 : Int32))])) t → Steps p.tables e below (s₁.setTop (entryFrame m #[(.int x0), (.long x1), (.long x2)] maxLocals)) t := fun t kk => pre144 t (by
              show Steps p.tables e below (T143.setTop (mkF m 24 #[.val (.int x0), .val (.long x1), .second, .val (.long x2), .second, .val (.ref w_LESS_OR_EQUAL), .val (.ref w_GREATER), .unset, .unset, .unset] [(.long x2), (.long x1), (.ref w_GREATER)])) _
              refine st146.trans ?_
              show Steps p.tables e below (T146.setTop (mkF m 27 #[.val (.int x0), .val (.long x1), .second, .val (.long x2), .second, .val (.ref w_LESS_OR_EQUAL), .val (.ref w_GREATER), .unset, .unset, .unset] [(.int (0 : Int32))])) _
              refine XS.aload X146.here hx rfl (hb hby at_27) rfl rfl ?_
              show Steps p.tables e below (T146.setTop (mkF m 29 #[.val (.int x0), .val (.long x1), .second, .val (.long x2), .second, .val (.ref w_LESS_OR_EQUAL), .val (.ref w_GREATER), .unset, .unset, .unset] [(.ref w_LESS_OR_EQUAL), (.int (0 : Int32))])) _
              refine XS.lloadN X146.here hx rfl (hb hby at_29) rfl ?_
              show Steps p.tables e below (T146.setTop (mkF m 30 #[.val (.int x0), .val (.long x1), .second, .val (.long x2), .second, .val (.ref w_LESS_OR_EQUAL), .val (.ref w_GREATER), .unset, .unset, .unset] [(.long x1), (.ref w_LESS_OR_EQUAL), (.int (0 : Int32))])) _
              refine XS.lloadN X146.here hx rfl (hb hby at_30) rfl ?_
              show Steps p.tables e below (T146.setTop (mkF m 31 #[.val (.int x0), .val (.long x1), .second, .val (.long x2), .second, .val (.ref w_LESS_OR_EQUAL), .val (.ref w_GREATER), .unset, .unset, .unset] [(.long x2), (.long x1), (.ref w_LESS_OR_EQUAL), (.int (0 : Int32))])) _
              refine st147.trans ?_
              show Steps p.tables e below (T147.setTop (mkF m 34 #[.val (.int x0), .val (.long x1), .second, .val (.long x2), .second, .val (.ref w_LESS_OR_EQUAL), .val (.ref w_GREATER), .unset, .unset, .unset] [(.int (1 : Int32)), (.int (0 : Int32))])) _
              refine XS.icmpNo X147.here hx rfl (hb hby at_34) rfl (feq ((by decide) : ¬ ((0 : Int32) = (1 : Int32)))).1 ?_
              show Steps p.tables e below (T147.setTop (mkF m 37 #[.val (.int x0), .val (.long x1), .second, .val (.long x2), .second, .val (.ref w_LESS_OR_EQUAL), .val (.ref w_GREATER), .unset, .unset, .unset] [])) _
              refine XS.iconst X147.here hx rfl (hb hby at_37) ?_
              show Steps p.tables e below (T147.setTop (mkF m 38 #[.val (.int x0), .val (.long x1), .second, .val (.long x2), .second, .val (.ref w_LESS_OR_EQUAL), .val (.ref w_GREATER), .unset, .unset, .unset] [(.int (1 : Int32))])) _
              refine XS.goto X147.here hx rfl (pc0 := 38) (pc' := 42) rfl (hb hby at_38) (by decide) (by decide) ?_
              show Steps p.tables e below (T147.setTop (mkF m 42 #[.val (.int x0), .val (.long x1), .second, .val (.long x2), .second, .val (.ref w_LESS_OR_EQUAL), .val (.ref w_GREATER), .unset, .unset, .unset] [(.int (1 : Int32))])) _
              refine XS.istore X147.here hx rfl (hb hby at_42) rfl (l' := #[.val (.int x0), .val (.long x1), .second, .val (.long x2), .second, .val (.ref w_LESS_OR_EQUAL), .val (.ref w_GREATER), .val (.int (1 : Int32)), .unset, .unset]) rfl ?_
              show Steps p.tables e below (T147.setTop (mkF m 44 #[.val (.int x0), .val (.long x1), .second, .val (.long x2), .second, .val (.ref w_LESS_OR_EQUAL), .val (.ref w_GREATER), .val (.int (1 : Int32)), .unset, .unset] [])) _
              refine XS.aload X147.here hx rfl (hb hby at_44) rfl rfl ?_
              show Steps p.tables e below (T147.setTop (mkF m 46 #[.val (.int x0), .val (.long x1), .second, .val (.long x2), .second, .val (.ref w_LESS_OR_EQUAL), .val (.ref w_GREATER), .val (.int (1 : Int32)), .unset, .unset] [(.ref w_GREATER)])) _
              refine XS.lloadN X147.here hx rfl (hb hby at_46) rfl ?_
              show Steps p.tables e below (T147.setTop (mkF m 47 #[.val (.int x0), .val (.long x1), .second, .val (.long x2), .second, .val (.ref w_LESS_OR_EQUAL), .val (.ref w_GREATER), .val (.int (1 : Int32)), .unset, .unset] [(.long x1), (.ref w_GREATER)])) _
              refine XS.lloadN X147.here hx rfl (hb hby at_47) rfl ?_
              show Steps p.tables e below (T147.setTop (mkF m 48 #[.val (.int x0), .val (.long x1), .second, .val (.long x2), .second, .val (.ref w_LESS_OR_EQUAL), .val (.ref w_GREATER), .val (.int (1 : Int32)), .unset, .unset] [(.long x1), (.long x1), (.ref w_GREATER)])) _
              refine st148.trans ?_
              show Steps p.tables e below (T148.setTop (mkF m 51 #[.val (.int x0), .val (.long x1), .second, .val (.long x2), .second, .val (.ref w_LESS_OR_EQUAL), .val (.ref w_GREATER), .val (.int (1 : Int32)), .unset, .unset] [(.int (0 : Int32))])) _
              refine XS.aload X148.here hx rfl (hb hby at_51) rfl rfl ?_
              show Steps p.tables e below (T148.setTop (mkF m 53 #[.val (.int x0), .val (.long x1), .second, .val (.long x2), .second, .val (.ref w_LESS_OR_EQUAL), .val (.ref w_GREATER), .val (.int (1 : Int32)), .unset, .unset] [(.ref w_LESS_OR_EQUAL), (.int (0 : Int32))])) _
              refine XS.lloadN X148.here hx rfl (hb hby at_53) rfl ?_
              show Steps p.tables e below (T148.setTop (mkF m 54 #[.val (.int x0), .val (.long x1), .second, .val (.long x2), .second, .val (.ref w_LESS_OR_EQUAL), .val (.ref w_GREATER), .val (.int (1 : Int32)), .unset, .unset] [(.long x1), (.ref w_LESS_OR_EQUAL), (.int (0 : Int32))])) _
              refine XS.lloadN X148.here hx rfl (hb hby at_54) rfl ?_
              show Steps p.tables e below (T148.setTop (mkF m 55 #[.val (.int x0), .val (.long x1), .second, .val (.long x2), .second, .val (.ref w_LESS_OR_EQUAL), .val (.ref w_GREATER), .val (.int (1 : Int32)), .unset, .unset] [(.long x1), (.long x1), (.ref w_LESS_OR_EQUAL), (.int (0 : Int32))])) _
              refine st149.trans ?_
              show Steps p.tables e below (T149.setTop (mkF m 58 #[.val (.int x0), .val (.long x1), .second, .val (.long x2), .second, .val (.ref w_LESS_OR_EQUAL), .val (.ref w_GREATER), .val (.int (1 : Int32)), .unset, .unset] [(.int (1 : Int32)), (.int (0 : Int32))])) _
              refine XS.icmpNo X149.here hx rfl (hb hby at_58) rfl (feq ((by decide) : ¬ ((0 : Int32) = (1 : Int32)))).1 ?_
              show Steps p.tables e below (T149.setTop (mkF m 61 #[.val (.int x0), .val (.long x1), .second, .val (.long x2), .second, .val (.ref w_LESS_OR_EQUAL), .val (.ref w_GREATER), .val (.int (1 : Int32)), .unset, .unset] [])) _
              refine XS.iconst X149.here hx rfl (hb hby at_61) ?_
              show Steps p.tables e below (T149.setTop (mkF m 62 #[.val (.int x0), .val (.long x1), .second, .val (.long x2), .second, .val (.ref w_LESS_OR_EQUAL), .val (.ref w_GREATER), .val (.int (1 : Int32)), .unset, .unset] [(.int (1 : Int32))])) _
              refine XS.goto X149.here hx rfl (pc0 := 62) (pc' := 66) rfl (hb hby at_62) (by decide) (by decide) ?_
              show Steps p.tables e below (T149.setTop (mkF m 66 #[.val (.int x0), .val (.long x1), .second, .val (.long x2), .second, .val (.ref w_LESS_OR_EQUAL), .val (.ref w_GREATER), .val (.int (1 : Int32)), .unset, .unset] [(.int (1 : Int32))])) _
              refine XS.istore X149.here hx rfl (hb hby at_66) rfl (l' := #[.val (.int x0), .val (.long x1), .second, .val (.long x2), .second, .val (.ref w_LESS_OR_EQUAL), .val (.ref w_GREATER), .val (.int (1 : Int32)), .val (.int (1 : Int32)), .unset]) rfl ?_
              show Steps p.tables e below (T149.setTop (mkF m 68 #[.val (.int x0), .val (.long x1), .second, .val (.long x2), .second, .val (.ref w_LESS_OR_EQUAL), .val (.ref w_GREATER), .val (.int (1 : Int32)), .val (.int (1 : Int32)), .unset] [])) _
              refine XS.aload X149.here hx rfl (hb hby at_68) rfl rfl ?_
              show Steps p.tables e below (T149.setTop (mkF m 70 #[.val (.int x0), .val (.long x1), .second, .val (.long x2), .second, .val (.ref w_LESS_OR_EQUAL), .val (.ref w_GREATER), .val (.int (1 : Int32)), .val (.int (1 : Int32)), .unset] [(.ref w_GREATER)])) _
              refine XS.lloadN X149.here hx rfl (hb hby at_70) rfl ?_
              show Steps p.tables e below (T149.setTop (mkF m 71 #[.val (.int x0), .val (.long x1), .second, .val (.long x2), .second, .val (.ref w_LESS_OR_EQUAL), .val (.ref w_GREATER), .val (.int (1 : Int32)), .val (.int (1 : Int32)), .unset] [(.long x2), (.ref w_GREATER)])) _
              refine XS.lloadN X149.here hx rfl (hb hby at_71) rfl ?_
              show Steps p.tables e below (T149.setTop (mkF m 72 #[.val (.int x0), .val (.long x1), .second, .val (.long x2), .second, .val (.ref w_LESS_OR_EQUAL), .val (.ref w_GREATER), .val (.int (1 : Int32)), .val (.int (1 : Int32)), .unset] [(.long x1), (.long x2), (.ref w_GREATER)])) _
              refine st150.trans ?_
              show Steps p.tables e below (T150.setTop (mkF m 75 #[.val (.int x0), .val (.long x1), .second, .val (.long x2), .second, .val (.ref w_LESS_OR_EQUAL), .val (.ref w_GREATER), .val (.int (1 : Int32)), .val (.int (1 : Int32)), .unset] [(.int (1 : Int32))])) _
              refine XS.aload X150.here hx rfl (hb hby at_75) rfl rfl ?_
              show Steps p.tables e below (T150.setTop (mkF m 77 #[.val (.int x0), .val (.long x1), .second, .val (.long x2), .second, .val (.ref w_LESS_OR_EQUAL), .val (.ref w_GREATER), .val (.int (1 : Int32)), .val (.int (1 : Int32)), .unset] [(.ref w_LESS_OR_EQUAL), (.int (1 : Int32))])) _
              refine XS.lloadN X150.here hx rfl (hb hby at_77) rfl ?_
              show Steps p.tables e below (T150.setTop (mkF m 78 #[.val (.int x0), .val (.long x1), .second, .val (.long x2), .second, .val (.ref w_LESS_OR_EQUAL), .val (.ref w_GREATER), .val (.int (1 : Int32)), .val (.int (1 : Int32)), .unset] [(.long x2), (.ref w_LESS_OR_EQUAL), (.int (1 : Int32))])) _
              refine XS.lloadN X150.here hx rfl (hb hby at_78) rfl ?_
              show Steps p.tables e below (T150.setTop (mkF m 79 #[.val (.int x0), .val (.long x1), .second, .val (.long x2), .second, .val (.ref w_LESS_OR_EQUAL), .val (.ref w_GREATER), .val (.int (1 : Int32)), .val (.int (1 : Int32)), .unset] [(.long x1), (.long x2), (.ref w_LESS_OR_EQUAL), (.int (1 : Int32))])) _
              refine st151.trans ?_
              show Steps p.tables e below (T151.setTop (mkF m 82 #[.val (.int x0), .val (.long x1), .second, .val (.long x2), .second, .val (.ref w_LESS_OR_EQUAL), .val (.ref w_GREATER), .val (.int (1 : Int32)), .val (.int (1 : Int32)), .unset] [(.int (0 : Int32)), (.int (1 : Int32))])) _
              refine XS.icmpNo X151.here hx rfl (hb hby at_82) rfl (feq ((by decide) : ¬ ((1 : Int32) = (0 : Int32)))).1 ?_
              show Steps p.tables e below (T151.setTop (mkF m 85 #[.val (.int x0), .val (.long x1), .second, .val (.long x2), .second, .val (.ref w_LESS_OR_EQUAL), .val (.ref w_GREATER), .val (.int (1 : Int32)), .val (.int (1 : Int32)), .unset] [])) _
              refine XS.iconst X151.here hx rfl (hb hby at_85) ?_
              show Steps p.tables e below (T151.setTop (mkF m 86 #[.val (.int x0), .val (.long x1), .second, .val (.long x2), .second, .val (.ref w_LESS_OR_EQUAL), .val (.ref w_GREATER), .val (.int (1 : Int32)), .val (.int (1 : Int32)), .unset] [(.int (1 : Int32))])) _
              refine XS.goto X151.here hx rfl (pc0 := 86) (pc' := 90) rfl (hb hby at_86) (by decide) (by decide) ?_
              show Steps p.tables e below (T151.setTop (mkF m 90 #[.val (.int x0), .val (.long x1), .second, .val (.long x2), .second, .val (.ref w_LESS_OR_EQUAL), .val (.ref w_GREATER), .val (.int (1 : Int32)), .val (.int (1 : Int32)), .unset] [(.int (1 : Int32))])) _
              refine XS.istore X151.here hx rfl (hb hby at_90) rfl (l' := #[.val (.int x0), .val (.long x1), .second, .val (.long x2), .second, .val (.ref w_LESS_OR_EQUAL), .val (.ref w_GREATER), .val (.int (1 : Int32)), .val (.int (1 : Int32)), .val (.int (1 : Int32))]) rfl ?_
              show Steps p.tables e below (T151.setTop (mkF m 92 #[.val (.int x0), .val (.long x1), .second, .val (.long x2), .second, .val (.ref w_LESS_OR_EQUAL), .val (.ref w_GREATER), .val (.int (1 : Int32)), .val (.int (1 : Int32)), .val (.int (1 : Int32))] [])) _
              refine XS.iload X151.here hx rfl (hb hby at_92) rfl ?_
              show Steps p.tables e below (T151.setTop (mkF m 94 #[.val (.int x0), .val (.long x1), .second, .val (.long x2), .second, .val (.ref w_LESS_OR_EQUAL), .val (.ref w_GREATER), .val (.int (1 : Int32)), .val (.int (1 : Int32)), .val (.int (1 : Int32))] [(.int (1 : Int32))])) _
              refine XS.ifNo X151.here hx rfl (hb hby at_94) rfl ((if0 _ _).trans (feq ((by decide) : ¬ ((1 : Int32) = (0 : Int32)))).1) ?_
              show Steps p.tables e below (T151.setTop (mkF m 97 #[.val (.int x0), .val (.long x1), .second, .val (.long x2), .second, .val (.ref w_LESS_OR_EQUAL), .val (.ref w_GREATER), .val (.int (1 : Int32)), .val (.int (1 : Int32)), .val (.int (1 : Int32))] [])) _
              refine XS.iload X151.here hx rfl (hb hby at_97) rfl ?_
              show Steps p.tables e below (T151.setTop (mkF m 99 #[.val (.int x0), .val (.long x1), .second, .val (.long x2), .second, .val (.ref w_LESS_OR_EQUAL), .val (.ref w_GREATER), .val (.int (1 : Int32)), .val (.int (1 : Int32)), .val (.int (1 : Int32))] [(.int (1 : Int32))])) _
              refine XS.ifNo X151.here hx rfl (hb hby at_99) rfl ((if0 _ _).trans (feq ((by decide) : ¬ ((1 : Int32) = (0 : Int32)))).1) ?_
              show Steps p.tables e below (T151.setTop (mkF m 102 #[.val (.int x0), .val (.long x1), .second, .val (.long x2), .second, .val (.ref w_LESS_OR_EQUAL), .val (.ref w_GREATER), .val (.int (1 : Int32)), .val (.int (1 : Int32)), .val (.int (1 : Int32))] [])) _
              refine XS.iload X151.here hx rfl (hb hby at_102) rfl ?_
              show Steps p.tables e below (T151.setTop (mkF m 104 #[.val (.int x0), .val (.long x1), .second, .val (.long x2), .second, .val (.ref w_LESS_OR_EQUAL), .val (.ref w_GREATER), .val (.int (1 : Int32)), .val (.int (1 : Int32)), .val (.int (1 : Int32))] [(.int (1 : Int32))])) _
              refine XS.ifNo X151.here hx rfl (hb hby at_104) rfl ((if0 _ _).trans (feq ((by decide) : ¬ ((1 : Int32) = (0 : Int32)))).1) ?_
              show Steps p.tables e below (T151.setTop (mkF m 107 #[.val (.int x0), .val (.long x1), .second, .val (.long x2), .second, .val (.ref w_LESS_OR_EQUAL), .val (.ref w_GREATER), .val (.int (1 : Int32)), .val (.int (1 : Int32)), .val (.int (1 : Int32))] [])) _
              refine XS.iconst X151.here hx rfl (hb hby at_107) ?_
              show Steps p.tables e below (T151.setTop (mkF m 108 #[.val (.int x0), .val (.long x1), .second, .val (.long x2), .second, .val (.ref w_LESS_OR_EQUAL), .val (.ref w_GREATER), .val (.int (1 : Int32)), .val (.int (1 : Int32)), .val (.int (1 : Int32))] [(.int (1 : Int32))])) _
              refine XS.goto X151.here hx rfl (pc0 := 108) (pc' := 112) rfl (hb hby at_108) (by decide) (by decide) ?_
              exact kk)
            obtain ⟨fs, hr, hrun, hended, hW, hsame⟩ := X151.leave (v := some (.int (1 : Int32))) (fun h => by rw [Bd.returns] at h; cases h)
            refine ⟨_, _, pre152 _ ?_, hrun, hended, _, _, rfl, ?_, ⟨_, rfl⟩, hW, hsame.mono (by decide) (by decide)⟩
            · exact retN X151 hx (t := .boolean) Bd.returns (by simp) (hb hby at_112) hr
            · exact ⟨rfl, N151⟩
          ·
            by_cases hc153 : (lcmpW x1 x2) = (0 : Int32)
            ·
              obtain ⟨cq154, kq154, q154a, q154b, q154c⟩ := isOf hZ e143 E_w_GREATER
              obtain ⟨_, _, ⟨T154, L154, k154, n154⟩, -, X154, ⟨Lc154, hQ154, l154, y154, z154⟩, st154⟩ := X143.virtualBack hx (y := (⟨"com/example/latticut/latticut/lang/Comparison", "test", "(JJ)Z"⟩ : MethodName)) (z := (⟨"com/example/latticut/latticut/lang/Comparison", "test", "(JJ)Z"⟩ : MethodName)) hown (mvT hZ (hw _ (List.mem_of_getElem? (i := 16) rfl))) (mvT hZ (hw _ (List.mem_of_getElem? (i := 17) rfl))) (notFace_of_selects (args := #[]) (mvT hZ (hw _ (List.mem_of_getElem? (i := 19) rfl)))) (mvT hZ (hw _ (List.mem_of_getElem? (i := 19) rfl))) (mvT hZ (hw _ (List.mem_of_getElem? (i := 18) rfl))) (by decide) (backOf (W := 0) (rm19 l Z a0 hw [] w_GREATER x1 x2 h0 n0 Z0 hc145 hc153 F_whenEqual_w_GREATER E_w_GREATER) hZ (hw _ (List.mem_of_getElem? (i := 20) rfl)) (hw _ (List.mem_of_getElem? (i := 6) rfl)) (by decide) (by decide)) q154a q154c (g := (mkF m 24 #[.val (.int x0), .val (.long x1), .second, .val (.long x2), .second, .val (.ref w_LESS_OR_EQUAL), .val (.ref w_GREATER), .unset, .unset, .unset] [(.long x2), (.long x1), (.ref w_GREATER)])) rfl (by rw [hml]; rfl) (Steps.refl _) (argsL := [(.long x1), (.long x2)]) (rest := []) (lenOf pd_4 rfl) rfl (by show 2 * 0 + _ ≤ _; exact Nat.le_of_eq rfl) (hb hby at_24) (fun _ _ => ⟨rfl, e143, (by decide : 0 + 0 ≤ _), (by decide : 0 + 0 ≤ _)⟩)
              dsimp only [Pt.U, Pt.locs, Pt.cells, Pt.slots] at X154 l154 y154 z154 st154 hQ154
              subst l154 y154 z154
              obtain ⟨rfl, N154q, e154⟩ := hQ154
              have N154 := Fr.app N143 N154q
              obtain ⟨cq155, kq155, q155a, q155b, q155c⟩ := isOf hZ e154 E_w_LESS_OR_EQUAL
              obtain ⟨_, _, ⟨T155, L155, k155, n155⟩, -, X155, ⟨Lc155, hQ155, l155, y155, z155⟩, st155⟩ := X154.virtualBack hx (y := (⟨"com/example/latticut/latticut/lang/Comparison", "test", "(JJ)Z"⟩ : MethodName)) (z := (⟨"com/example/latticut/latticut/lang/Comparison", "test", "(JJ)Z"⟩ : MethodName)) hown (mvT hZ (hw _ (List.mem_of_getElem? (i := 16) rfl))) (mvT hZ (hw _ (List.mem_of_getElem? (i := 17) rfl))) (notFace_of_selects (args := #[]) (mvT hZ (hw _ (List.mem_of_getElem? (i := 19) rfl)))) (mvT hZ (hw _ (List.mem_of_getElem? (i := 19) rfl))) (mvT hZ (hw _ (List.mem_of_getElem? (i := 18) rfl))) (by decide) (backOf (W := 1) (rm20 l Z a0 hw [] w_LESS_OR_EQUAL x1 x2 h0 n0 Z0 hc145 hc153 F_whenEqual_w_LESS_OR_EQUAL E_w_LESS_OR_EQUAL) hZ (hw _ (List.mem_of_getElem? (i := 20) rfl)) (hw _ (List.mem_of_getElem? (i := 6) rfl)) (by decide) (by decide)) q155a q155c (g := (mkF m 31 #[.val (.int x0), .val (.long x1), .second, .val (.long x2), .second, .val (.ref w_LESS_OR_EQUAL), .val (.ref w_GREATER), .unset, .unset, .unset] [(.long x2), (.long x1), (.ref w_LESS_OR_EQUAL), (.int (0 : Int32))])) rfl (by rw [hml]; rfl) (Steps.refl _) (argsL := [(.long x1), (.long x2)]) (rest := [(.int (0 : Int32))]) (lenOf pd_4 rfl) rfl (by show 2 * 0 + _ ≤ _; exact Nat.le_of_eq rfl) (hb hby at_31) (fun _ _ => ⟨rfl, e154, (by decide : 0 + 0 ≤ _), (by decide : 0 + 0 ≤ _)⟩)
              dsimp only [Pt.U, Pt.locs, Pt.cells, Pt.slots] at X155 l155 y155 z155 st155 hQ155
              subst l155 y155 z155
              obtain ⟨rfl, N155q, e155⟩ := hQ155
              have N155 := Fr.app N154 N155q
              obtain ⟨cq156, kq156, q156a, q156b, q156c⟩ := isOf hZ e155 E_w_GREATER
              obtain ⟨_, _, ⟨T156, L156, k156, n156⟩, -, X156, ⟨Lc156, hQ156, l156, y156, z156⟩, st156⟩ := X155.virtualBack hx (y := (⟨"com/example/latticut/latticut/lang/Comparison", "test", "(JJ)Z"⟩ : MethodName)) (z := (⟨"com/example/latticut/latticut/lang/Comparison", "test", "(JJ)Z"⟩ : MethodName)) hown (mvT hZ (hw _ (List.mem_of_getElem? (i := 16) rfl))) (mvT hZ (hw _ (List.mem_of_getElem? (i := 17) rfl))) (notFace_of_selects (args := #[]) (mvT hZ (hw _ (List.mem_of_getElem? (i := 19) rfl)))) (mvT hZ (hw _ (List.mem_of_getElem? (i := 19) rfl))) (mvT hZ (hw _ (List.mem_of_getElem? (i := 18) rfl))) (by decide) (backOf (W := 0) (rm10 l Z a0 hw [] w_GREATER x1 h0 n0 Z0 ((own_ar4 x1 x2 hc145 hc153)) ((own_ar5 x1 x2 hc145 hc153)) F_whenEqual_w_GREATER E_w_GREATER) hZ (hw _ (List.mem_of_getElem? (i := 20) rfl)) (hw _ (List.mem_of_getElem? (i := 6) rfl)) (by decide) (by decide)) q156a q156c (g := (mkF m 48 #[.val (.int x0), .val (.long x1), .second, .val (.long x2), .second, .val (.ref w_LESS_OR_EQUAL), .val (.ref w_GREATER), .val (.int (1 : Int32)), .unset, .unset] [(.long x1), (.long x1), (.ref w_GREATER)])) rfl (by rw [hml]; rfl) (Steps.refl _) (argsL := [(.long x1), (.long x1)]) (rest := []) (lenOf pd_4 rfl) rfl (by show 2 * 0 + _ ≤ _; exact Nat.le_of_eq rfl) (hb hby at_48) (fun _ _ => ⟨rfl, e155, (by decide : 0 + 0 ≤ _), (by decide : 0 + 0 ≤ _)⟩)
              dsimp only [Pt.U, Pt.locs, Pt.cells, Pt.slots] at X156 l156 y156 z156 st156 hQ156
              subst l156 y156 z156
              obtain ⟨rfl, N156q, e156⟩ := hQ156
              have N156 := Fr.app N155 N156q
              obtain ⟨cq157, kq157, q157a, q157b, q157c⟩ := isOf hZ e156 E_w_LESS_OR_EQUAL
              obtain ⟨_, _, ⟨T157, L157, k157, n157⟩, -, X157, ⟨Lc157, hQ157, l157, y157, z157⟩, st157⟩ := X156.virtualBack hx (y := (⟨"com/example/latticut/latticut/lang/Comparison", "test", "(JJ)Z"⟩ : MethodName)) (z := (⟨"com/example/latticut/latticut/lang/Comparison", "test", "(JJ)Z"⟩ : MethodName)) hown (mvT hZ (hw _ (List.mem_of_getElem? (i := 16) rfl))) (mvT hZ (hw _ (List.mem_of_getElem? (i := 17) rfl))) (notFace_of_selects (args := #[]) (mvT hZ (hw _ (List.mem_of_getElem? (i := 19) rfl)))) (mvT hZ (hw _ (List.mem_of_getElem? (i := 19) rfl))) (mvT hZ (hw _ (List.mem_of_getElem? (i := 18) rfl))) (by decide) (backOf (W := 1) (rm12 l Z a0 hw [] w_LESS_OR_EQUAL x1 h0 n0 Z0 ((own_ar4 x1 x2 hc145 hc153)) ((own_ar5 x1 x2 hc145 hc153)) F_whenEqual_w_LESS_OR_EQUAL E_w_LESS_OR_EQUAL) hZ (hw _ (List.mem_of_getElem? (i := 20) rfl)) (hw _ (List.mem_of_getElem? (i := 6) rfl)) (by decide) (by decide)) q157a q157c (g := (mkF m 55 #[.val (.int x0), .val (.long x1), .second, .val (.long x2), .second, .val (.ref w_LESS_OR_EQUAL), .val (.ref w_GREATER), .val (.int (1 : Int32)), .unset, .unset] [(.long x1), (.long x1), (.ref w_LESS_OR_EQUAL), (.int (0 : Int32))])) rfl (by rw [hml]; rfl) (Steps.refl _) (argsL := [(.long x1), (.long x1)]) (rest := [(.int (0 : Int32))]) (lenOf pd_4 rfl) rfl (by show 2 * 0 + _ ≤ _; exact Nat.le_of_eq rfl) (hb hby at_55) (fun _ _ => ⟨rfl, e156, (by decide : 0 + 0 ≤ _), (by decide : 0 + 0 ≤ _)⟩)
              dsimp only [Pt.U, Pt.locs, Pt.cells, Pt.slots] at X157 l157 y157 z157 st157 hQ157
              subst l157 y157 z157
              obtain ⟨rfl, N157q, e157⟩ := hQ157
              have N157 := Fr.app N156 N157q
              obtain ⟨cq158, kq158, q158a, q158b, q158c⟩ := isOf hZ e157 E_w_GREATER
              obtain ⟨_, _, ⟨T158, L158, k158, n158⟩, -, X158, ⟨Lc158, hQ158, l158, y158, z158⟩, st158⟩ := X157.virtualBack hx (y := (⟨"com/example/latticut/latticut/lang/Comparison", "test", "(JJ)Z"⟩ : MethodName)) (z := (⟨"com/example/latticut/latticut/lang/Comparison", "test", "(JJ)Z"⟩ : MethodName)) hown (mvT hZ (hw _ (List.mem_of_getElem? (i := 16) rfl))) (mvT hZ (hw _ (List.mem_of_getElem? (i := 17) rfl))) (notFace_of_selects (args := #[]) (mvT hZ (hw _ (List.mem_of_getElem? (i := 19) rfl)))) (mvT hZ (hw _ (List.mem_of_getElem? (i := 19) rfl))) (mvT hZ (hw _ (List.mem_of_getElem? (i := 18) rfl))) (by decide) (backOf (W := 0) (rm19 l Z a0 hw [] w_GREATER x2 x1 h0 n0 Z0 ((own_ar6 x1 x2 hc145 hc153)) ((own_ar7 x1 x2 hc145 hc153)) F_whenEqual_w_GREATER E_w_GREATER) hZ (hw _ (List.mem_of_getElem? (i := 20) rfl)) (hw _ (List.mem_of_getElem? (i := 6) rfl)) (by decide) (by decide)) q158a q158c (g := (mkF m 72 #[.val (.int x0), .val (.long x1), .second, .val (.long x2), .second, .val (.ref w_LESS_OR_EQUAL), .val (.ref w_GREATER), .val (.int (1 : Int32)), .val (.int (1 : Int32)), .unset] [(.long x1), (.long x2), (.ref w_GREATER)])) rfl (by rw [hml]; rfl) (Steps.refl _) (argsL := [(.long x2), (.long x1)]) (rest := []) (lenOf pd_4 rfl) rfl (by show 2 * 0 + _ ≤ _; exact Nat.le_of_eq rfl) (hb hby at_72) (fun _ _ => ⟨rfl, e157, (by decide : 0 + 0 ≤ _), (by decide : 0 + 0 ≤ _)⟩)
              dsimp only [Pt.U, Pt.locs, Pt.cells, Pt.slots] at X158 l158 y158 z158 st158 hQ158
              subst l158 y158 z158
              obtain ⟨rfl, N158q, e158⟩ := hQ158
              have N158 := Fr.app N157 N158q
              obtain ⟨cq159, kq159, q159a, q159b, q159c⟩ := isOf hZ e158 E_w_LESS_OR_EQUAL
              obtain ⟨_, _, ⟨T159, L159, k159, n159⟩, -, X159, ⟨Lc159, hQ159, l159, y159, z159⟩, st159⟩ := X158.virtualBack hx (y := (⟨"com/example/latticut/latticut/lang/Comparison", "test", "(JJ)Z"⟩ : MethodName)) (z := (⟨"com/example/latticut/latticut/lang/Comparison", "test", "(JJ)Z"⟩ : MethodName)) hown (mvT hZ (hw _ (List.mem_of_getElem? (i := 16) rfl))) (mvT hZ (hw _ (List.mem_of_getElem? (i := 17) rfl))) (notFace_of_selects (args := #[]) (mvT hZ (hw _ (List.mem_of_getElem? (i := 19) rfl)))) (mvT hZ (hw _ (List.mem_of_getElem? (i := 19) rfl))) (mvT hZ (hw _ (List.mem_of_getElem? (i := 18) rfl))) (by decide) (backOf (W := 1) (rm20 l Z a0 hw [] w_LESS_OR_EQUAL x2 x1 h0 n0 Z0 ((own_ar6 x1 x2 hc145 hc153)) ((own_ar7 x1 x2 hc145 hc153)) F_whenEqual_w_LESS_OR_EQUAL E_w_LESS_OR_EQUAL) hZ (hw _ (List.mem_of_getElem? (i := 20) rfl)) (hw _ (List.mem_of_getElem? (i := 6) rfl)) (by decide) (by decide)) q159a q159c (g := (mkF m 79 #[.val (.int x0), .val (.long x1), .second, .val (.long x2), .second, .val (.ref w_LESS_OR_EQUAL), .val (.ref w_GREATER), .val (.int (1 : Int32)), .val (.int (1 : Int32)), .unset] [(.long x1), (.long x2), (.ref w_LESS_OR_EQUAL), (.int (0 : Int32))])) rfl (by rw [hml]; rfl) (Steps.refl _) (argsL := [(.long x2), (.long x1)]) (rest := [(.int (0 : Int32))]) (lenOf pd_4 rfl) rfl (by show 2 * 0 + _ ≤ _; exact Nat.le_of_eq rfl) (hb hby at_79) (fun _ _ => ⟨rfl, e158, (by decide : 0 + 0 ≤ _), (by decide : 0 + 0 ≤ _)⟩)
              dsimp only [Pt.U, Pt.locs, Pt.cells, Pt.slots] at X159 l159 y159 z159 st159 hQ159
              subst l159 y159 z159
              obtain ⟨rfl, N159q, e159⟩ := hQ159
              have N159 := Fr.app N158 N159q
              have pre160 : ∀ t, Steps p.tables e below (T159.setTop (mkF m 112 #[.val (.int x0), .val (.long x1), .second, .val (.long x2), .second, .val (.ref w_LESS_OR_EQUAL), .val (.ref w_GREATER), .val (.int (1 : Int32)), .val (.int (1 : Int32)), .val (.int (1 : Int32))] [(.int (1 : Int32))])) t → Steps p.tables e below (s₁.setTop (entryFrame m #[(.int x0), (.long x1), (.long x2)] maxLocals)) t := fun t kk => pre144 t (by
                show Steps p.tables e below (T143.setTop (mkF m 24 #[.val (.int x0), .val (.long x1), .second, .val (.long x2), .second, .val (.ref w_LESS_OR_EQUAL), .val (.ref w_GREATER), .unset, .unset, .unset] [(.long x2), (.long x1), (.ref w_GREATER)])) _
                refine st154.trans ?_
                show Steps p.tables e below (T154.setTop (mkF m 27 #[.val (.int x0), .val (.long x1), .second, .val (.long x2), .second, .val (.ref w_LESS_OR_EQUAL), .val (.ref w_GREATER), .unset, .unset, .unset] [(.int (0 : Int32))])) _
                refine XS.aload X154.here hx rfl (hb hby at_27) rfl rfl ?_
                show Steps p.tables e below (T154.setTop (mkF m 29 #[.val (.int x0), .val (.long x1), .second, .val (.long x2), .second, .val (.ref w_LESS_OR_EQUAL), .val (.ref w_GREATER), .unset, .unset, .unset] [(.ref w_LESS_OR_EQUAL), (.int (0 : Int32))])) _
                refine XS.lloadN X154.here hx rfl (hb hby at_29) rfl ?_
                show Steps p.tables e below (T154.setTop (mkF m 30 #[.val (.int x0), .val (.long x1), .second, .val (.long x2), .second, .val (.ref w_LESS_OR_EQUAL), .val (.ref w_GREATER), .unset, .unset, .unset] [(.long x1), (.ref w_LESS_OR_EQUAL), (.int (0 : Int32))])) _
                refine XS.lloadN X154.here hx rfl (hb hby at_30) rfl ?_
                show Steps p.tables e below (T154.setTop (mkF m 31 #[.val (.int x0), .val (.long x1), .second, .val (.long x2), .second, .val (.ref w_LESS_OR_EQUAL), .val (.ref w_GREATER), .unset, .unset, .unset] [(.long x2), (.long x1), (.ref w_LESS_OR_EQUAL), (.int (0 : Int32))])) _
                refine st155.trans ?_
                show Steps p.tables e below (T155.setTop (mkF m 34 #[.val (.int x0), .val (.long x1), .second, .val (.long x2), .second, .val (.ref w_LESS_OR_EQUAL), .val (.ref w_GREATER), .unset, .unset, .unset] [(.int (1 : Int32)), (.int (0 : Int32))])) _
                refine XS.icmpNo X155.here hx rfl (hb hby at_34) rfl (feq ((by decide) : ¬ ((0 : Int32) = (1 : Int32)))).1 ?_
                show Steps p.tables e below (T155.setTop (mkF m 37 #[.val (.int x0), .val (.long x1), .second, .val (.long x2), .second, .val (.ref w_LESS_OR_EQUAL), .val (.ref w_GREATER), .unset, .unset, .unset] [])) _
                refine XS.iconst X155.here hx rfl (hb hby at_37) ?_
                show Steps p.tables e below (T155.setTop (mkF m 38 #[.val (.int x0), .val (.long x1), .second, .val (.long x2), .second, .val (.ref w_LESS_OR_EQUAL), .val (.ref w_GREATER), .unset, .unset, .unset] [(.int (1 : Int32))])) _
                refine XS.goto X155.here hx rfl (pc0 := 38) (pc' := 42) rfl (hb hby at_38) (by decide) (by decide) ?_
                show Steps p.tables e below (T155.setTop (mkF m 42 #[.val (.int x0), .val (.long x1), .second, .val (.long x2), .second, .val (.ref w_LESS_OR_EQUAL), .val (.ref w_GREATER), .unset, .unset, .unset] [(.int (1 : Int32))])) _
                refine XS.istore X155.here hx rfl (hb hby at_42) rfl (l' := #[.val (.int x0), .val (.long x1), .second, .val (.long x2), .second, .val (.ref w_LESS_OR_EQUAL), .val (.ref w_GREATER), .val (.int (1 : Int32)), .unset, .unset]) rfl ?_
                show Steps p.tables e below (T155.setTop (mkF m 44 #[.val (.int x0), .val (.long x1), .second, .val (.long x2), .second, .val (.ref w_LESS_OR_EQUAL), .val (.ref w_GREATER), .val (.int (1 : Int32)), .unset, .unset] [])) _
                refine XS.aload X155.here hx rfl (hb hby at_44) rfl rfl ?_
                show Steps p.tables e below (T155.setTop (mkF m 46 #[.val (.int x0), .val (.long x1), .second, .val (.long x2), .second, .val (.ref w_LESS_OR_EQUAL), .val (.ref w_GREATER), .val (.int (1 : Int32)), .unset, .unset] [(.ref w_GREATER)])) _
                refine XS.lloadN X155.here hx rfl (hb hby at_46) rfl ?_
                show Steps p.tables e below (T155.setTop (mkF m 47 #[.val (.int x0), .val (.long x1), .second, .val (.long x2), .second, .val (.ref w_LESS_OR_EQUAL), .val (.ref w_GREATER), .val (.int (1 : Int32)), .unset, .unset] [(.long x1), (.ref w_GREATER)])) _
                refine XS.lloadN X155.here hx rfl (hb hby at_47) rfl ?_
                show Steps p.tables e below (T155.setTop (mkF m 48 #[.val (.int x0), .val (.long x1), .second, .val (.long x2), .second, .val (.ref w_LESS_OR_EQUAL), .val (.ref w_GREATER), .val (.int (1 : Int32)), .unset, .unset] [(.long x1), (.long x1), (.ref w_GREATER)])) _
                refine st156.trans ?_
                show Steps p.tables e below (T156.setTop (mkF m 51 #[.val (.int x0), .val (.long x1), .second, .val (.long x2), .second, .val (.ref w_LESS_OR_EQUAL), .val (.ref w_GREATER), .val (.int (1 : Int32)), .unset, .unset] [(.int (0 : Int32))])) _
                refine XS.aload X156.here hx rfl (hb hby at_51) rfl rfl ?_
                show Steps p.tables e below (T156.setTop (mkF m 53 #[.val (.int x0), .val (.long x1), .second, .val (.long x2), .second, .val (.ref w_LESS_OR_EQUAL), .val (.ref w_GREATER), .val (.int (1 : Int32)), .unset, .unset] [(.ref w_LESS_OR_EQUAL), (.int (0 : Int32))])) _
                refine XS.lloadN X156.here hx rfl (hb hby at_53) rfl ?_
                show Steps p.tables e below (T156.setTop (mkF m 54 #[.val (.int x0), .val (.long x1), .second, .val (.long x2), .second, .val (.ref w_LESS_OR_EQUAL), .val (.ref w_GREATER), .val (.int (1 : Int32)), .unset, .unset] [(.long x1), (.ref w_LESS_OR_EQUAL), (.int (0 : Int32))])) _
                refine XS.lloadN X156.here hx rfl (hb hby at_54) rfl ?_
                show Steps p.tables e below (T156.setTop (mkF m 55 #[.val (.int x0), .val (.long x1), .second, .val (.long x2), .second, .val (.ref w_LESS_OR_EQUAL), .val (.ref w_GREATER), .val (.int (1 : Int32)), .unset, .unset] [(.long x1), (.long x1), (.ref w_LESS_OR_EQUAL), (.int (0 : Int32))])) _
                refine st157.trans ?_
                show Steps p.tables e below (T157.setTop (mkF m 58 #[.val (.int x0), .val (.long x1), .second, .val (.long x2), .second, .val (.ref w_LESS_OR_EQUAL), .val (.ref w_GREATER), .val (.int (1 : Int32)), .unset, .unset] [(.int (1 : Int32)), (.int (0 : Int32))])) _
                refine XS.icmpNo X157.here hx rfl (hb hby at_58) rfl (feq ((by decide) : ¬ ((0 : Int32) = (1 : Int32)))).1 ?_
                show Steps p.tables e below (T157.setTop (mkF m 61 #[.val (.int x0), .val (.long x1), .second, .val (.long x2), .second, .val (.ref w_LESS_OR_EQUAL), .val (.ref w_GREATER), .val (.int (1 : Int32)), .unset, .unset] [])) _
                refine XS.iconst X157.here hx rfl (hb hby at_61) ?_
                show Steps p.tables e below (T157.setTop (mkF m 62 #[.val (.int x0), .val (.long x1), .second, .val (.long x2), .second, .val (.ref w_LESS_OR_EQUAL), .val (.ref w_GREATER), .val (.int (1 : Int32)), .unset, .unset] [(.int (1 : Int32))])) _
                refine XS.goto X157.here hx rfl (pc0 := 62) (pc' := 66) rfl (hb hby at_62) (by decide) (by decide) ?_
                show Steps p.tables e below (T157.setTop (mkF m 66 #[.val (.int x0), .val (.long x1), .second, .val (.long x2), .second, .val (.ref w_LESS_OR_EQUAL), .val (.ref w_GREATER), .val (.int (1 : Int32)), .unset, .unset] [(.int (1 : Int32))])) _
                refine XS.istore X157.here hx rfl (hb hby at_66) rfl (l' := #[.val (.int x0), .val (.long x1), .second, .val (.long x2), .second, .val (.ref w_LESS_OR_EQUAL), .val (.ref w_GREATER), .val (.int (1 : Int32)), .val (.int (1 : Int32)), .unset]) rfl ?_
                show Steps p.tables e below (T157.setTop (mkF m 68 #[.val (.int x0), .val (.long x1), .second, .val (.long x2), .second, .val (.ref w_LESS_OR_EQUAL), .val (.ref w_GREATER), .val (.int (1 : Int32)), .val (.int (1 : Int32)), .unset] [])) _
                refine XS.aload X157.here hx rfl (hb hby at_68) rfl rfl ?_
                show Steps p.tables e below (T157.setTop (mkF m 70 #[.val (.int x0), .val (.long x1), .second, .val (.long x2), .second, .val (.ref w_LESS_OR_EQUAL), .val (.ref w_GREATER), .val (.int (1 : Int32)), .val (.int (1 : Int32)), .unset] [(.ref w_GREATER)])) _
                refine XS.lloadN X157.here hx rfl (hb hby at_70) rfl ?_
                show Steps p.tables e below (T157.setTop (mkF m 71 #[.val (.int x0), .val (.long x1), .second, .val (.long x2), .second, .val (.ref w_LESS_OR_EQUAL), .val (.ref w_GREATER), .val (.int (1 : Int32)), .val (.int (1 : Int32)), .unset] [(.long x2), (.ref w_GREATER)])) _
                refine XS.lloadN X157.here hx rfl (hb hby at_71) rfl ?_
                show Steps p.tables e below (T157.setTop (mkF m 72 #[.val (.int x0), .val (.long x1), .second, .val (.long x2), .second, .val (.ref w_LESS_OR_EQUAL), .val (.ref w_GREATER), .val (.int (1 : Int32)), .val (.int (1 : Int32)), .unset] [(.long x1), (.long x2), (.ref w_GREATER)])) _
                refine st158.trans ?_
                show Steps p.tables e below (T158.setTop (mkF m 75 #[.val (.int x0), .val (.long x1), .second, .val (.long x2), .second, .val (.ref w_LESS_OR_EQUAL), .val (.ref w_GREATER), .val (.int (1 : Int32)), .val (.int (1 : Int32)), .unset] [(.int (0 : Int32))])) _
                refine XS.aload X158.here hx rfl (hb hby at_75) rfl rfl ?_
                show Steps p.tables e below (T158.setTop (mkF m 77 #[.val (.int x0), .val (.long x1), .second, .val (.long x2), .second, .val (.ref w_LESS_OR_EQUAL), .val (.ref w_GREATER), .val (.int (1 : Int32)), .val (.int (1 : Int32)), .unset] [(.ref w_LESS_OR_EQUAL), (.int (0 : Int32))])) _
                refine XS.lloadN X158.here hx rfl (hb hby at_77) rfl ?_
                show Steps p.tables e below (T158.setTop (mkF m 78 #[.val (.int x0), .val (.long x1), .second, .val (.long x2), .second, .val (.ref w_LESS_OR_EQUAL), .val (.ref w_GREATER), .val (.int (1 : Int32)), .val (.int (1 : Int32)), .unset] [(.long x2), (.ref w_LESS_OR_EQUAL), (.int (0 : Int32))])) _
                refine XS.lloadN X158.here hx rfl (hb hby at_78) rfl ?_
                show Steps p.tables e below (T158.setTop (mkF m 79 #[.val (.int x0), .val (.long x1), .second, .val (.long x2), .second, .val (.ref w_LESS_OR_EQUAL), .val (.ref w_GREATER), .val (.int (1 : Int32)), .val (.int (1 : Int32)), .unset] [(.long x1), (.long x2), (.ref w_LESS_OR_EQUAL), (.int (0 : Int32))])) _
                refine st159.trans ?_
                show Steps p.tables e below (T159.setTop (mkF m 82 #[.val (.int x0), .val (.long x1), .second, .val (.long x2), .second, .val (.ref w_LESS_OR_EQUAL), .val (.ref w_GREATER), .val (.int (1 : Int32)), .val (.int (1 : Int32)), .unset] [(.int (1 : Int32)), (.int (0 : Int32))])) _
                refine XS.icmpNo X159.here hx rfl (hb hby at_82) rfl (feq ((by decide) : ¬ ((0 : Int32) = (1 : Int32)))).1 ?_
                show Steps p.tables e below (T159.setTop (mkF m 85 #[.val (.int x0), .val (.long x1), .second, .val (.long x2), .second, .val (.ref w_LESS_OR_EQUAL), .val (.ref w_GREATER), .val (.int (1 : Int32)), .val (.int (1 : Int32)), .unset] [])) _
                refine XS.iconst X159.here hx rfl (hb hby at_85) ?_
                show Steps p.tables e below (T159.setTop (mkF m 86 #[.val (.int x0), .val (.long x1), .second, .val (.long x2), .second, .val (.ref w_LESS_OR_EQUAL), .val (.ref w_GREATER), .val (.int (1 : Int32)), .val (.int (1 : Int32)), .unset] [(.int (1 : Int32))])) _
                refine XS.goto X159.here hx rfl (pc0 := 86) (pc' := 90) rfl (hb hby at_86) (by decide) (by decide) ?_
                show Steps p.tables e below (T159.setTop (mkF m 90 #[.val (.int x0), .val (.long x1), .second, .val (.long x2), .second, .val (.ref w_LESS_OR_EQUAL), .val (.ref w_GREATER), .val (.int (1 : Int32)), .val (.int (1 : Int32)), .unset] [(.int (1 : Int32))])) _
                refine XS.istore X159.here hx rfl (hb hby at_90) rfl (l' := #[.val (.int x0), .val (.long x1), .second, .val (.long x2), .second, .val (.ref w_LESS_OR_EQUAL), .val (.ref w_GREATER), .val (.int (1 : Int32)), .val (.int (1 : Int32)), .val (.int (1 : Int32))]) rfl ?_
                show Steps p.tables e below (T159.setTop (mkF m 92 #[.val (.int x0), .val (.long x1), .second, .val (.long x2), .second, .val (.ref w_LESS_OR_EQUAL), .val (.ref w_GREATER), .val (.int (1 : Int32)), .val (.int (1 : Int32)), .val (.int (1 : Int32))] [])) _
                refine XS.iload X159.here hx rfl (hb hby at_92) rfl ?_
                show Steps p.tables e below (T159.setTop (mkF m 94 #[.val (.int x0), .val (.long x1), .second, .val (.long x2), .second, .val (.ref w_LESS_OR_EQUAL), .val (.ref w_GREATER), .val (.int (1 : Int32)), .val (.int (1 : Int32)), .val (.int (1 : Int32))] [(.int (1 : Int32))])) _
                refine XS.ifNo X159.here hx rfl (hb hby at_94) rfl ((if0 _ _).trans (feq ((by decide) : ¬ ((1 : Int32) = (0 : Int32)))).1) ?_
                show Steps p.tables e below (T159.setTop (mkF m 97 #[.val (.int x0), .val (.long x1), .second, .val (.long x2), .second, .val (.ref w_LESS_OR_EQUAL), .val (.ref w_GREATER), .val (.int (1 : Int32)), .val (.int (1 : Int32)), .val (.int (1 : Int32))] [])) _
                refine XS.iload X159.here hx rfl (hb hby at_97) rfl ?_
                show Steps p.tables e below (T159.setTop (mkF m 99 #[.val (.int x0), .val (.long x1), .second, .val (.long x2), .second, .val (.ref w_LESS_OR_EQUAL), .val (.ref w_GREATER), .val (.int (1 : Int32)), .val (.int (1 : Int32)), .val (.int (1 : Int32))] [(.int (1 : Int32))])) _
                refine XS.ifNo X159.here hx rfl (hb hby at_99) rfl ((if0 _ _).trans (feq ((by decide) : ¬ ((1 : Int32) = (0 : Int32)))).1) ?_
                show Steps p.tables e below (T159.setTop (mkF m 102 #[.val (.int x0), .val (.long x1), .second, .val (.long x2), .second, .val (.ref w_LESS_OR_EQUAL), .val (.ref w_GREATER), .val (.int (1 : Int32)), .val (.int (1 : Int32)), .val (.int (1 : Int32))] [])) _
                refine XS.iload X159.here hx rfl (hb hby at_102) rfl ?_
                show Steps p.tables e below (T159.setTop (mkF m 104 #[.val (.int x0), .val (.long x1), .second, .val (.long x2), .second, .val (.ref w_LESS_OR_EQUAL), .val (.ref w_GREATER), .val (.int (1 : Int32)), .val (.int (1 : Int32)), .val (.int (1 : Int32))] [(.int (1 : Int32))])) _
                refine XS.ifNo X159.here hx rfl (hb hby at_104) rfl ((if0 _ _).trans (feq ((by decide) : ¬ ((1 : Int32) = (0 : Int32)))).1) ?_
                show Steps p.tables e below (T159.setTop (mkF m 107 #[.val (.int x0), .val (.long x1), .second, .val (.long x2), .second, .val (.ref w_LESS_OR_EQUAL), .val (.ref w_GREATER), .val (.int (1 : Int32)), .val (.int (1 : Int32)), .val (.int (1 : Int32))] [])) _
                refine XS.iconst X159.here hx rfl (hb hby at_107) ?_
                show Steps p.tables e below (T159.setTop (mkF m 108 #[.val (.int x0), .val (.long x1), .second, .val (.long x2), .second, .val (.ref w_LESS_OR_EQUAL), .val (.ref w_GREATER), .val (.int (1 : Int32)), .val (.int (1 : Int32)), .val (.int (1 : Int32))] [(.int (1 : Int32))])) _
                refine XS.goto X159.here hx rfl (pc0 := 108) (pc' := 112) rfl (hb hby at_108) (by decide) (by decide) ?_
                exact kk)
              obtain ⟨fs, hr, hrun, hended, hW, hsame⟩ := X159.leave (v := some (.int (1 : Int32))) (fun h => by rw [Bd.returns] at h; cases h)
              refine ⟨_, _, pre160 _ ?_, hrun, hended, _, _, rfl, ?_, ⟨_, rfl⟩, hW, hsame.mono (by decide) (by decide)⟩
              · exact retN X159 hx (t := .boolean) Bd.returns (by simp) (hb hby at_112) hr
              · exact ⟨rfl, N159⟩
            ·
              obtain ⟨cq161, kq161, q161a, q161b, q161c⟩ := isOf hZ e143 E_w_GREATER
              obtain ⟨_, _, ⟨T161, L161, k161, n161⟩, -, X161, ⟨Lc161, hQ161, l161, y161, z161⟩, st161⟩ := X143.virtualBack hx (y := (⟨"com/example/latticut/latticut/lang/Comparison", "test", "(JJ)Z"⟩ : MethodName)) (z := (⟨"com/example/latticut/latticut/lang/Comparison", "test", "(JJ)Z"⟩ : MethodName)) hown (mvT hZ (hw _ (List.mem_of_getElem? (i := 16) rfl))) (mvT hZ (hw _ (List.mem_of_getElem? (i := 17) rfl))) (notFace_of_selects (args := #[]) (mvT hZ (hw _ (List.mem_of_getElem? (i := 19) rfl)))) (mvT hZ (hw _ (List.mem_of_getElem? (i := 19) rfl))) (mvT hZ (hw _ (List.mem_of_getElem? (i := 18) rfl))) (by decide) (backOf (W := 0) (rm15 l Z a0 hw [] w_GREATER x1 x2 h0 n0 Z0 hc145 hc153 F_whenGreater_w_GREATER E_w_GREATER) hZ (hw _ (List.mem_of_getElem? (i := 20) rfl)) (hw _ (List.mem_of_getElem? (i := 6) rfl)) (by decide) (by decide)) q161a q161c (g := (mkF m 24 #[.val (.int x0), .val (.long x1), .second, .val (.long x2), .second, .val (.ref w_LESS_OR_EQUAL), .val (.ref w_GREATER), .unset, .unset, .unset] [(.long x2), (.long x1), (.ref w_GREATER)])) rfl (by rw [hml]; rfl) (Steps.refl _) (argsL := [(.long x1), (.long x2)]) (rest := []) (lenOf pd_4 rfl) rfl (by show 2 * 0 + _ ≤ _; exact Nat.le_of_eq rfl) (hb hby at_24) (fun _ _ => ⟨rfl, e143, (by decide : 0 + 0 ≤ _), (by decide : 0 + 0 ≤ _)⟩)
              dsimp only [Pt.U, Pt.locs, Pt.cells, Pt.slots] at X161 l161 y161 z161 st161 hQ161
              subst l161 y161 z161
              obtain ⟨rfl, N161q, e161⟩ := hQ161
              have N161 := Fr.app N143 N161q
              obtain ⟨cq162, kq162, q162a, q162b, q162c⟩ := isOf hZ e161 E_w_LESS_OR_EQUAL
              obtain ⟨_, _, ⟨T162, L162, k162, n162⟩, -, X162, ⟨Lc162, hQ162, l162, y162, z162⟩, st162⟩ := X161.virtualBack hx (y := (⟨"com/example/latticut/latticut/lang/Comparison", "test", "(JJ)Z"⟩ : MethodName)) (z := (⟨"com/example/latticut/latticut/lang/Comparison", "test", "(JJ)Z"⟩ : MethodName)) hown (mvT hZ (hw _ (List.mem_of_getElem? (i := 16) rfl))) (mvT hZ (hw _ (List.mem_of_getElem? (i := 17) rfl))) (notFace_of_selects (args := #[]) (mvT hZ (hw _ (List.mem_of_getElem? (i := 19) rfl)))) (mvT hZ (hw _ (List.mem_of_getElem? (i := 19) rfl))) (mvT hZ (hw _ (List.mem_of_getElem? (i := 18) rfl))) (by decide) (backOf (W := 1) (rm17 l Z a0 hw [] w_LESS_OR_EQUAL x1 x2 h0 n0 Z0 hc145 hc153 F_whenGreater_w_LESS_OR_EQUAL E_w_LESS_OR_EQUAL) hZ (hw _ (List.mem_of_getElem? (i := 20) rfl)) (hw _ (List.mem_of_getElem? (i := 6) rfl)) (by decide) (by decide)) q162a q162c (g := (mkF m 31 #[.val (.int x0), .val (.long x1), .second, .val (.long x2), .second, .val (.ref w_LESS_OR_EQUAL), .val (.ref w_GREATER), .unset, .unset, .unset] [(.long x2), (.long x1), (.ref w_LESS_OR_EQUAL), (.int (1 : Int32))])) rfl (by rw [hml]; rfl) (Steps.refl _) (argsL := [(.long x1), (.long x2)]) (rest := [(.int (1 : Int32))]) (lenOf pd_4 rfl) rfl (by show 2 * 0 + _ ≤ _; exact Nat.le_of_eq rfl) (hb hby at_31) (fun _ _ => ⟨rfl, e161, (by decide : 0 + 0 ≤ _), (by decide : 0 + 0 ≤ _)⟩)
              dsimp only [Pt.U, Pt.locs, Pt.cells, Pt.slots] at X162 l162 y162 z162 st162 hQ162
              subst l162 y162 z162
              obtain ⟨rfl, N162q, e162⟩ := hQ162
              have N162 := Fr.app N161 N162q
              obtain ⟨cq163, kq163, q163a, q163b, q163c⟩ := isOf hZ e162 E_w_GREATER
              obtain ⟨_, _, ⟨T163, L163, k163, n163⟩, -, X163, ⟨Lc163, hQ163, l163, y163, z163⟩, st163⟩ := X162.virtualBack hx (y := (⟨"com/example/latticut/latticut/lang/Comparison", "test", "(JJ)Z"⟩ : MethodName)) (z := (⟨"com/example/latticut/latticut/lang/Comparison", "test", "(JJ)Z"⟩ : MethodName)) hown (mvT hZ (hw _ (List.mem_of_getElem? (i := 16) rfl))) (mvT hZ (hw _ (List.mem_of_getElem? (i := 17) rfl))) (notFace_of_selects (args := #[]) (mvT hZ (hw _ (List.mem_of_getElem? (i := 19) rfl)))) (mvT hZ (hw _ (List.mem_of_getElem? (i := 19) rfl))) (mvT hZ (hw _ (List.mem_of_getElem? (i := 18) rfl))) (by decide) (backOf (W := 0) (rm10 l Z a0 hw [] w_GREATER x1 h0 n0 Z0 ((own_ar8 x1 x2 hc145 hc153)) ((own_ar9 x1 x2 hc145 hc153)) F_whenEqual_w_GREATER E_w_GREATER) hZ (hw _ (List.mem_of_getElem? (i := 20) rfl)) (hw _ (List.mem_of_getElem? (i := 6) rfl)) (by decide) (by decide)) q163a q163c (g := (mkF m 48 #[.val (.int x0), .val (.long x1), .second, .val (.long x2), .second, .val (.ref w_LESS_OR_EQUAL), .val (.ref w_GREATER), .val (.int (1 : Int32)), .unset, .unset] [(.long x1), (.long x1), (.ref w_GREATER)])) rfl (by rw [hml]; rfl) (Steps.refl _) (argsL := [(.long x1), (.long x1)]) (rest := []) (lenOf pd_4 rfl) rfl (by show 2 * 0 + _ ≤ _; exact Nat.le_of_eq rfl) (hb hby at_48) (fun _ _ => ⟨rfl, e162, (by decide : 0 + 0 ≤ _), (by decide : 0 + 0 ≤ _)⟩)
              dsimp only [Pt.U, Pt.locs, Pt.cells, Pt.slots] at X163 l163 y163 z163 st163 hQ163
              subst l163 y163 z163
              obtain ⟨rfl, N163q, e163⟩ := hQ163
              have N163 := Fr.app N162 N163q
              obtain ⟨cq164, kq164, q164a, q164b, q164c⟩ := isOf hZ e163 E_w_LESS_OR_EQUAL
              obtain ⟨_, _, ⟨T164, L164, k164, n164⟩, -, X164, ⟨Lc164, hQ164, l164, y164, z164⟩, st164⟩ := X163.virtualBack hx (y := (⟨"com/example/latticut/latticut/lang/Comparison", "test", "(JJ)Z"⟩ : MethodName)) (z := (⟨"com/example/latticut/latticut/lang/Comparison", "test", "(JJ)Z"⟩ : MethodName)) hown (mvT hZ (hw _ (List.mem_of_getElem? (i := 16) rfl))) (mvT hZ (hw _ (List.mem_of_getElem? (i := 17) rfl))) (notFace_of_selects (args := #[]) (mvT hZ (hw _ (List.mem_of_getElem? (i := 19) rfl)))) (mvT hZ (hw _ (List.mem_of_getElem? (i := 19) rfl))) (mvT hZ (hw _ (List.mem_of_getElem? (i := 18) rfl))) (by decide) (backOf (W := 1) (rm12 l Z a0 hw [] w_LESS_OR_EQUAL x1 h0 n0 Z0 ((own_ar8 x1 x2 hc145 hc153)) ((own_ar9 x1 x2 hc145 hc153)) F_whenEqual_w_LESS_OR_EQUAL E_w_LESS_OR_EQUAL) hZ (hw _ (List.mem_of_getElem? (i := 20) rfl)) (hw _ (List.mem_of_getElem? (i := 6) rfl)) (by decide) (by decide)) q164a q164c (g := (mkF m 55 #[.val (.int x0), .val (.long x1), .second, .val (.long x2), .second, .val (.ref w_LESS_OR_EQUAL), .val (.ref w_GREATER), .val (.int (1 : Int32)), .unset, .unset] [(.long x1), (.long x1), (.ref w_LESS_OR_EQUAL), (.int (0 : Int32))])) rfl (by rw [hml]; rfl) (Steps.refl _) (argsL := [(.long x1), (.long x1)]) (rest := [(.int (0 : Int32))]) (lenOf pd_4 rfl) rfl (by show 2 * 0 + _ ≤ _; exact Nat.le_of_eq rfl) (hb hby at_55) (fun _ _ => ⟨rfl, e163, (by decide : 0 + 0 ≤ _), (by decide : 0 + 0 ≤ _)⟩)
              dsimp only [Pt.U, Pt.locs, Pt.cells, Pt.slots] at X164 l164 y164 z164 st164 hQ164
              subst l164 y164 z164
              obtain ⟨rfl, N164q, e164⟩ := hQ164
              have N164 := Fr.app N163 N164q
              obtain ⟨cq165, kq165, q165a, q165b, q165c⟩ := isOf hZ e164 E_w_GREATER
              obtain ⟨_, _, ⟨T165, L165, k165, n165⟩, -, X165, ⟨Lc165, hQ165, l165, y165, z165⟩, st165⟩ := X164.virtualBack hx (y := (⟨"com/example/latticut/latticut/lang/Comparison", "test", "(JJ)Z"⟩ : MethodName)) (z := (⟨"com/example/latticut/latticut/lang/Comparison", "test", "(JJ)Z"⟩ : MethodName)) hown (mvT hZ (hw _ (List.mem_of_getElem? (i := 16) rfl))) (mvT hZ (hw _ (List.mem_of_getElem? (i := 17) rfl))) (notFace_of_selects (args := #[]) (mvT hZ (hw _ (List.mem_of_getElem? (i := 19) rfl)))) (mvT hZ (hw _ (List.mem_of_getElem? (i := 19) rfl))) (mvT hZ (hw _ (List.mem_of_getElem? (i := 18) rfl))) (by decide) (backOf (W := 0) (rm7 l Z a0 hw [] w_GREATER x2 x1 h0 n0 Z0 ((own_ar10 x1 x2 hc145 hc153)) F_whenLess_w_GREATER E_w_GREATER) hZ (hw _ (List.mem_of_getElem? (i := 20) rfl)) (hw _ (List.mem_of_getElem? (i := 6) rfl)) (by decide) (by decide)) q165a q165c (g := (mkF m 72 #[.val (.int x0), .val (.long x1), .second, .val (.long x2), .second, .val (.ref w_LESS_OR_EQUAL), .val (.ref w_GREATER), .val (.int (1 : Int32)), .val (.int (1 : Int32)), .unset] [(.long x1), (.long x2), (.ref w_GREATER)])) rfl (by rw [hml]; rfl) (Steps.refl _) (argsL := [(.long x2), (.long x1)]) (rest := []) (lenOf pd_4 rfl) rfl (by show 2 * 0 + _ ≤ _; exact Nat.le_of_eq rfl) (hb hby at_72) (fun _ _ => ⟨rfl, e164, (by decide : 0 + 0 ≤ _), (by decide : 0 + 0 ≤ _)⟩)
              dsimp only [Pt.U, Pt.locs, Pt.cells, Pt.slots] at X165 l165 y165 z165 st165 hQ165
              subst l165 y165 z165
              obtain ⟨rfl, N165q, e165⟩ := hQ165
              have N165 := Fr.app N164 N165q
              obtain ⟨cq166, kq166, q166a, q166b, q166c⟩ := isOf hZ e165 E_w_LESS_OR_EQUAL
              obtain ⟨_, _, ⟨T166, L166, k166, n166⟩, -, X166, ⟨Lc166, hQ166, l166, y166, z166⟩, st166⟩ := X165.virtualBack hx (y := (⟨"com/example/latticut/latticut/lang/Comparison", "test", "(JJ)Z"⟩ : MethodName)) (z := (⟨"com/example/latticut/latticut/lang/Comparison", "test", "(JJ)Z"⟩ : MethodName)) hown (mvT hZ (hw _ (List.mem_of_getElem? (i := 16) rfl))) (mvT hZ (hw _ (List.mem_of_getElem? (i := 17) rfl))) (notFace_of_selects (args := #[]) (mvT hZ (hw _ (List.mem_of_getElem? (i := 19) rfl)))) (mvT hZ (hw _ (List.mem_of_getElem? (i := 19) rfl))) (mvT hZ (hw _ (List.mem_of_getElem? (i := 18) rfl))) (by decide) (backOf (W := 1) (rm5 l Z a0 hw [] w_LESS_OR_EQUAL x2 x1 h0 n0 Z0 ((own_ar10 x1 x2 hc145 hc153)) F_whenLess_w_LESS_OR_EQUAL E_w_LESS_OR_EQUAL) hZ (hw _ (List.mem_of_getElem? (i := 20) rfl)) (hw _ (List.mem_of_getElem? (i := 6) rfl)) (by decide) (by decide)) q166a q166c (g := (mkF m 79 #[.val (.int x0), .val (.long x1), .second, .val (.long x2), .second, .val (.ref w_LESS_OR_EQUAL), .val (.ref w_GREATER), .val (.int (1 : Int32)), .val (.int (1 : Int32)), .unset] [(.long x1), (.long x2), (.ref w_LESS_OR_EQUAL), (.int (0 : Int32))])) rfl (by rw [hml]; rfl) (Steps.refl _) (argsL := [(.long x2), (.long x1)]) (rest := [(.int (0 : Int32))]) (lenOf pd_4 rfl) rfl (by show 2 * 0 + _ ≤ _; exact Nat.le_of_eq rfl) (hb hby at_79) (fun _ _ => ⟨rfl, e165, (by decide : 0 + 0 ≤ _), (by decide : 0 + 0 ≤ _)⟩)
              dsimp only [Pt.U, Pt.locs, Pt.cells, Pt.slots] at X166 l166 y166 z166 st166 hQ166
              subst l166 y166 z166
              obtain ⟨rfl, N166q, e166⟩ := hQ166
              have N166 := Fr.app N165 N166q
              have pre167 : ∀ t, Steps p.tables e below (T166.setTop (mkF m 112 #[.val (.int x0), .val (.long x1), .second, .val (.long x2), .second, .val (.ref w_LESS_OR_EQUAL), .val (.ref w_GREATER), .val (.int (1 : Int32)), .val (.int (1 : Int32)), .val (.int (1 : Int32))] [(.int (1 : Int32))])) t → Steps p.tables e below (s₁.setTop (entryFrame m #[(.int x0), (.long x1), (.long x2)] maxLocals)) t := fun t kk => pre144 t (by
                show Steps p.tables e below (T143.setTop (mkF m 24 #[.val (.int x0), .val (.long x1), .second, .val (.long x2), .second, .val (.ref w_LESS_OR_EQUAL), .val (.ref w_GREATER), .unset, .unset, .unset] [(.long x2), (.long x1), (.ref w_GREATER)])) _
                refine st161.trans ?_
                show Steps p.tables e below (T161.setTop (mkF m 27 #[.val (.int x0), .val (.long x1), .second, .val (.long x2), .second, .val (.ref w_LESS_OR_EQUAL), .val (.ref w_GREATER), .unset, .unset, .unset] [(.int (1 : Int32))])) _
                refine XS.aload X161.here hx rfl (hb hby at_27) rfl rfl ?_
                show Steps p.tables e below (T161.setTop (mkF m 29 #[.val (.int x0), .val (.long x1), .second, .val (.long x2), .second, .val (.ref w_LESS_OR_EQUAL), .val (.ref w_GREATER), .unset, .unset, .unset] [(.ref w_LESS_OR_EQUAL), (.int (1 : Int32))])) _
                refine XS.lloadN X161.here hx rfl (hb hby at_29) rfl ?_
                show Steps p.tables e below (T161.setTop (mkF m 30 #[.val (.int x0), .val (.long x1), .second, .val (.long x2), .second, .val (.ref w_LESS_OR_EQUAL), .val (.ref w_GREATER), .unset, .unset, .unset] [(.long x1), (.ref w_LESS_OR_EQUAL), (.int (1 : Int32))])) _
                refine XS.lloadN X161.here hx rfl (hb hby at_30) rfl ?_
                show Steps p.tables e below (T161.setTop (mkF m 31 #[.val (.int x0), .val (.long x1), .second, .val (.long x2), .second, .val (.ref w_LESS_OR_EQUAL), .val (.ref w_GREATER), .unset, .unset, .unset] [(.long x2), (.long x1), (.ref w_LESS_OR_EQUAL), (.int (1 : Int32))])) _
                refine st162.trans ?_
                show Steps p.tables e below (T162.setTop (mkF m 34 #[.val (.int x0), .val (.long x1), .second, .val (.long x2), .second, .val (.ref w_LESS_OR_EQUAL), .val (.ref w_GREATER), .unset, .unset, .unset] [(.int (0 : Int32)), (.int (1 : Int32))])) _
                refine XS.icmpNo X162.here hx rfl (hb hby at_34) rfl (feq ((by decide) : ¬ ((1 : Int32) = (0 : Int32)))).1 ?_
                show Steps p.tables e below (T162.setTop (mkF m 37 #[.val (.int x0), .val (.long x1), .second, .val (.long x2), .second, .val (.ref w_LESS_OR_EQUAL), .val (.ref w_GREATER), .unset, .unset, .unset] [])) _
                refine XS.iconst X162.here hx rfl (hb hby at_37) ?_
                show Steps p.tables e below (T162.setTop (mkF m 38 #[.val (.int x0), .val (.long x1), .second, .val (.long x2), .second, .val (.ref w_LESS_OR_EQUAL), .val (.ref w_GREATER), .unset, .unset, .unset] [(.int (1 : Int32))])) _
                refine XS.goto X162.here hx rfl (pc0 := 38) (pc' := 42) rfl (hb hby at_38) (by decide) (by decide) ?_
                show Steps p.tables e below (T162.setTop (mkF m 42 #[.val (.int x0), .val (.long x1), .second, .val (.long x2), .second, .val (.ref w_LESS_OR_EQUAL), .val (.ref w_GREATER), .unset, .unset, .unset] [(.int (1 : Int32))])) _
                refine XS.istore X162.here hx rfl (hb hby at_42) rfl (l' := #[.val (.int x0), .val (.long x1), .second, .val (.long x2), .second, .val (.ref w_LESS_OR_EQUAL), .val (.ref w_GREATER), .val (.int (1 : Int32)), .unset, .unset]) rfl ?_
                show Steps p.tables e below (T162.setTop (mkF m 44 #[.val (.int x0), .val (.long x1), .second, .val (.long x2), .second, .val (.ref w_LESS_OR_EQUAL), .val (.ref w_GREATER), .val (.int (1 : Int32)), .unset, .unset] [])) _
                refine XS.aload X162.here hx rfl (hb hby at_44) rfl rfl ?_
                show Steps p.tables e below (T162.setTop (mkF m 46 #[.val (.int x0), .val (.long x1), .second, .val (.long x2), .second, .val (.ref w_LESS_OR_EQUAL), .val (.ref w_GREATER), .val (.int (1 : Int32)), .unset, .unset] [(.ref w_GREATER)])) _
                refine XS.lloadN X162.here hx rfl (hb hby at_46) rfl ?_
                show Steps p.tables e below (T162.setTop (mkF m 47 #[.val (.int x0), .val (.long x1), .second, .val (.long x2), .second, .val (.ref w_LESS_OR_EQUAL), .val (.ref w_GREATER), .val (.int (1 : Int32)), .unset, .unset] [(.long x1), (.ref w_GREATER)])) _
                refine XS.lloadN X162.here hx rfl (hb hby at_47) rfl ?_
                show Steps p.tables e below (T162.setTop (mkF m 48 #[.val (.int x0), .val (.long x1), .second, .val (.long x2), .second, .val (.ref w_LESS_OR_EQUAL), .val (.ref w_GREATER), .val (.int (1 : Int32)), .unset, .unset] [(.long x1), (.long x1), (.ref w_GREATER)])) _
                refine st163.trans ?_
                show Steps p.tables e below (T163.setTop (mkF m 51 #[.val (.int x0), .val (.long x1), .second, .val (.long x2), .second, .val (.ref w_LESS_OR_EQUAL), .val (.ref w_GREATER), .val (.int (1 : Int32)), .unset, .unset] [(.int (0 : Int32))])) _
                refine XS.aload X163.here hx rfl (hb hby at_51) rfl rfl ?_
                show Steps p.tables e below (T163.setTop (mkF m 53 #[.val (.int x0), .val (.long x1), .second, .val (.long x2), .second, .val (.ref w_LESS_OR_EQUAL), .val (.ref w_GREATER), .val (.int (1 : Int32)), .unset, .unset] [(.ref w_LESS_OR_EQUAL), (.int (0 : Int32))])) _
                refine XS.lloadN X163.here hx rfl (hb hby at_53) rfl ?_
                show Steps p.tables e below (T163.setTop (mkF m 54 #[.val (.int x0), .val (.long x1), .second, .val (.long x2), .second, .val (.ref w_LESS_OR_EQUAL), .val (.ref w_GREATER), .val (.int (1 : Int32)), .unset, .unset] [(.long x1), (.ref w_LESS_OR_EQUAL), (.int (0 : Int32))])) _
                refine XS.lloadN X163.here hx rfl (hb hby at_54) rfl ?_
                show Steps p.tables e below (T163.setTop (mkF m 55 #[.val (.int x0), .val (.long x1), .second, .val (.long x2), .second, .val (.ref w_LESS_OR_EQUAL), .val (.ref w_GREATER), .val (.int (1 : Int32)), .unset, .unset] [(.long x1), (.long x1), (.ref w_LESS_OR_EQUAL), (.int (0 : Int32))])) _
                refine st164.trans ?_
                show Steps p.tables e below (T164.setTop (mkF m 58 #[.val (.int x0), .val (.long x1), .second, .val (.long x2), .second, .val (.ref w_LESS_OR_EQUAL), .val (.ref w_GREATER), .val (.int (1 : Int32)), .unset, .unset] [(.int (1 : Int32)), (.int (0 : Int32))])) _
                refine XS.icmpNo X164.here hx rfl (hb hby at_58) rfl (feq ((by decide) : ¬ ((0 : Int32) = (1 : Int32)))).1 ?_
                show Steps p.tables e below (T164.setTop (mkF m 61 #[.val (.int x0), .val (.long x1), .second, .val (.long x2), .second, .val (.ref w_LESS_OR_EQUAL), .val (.ref w_GREATER), .val (.int (1 : Int32)), .unset, .unset] [])) _
                refine XS.iconst X164.here hx rfl (hb hby at_61) ?_
                show Steps p.tables e below (T164.setTop (mkF m 62 #[.val (.int x0), .val (.long x1), .second, .val (.long x2), .second, .val (.ref w_LESS_OR_EQUAL), .val (.ref w_GREATER), .val (.int (1 : Int32)), .unset, .unset] [(.int (1 : Int32))])) _
                refine XS.goto X164.here hx rfl (pc0 := 62) (pc' := 66) rfl (hb hby at_62) (by decide) (by decide) ?_
                show Steps p.tables e below (T164.setTop (mkF m 66 #[.val (.int x0), .val (.long x1), .second, .val (.long x2), .second, .val (.ref w_LESS_OR_EQUAL), .val (.ref w_GREATER), .val (.int (1 : Int32)), .unset, .unset] [(.int (1 : Int32))])) _
                refine XS.istore X164.here hx rfl (hb hby at_66) rfl (l' := #[.val (.int x0), .val (.long x1), .second, .val (.long x2), .second, .val (.ref w_LESS_OR_EQUAL), .val (.ref w_GREATER), .val (.int (1 : Int32)), .val (.int (1 : Int32)), .unset]) rfl ?_
                show Steps p.tables e below (T164.setTop (mkF m 68 #[.val (.int x0), .val (.long x1), .second, .val (.long x2), .second, .val (.ref w_LESS_OR_EQUAL), .val (.ref w_GREATER), .val (.int (1 : Int32)), .val (.int (1 : Int32)), .unset] [])) _
                refine XS.aload X164.here hx rfl (hb hby at_68) rfl rfl ?_
                show Steps p.tables e below (T164.setTop (mkF m 70 #[.val (.int x0), .val (.long x1), .second, .val (.long x2), .second, .val (.ref w_LESS_OR_EQUAL), .val (.ref w_GREATER), .val (.int (1 : Int32)), .val (.int (1 : Int32)), .unset] [(.ref w_GREATER)])) _
                refine XS.lloadN X164.here hx rfl (hb hby at_70) rfl ?_
                show Steps p.tables e below (T164.setTop (mkF m 71 #[.val (.int x0), .val (.long x1), .second, .val (.long x2), .second, .val (.ref w_LESS_OR_EQUAL), .val (.ref w_GREATER), .val (.int (1 : Int32)), .val (.int (1 : Int32)), .unset] [(.long x2), (.ref w_GREATER)])) _
                refine XS.lloadN X164.here hx rfl (hb hby at_71) rfl ?_
                show Steps p.tables e below (T164.setTop (mkF m 72 #[.val (.int x0), .val (.long x1), .second, .val (.long x2), .second, .val (.ref w_LESS_OR_EQUAL), .val (.ref w_GREATER), .val (.int (1 : Int32)), .val (.int (1 : Int32)), .unset] [(.long x1), (.long x2), (.ref w_GREATER)])) _
                refine st165.trans ?_
                show Steps p.tables e below (T165.setTop (mkF m 75 #[.val (.int x0), .val (.long x1), .second, .val (.long x2), .second, .val (.ref w_LESS_OR_EQUAL), .val (.ref w_GREATER), .val (.int (1 : Int32)), .val (.int (1 : Int32)), .unset] [(.int (0 : Int32))])) _
                refine XS.aload X165.here hx rfl (hb hby at_75) rfl rfl ?_
                show Steps p.tables e below (T165.setTop (mkF m 77 #[.val (.int x0), .val (.long x1), .second, .val (.long x2), .second, .val (.ref w_LESS_OR_EQUAL), .val (.ref w_GREATER), .val (.int (1 : Int32)), .val (.int (1 : Int32)), .unset] [(.ref w_LESS_OR_EQUAL), (.int (0 : Int32))])) _
                refine XS.lloadN X165.here hx rfl (hb hby at_77) rfl ?_
                show Steps p.tables e below (T165.setTop (mkF m 78 #[.val (.int x0), .val (.long x1), .second, .val (.long x2), .second, .val (.ref w_LESS_OR_EQUAL), .val (.ref w_GREATER), .val (.int (1 : Int32)), .val (.int (1 : Int32)), .unset] [(.long x2), (.ref w_LESS_OR_EQUAL), (.int (0 : Int32))])) _
                refine XS.lloadN X165.here hx rfl (hb hby at_78) rfl ?_
                show Steps p.tables e below (T165.setTop (mkF m 79 #[.val (.int x0), .val (.long x1), .second, .val (.long x2), .second, .val (.ref w_LESS_OR_EQUAL), .val (.ref w_GREATER), .val (.int (1 : Int32)), .val (.int (1 : Int32)), .unset] [(.long x1), (.long x2), (.ref w_LESS_OR_EQUAL), (.int (0 : Int32))])) _
                refine st166.trans ?_
                show Steps p.tables e below (T166.setTop (mkF m 82 #[.val (.int x0), .val (.long x1), .second, .val (.long x2), .second, .val (.ref w_LESS_OR_EQUAL), .val (.ref w_GREATER), .val (.int (1 : Int32)), .val (.int (1 : Int32)), .unset] [(.int (1 : Int32)), (.int (0 : Int32))])) _
                refine XS.icmpNo X166.here hx rfl (hb hby at_82) rfl (feq ((by decide) : ¬ ((0 : Int32) = (1 : Int32)))).1 ?_
                show Steps p.tables e below (T166.setTop (mkF m 85 #[.val (.int x0), .val (.long x1), .second, .val (.long x2), .second, .val (.ref w_LESS_OR_EQUAL), .val (.ref w_GREATER), .val (.int (1 : Int32)), .val (.int (1 : Int32)), .unset] [])) _
                refine XS.iconst X166.here hx rfl (hb hby at_85) ?_
                show Steps p.tables e below (T166.setTop (mkF m 86 #[.val (.int x0), .val (.long x1), .second, .val (.long x2), .second, .val (.ref w_LESS_OR_EQUAL), .val (.ref w_GREATER), .val (.int (1 : Int32)), .val (.int (1 : Int32)), .unset] [(.int (1 : Int32))])) _
                refine XS.goto X166.here hx rfl (pc0 := 86) (pc' := 90) rfl (hb hby at_86) (by decide) (by decide) ?_
                show Steps p.tables e below (T166.setTop (mkF m 90 #[.val (.int x0), .val (.long x1), .second, .val (.long x2), .second, .val (.ref w_LESS_OR_EQUAL), .val (.ref w_GREATER), .val (.int (1 : Int32)), .val (.int (1 : Int32)), .unset] [(.int (1 : Int32))])) _
                refine XS.istore X166.here hx rfl (hb hby at_90) rfl (l' := #[.val (.int x0), .val (.long x1), .second, .val (.long x2), .second, .val (.ref w_LESS_OR_EQUAL), .val (.ref w_GREATER), .val (.int (1 : Int32)), .val (.int (1 : Int32)), .val (.int (1 : Int32))]) rfl ?_
                show Steps p.tables e below (T166.setTop (mkF m 92 #[.val (.int x0), .val (.long x1), .second, .val (.long x2), .second, .val (.ref w_LESS_OR_EQUAL), .val (.ref w_GREATER), .val (.int (1 : Int32)), .val (.int (1 : Int32)), .val (.int (1 : Int32))] [])) _
                refine XS.iload X166.here hx rfl (hb hby at_92) rfl ?_
                show Steps p.tables e below (T166.setTop (mkF m 94 #[.val (.int x0), .val (.long x1), .second, .val (.long x2), .second, .val (.ref w_LESS_OR_EQUAL), .val (.ref w_GREATER), .val (.int (1 : Int32)), .val (.int (1 : Int32)), .val (.int (1 : Int32))] [(.int (1 : Int32))])) _
                refine XS.ifNo X166.here hx rfl (hb hby at_94) rfl ((if0 _ _).trans (feq ((by decide) : ¬ ((1 : Int32) = (0 : Int32)))).1) ?_
                show Steps p.tables e below (T166.setTop (mkF m 97 #[.val (.int x0), .val (.long x1), .second, .val (.long x2), .second, .val (.ref w_LESS_OR_EQUAL), .val (.ref w_GREATER), .val (.int (1 : Int32)), .val (.int (1 : Int32)), .val (.int (1 : Int32))] [])) _
                refine XS.iload X166.here hx rfl (hb hby at_97) rfl ?_
                show Steps p.tables e below (T166.setTop (mkF m 99 #[.val (.int x0), .val (.long x1), .second, .val (.long x2), .second, .val (.ref w_LESS_OR_EQUAL), .val (.ref w_GREATER), .val (.int (1 : Int32)), .val (.int (1 : Int32)), .val (.int (1 : Int32))] [(.int (1 : Int32))])) _
                refine XS.ifNo X166.here hx rfl (hb hby at_99) rfl ((if0 _ _).trans (feq ((by decide) : ¬ ((1 : Int32) = (0 : Int32)))).1) ?_
                show Steps p.tables e below (T166.setTop (mkF m 102 #[.val (.int x0), .val (.long x1), .second, .val (.long x2), .second, .val (.ref w_LESS_OR_EQUAL), .val (.ref w_GREATER), .val (.int (1 : Int32)), .val (.int (1 : Int32)), .val (.int (1 : Int32))] [])) _
                refine XS.iload X166.here hx rfl (hb hby at_102) rfl ?_
                show Steps p.tables e below (T166.setTop (mkF m 104 #[.val (.int x0), .val (.long x1), .second, .val (.long x2), .second, .val (.ref w_LESS_OR_EQUAL), .val (.ref w_GREATER), .val (.int (1 : Int32)), .val (.int (1 : Int32)), .val (.int (1 : Int32))] [(.int (1 : Int32))])) _
                refine XS.ifNo X166.here hx rfl (hb hby at_104) rfl ((if0 _ _).trans (feq ((by decide) : ¬ ((1 : Int32) = (0 : Int32)))).1) ?_
                show Steps p.tables e below (T166.setTop (mkF m 107 #[.val (.int x0), .val (.long x1), .second, .val (.long x2), .second, .val (.ref w_LESS_OR_EQUAL), .val (.ref w_GREATER), .val (.int (1 : Int32)), .val (.int (1 : Int32)), .val (.int (1 : Int32))] [])) _
                refine XS.iconst X166.here hx rfl (hb hby at_107) ?_
                show Steps p.tables e below (T166.setTop (mkF m 108 #[.val (.int x0), .val (.long x1), .second, .val (.long x2), .second, .val (.ref w_LESS_OR_EQUAL), .val (.ref w_GREATER), .val (.int (1 : Int32)), .val (.int (1 : Int32)), .val (.int (1 : Int32))] [(.int (1 : Int32))])) _
                refine XS.goto X166.here hx rfl (pc0 := 108) (pc' := 112) rfl (hb hby at_108) (by decide) (by decide) ?_
                exact kk)
              obtain ⟨fs, hr, hrun, hended, hW, hsame⟩ := X166.leave (v := some (.int (1 : Int32))) (fun h => by rw [Bd.returns] at h; cases h)
              refine ⟨_, _, pre167 _ ?_, hrun, hended, _, _, rfl, ?_, ⟨_, rfl⟩, hW, hsame.mono (by decide) (by decide)⟩
              · exact retN X166 hx (t := .boolean) Bd.returns (by simp) (hb hby at_112) hr
              · exact ⟨rfl, N166⟩
        ·
          by_cases hc168 : ((x0 &&& (2147483647 : Int32)) % (6 : Int32)) = (4 : Int32)
          ·
            obtain ⟨_, _, ⟨T169, L169, k169, n169⟩, -, X169, ⟨Lc169, hQ169, l169, y169, z169⟩, st169⟩ := Jvm.LawKit.callS X0 hx (y := (⟨"com/example/latticut/latticut/lang/ComparisonNegatedPinLaw", "pick", "(I)Lcom/example/latticut/latticut/lang/Comparison;"⟩ : MethodName)) hown (mvT hZ (hw _ (List.mem_of_getElem? (i := 0) rfl))) (mvT hZ (hw _ (List.mem_of_getElem? (i := 1) rfl))) (mvT hZ (hw _ (List.mem_of_getElem? (i := 2) rfl))) (mvT hZ (hw _ (List.mem_of_getElem? (i := 3) rfl))) (by decide) (backOf (W := 0) (rm27 l Z a0 hw [] x0 w_GREATER h0 n0 Z0 hc60 hc87 hc114 hc141 hc168 S_w_GREATER) hZ (hw _ (List.mem_of_getElem? (i := 3) rfl)) (hw _ (List.mem_of_getElem? (i := 2) rfl)) (by decide) (by decide)) (g := (mkF m 1 #[.val (.int x0), .val (.long x1), .second, .val (.long x2), .second, .unset, .unset, .unset, .unset, .unset] [(.int x0)])) rfl (by rw [hml]; rfl) (argsL := [(.int x0)]) (rest := []) (lenOf pd_0 rfl) rfl (by show 2 * 0 + _ ≤ _; exact Nat.le_of_eq rfl) (hb hby at_1) (fun _ _ => ⟨rfl, e0, (by decide : 0 + 0 ≤ _), (by decide : 0 + 0 ≤ _)⟩)
            dsimp only [Pt.U, Pt.locs, Pt.cells, Pt.slots] at X169 l169 y169 z169 st169 hQ169
            subst l169 y169 z169
            obtain ⟨rfl, N169q, e169⟩ := hQ169
            have N169 := Fr.app N0 N169q
            obtain ⟨cq170, kq170, q170a, q170b, q170c⟩ := isOf hZ e169 E_w_GREATER
            obtain ⟨_, _, ⟨T170, L170, k170, n170⟩, -, X170, ⟨Lc170, hQ170, l170, y170, z170⟩, st170⟩ := X169.virtualBack hx (y := (⟨"com/example/latticut/latticut/lang/Comparison", "negated", "()Lcom/example/latticut/latticut/lang/Comparison;"⟩ : MethodName)) (z := (⟨"com/example/latticut/latticut/lang/Comparison", "negated", "()Lcom/example/latticut/latticut/lang/Comparison;"⟩ : MethodName)) hown (mvT hZ (hw _ (List.mem_of_getElem? (i := 8) rfl))) (mvT hZ (hw _ (List.mem_of_getElem? (i := 9) rfl))) (notFace_of_selects (args := #[]) (mvT hZ (hw _ (List.mem_of_getElem? (i := 11) rfl)))) (mvT hZ (hw _ (List.mem_of_getElem? (i := 11) rfl))) (mvT hZ (hw _ (List.mem_of_getElem? (i := 10) rfl))) (by decide) (backOf (W := 0) (rm28 l Z a0 hw [] w_GREATER w_EQUAL w_NOT_EQUAL w_LESS w_LESS_OR_EQUAL h0 n0 Z0 S_w_EQUAL ((Fld.ne F_ordinal_w_GREATER F_ordinal_w_EQUAL (by decide))) S_w_NOT_EQUAL ((Fld.ne F_ordinal_w_GREATER F_ordinal_w_NOT_EQUAL (by decide))) S_w_LESS ((Fld.ne F_ordinal_w_GREATER F_ordinal_w_LESS (by decide))) S_w_LESS_OR_EQUAL ((Fld.ne F_ordinal_w_GREATER F_ordinal_w_LESS_OR_EQUAL (by decide))) S_w_GREATER) hZ (hw _ (List.mem_of_getElem? (i := 12) rfl)) (hw _ (List.mem_of_getElem? (i := 6) rfl)) (by decide) (by decide)) q170a q170c (g := (mkF m 8 #[.val (.int x0), .val (.long x1), .second, .val (.long x2), .second, .val (.ref w_GREATER), .unset, .unset, .unset, .unset] [(.ref w_GREATER)])) rfl (by rw [hml]; rfl) (Steps.refl _) (argsL := []) (rest := []) (lenOf pd_1 rfl) rfl (by show 2 * 0 + _ ≤ _; exact Nat.le_of_eq rfl) (hb hby at_8) (fun _ _ => ⟨rfl, e169, (by decide : 0 + 0 ≤ _), (by decide : 0 + 0 ≤ _)⟩)
            dsimp only [Pt.U, Pt.locs, Pt.cells, Pt.slots] at X170 l170 y170 z170 st170 hQ170
            subst l170 y170 z170
            obtain ⟨rfl, N170q, e170⟩ := hQ170
            have N170 := Fr.app N169 N170q
            have pre171 : ∀ t, Steps p.tables e below (T170.setTop (mkF m 24 #[.val (.int x0), .val (.long x1), .second, .val (.long x2), .second, .val (.ref w_GREATER), .val (.ref w_LESS_OR_EQUAL), .unset, .unset, .unset] [(.long x2), (.long x1), (.ref w_LESS_OR_EQUAL)])) t → Steps p.tables e below (s₁.setTop (entryFrame m #[(.int x0), (.long x1), (.long x2)] maxLocals)) t := fun t kk => pre59 t (by
              show Steps p.tables e below (s₁.setTop (mkF m 1 #[.val (.int x0), .val (.long x1), .second, .val (.long x2), .second, .unset, .unset, .unset, .unset, .unset] [(.int x0)])) _
              refine st169 _ ?_
              show Steps p.tables e below (T169.setTop (mkF m 4 #[.val (.int x0), .val (.long x1), .second, .val (.long x2), .second, .unset, .unset, .unset, .unset, .unset] [(.ref w_GREATER)])) _
              refine XS.astore X169.here hx rfl (hb hby at_4) rfl rfl (l' := #[.val (.int x0), .val (.long x1), .second, .val (.long x2), .second, .val (.ref w_GREATER), .unset, .unset, .unset, .unset]) rfl ?_
              show Steps p.tables e below (T169.setTop (mkF m 6 #[.val (.int x0), .val (.long x1), .second, .val (.long x2), .second, .val (.ref w_GREATER), .unset, .unset, .unset, .unset] [])) _
              refine XS.aload X169.here hx rfl (hb hby at_6) rfl rfl ?_
              show Steps p.tables e below (T169.setTop (mkF m 8 #[.val (.int x0), .val (.long x1), .second, .val (.long x2), .second, .val (.ref w_GREATER), .unset, .unset, .unset, .unset] [(.ref w_GREATER)])) _
              refine st170.trans ?_
              show Steps p.tables e below (T170.setTop (mkF m 11 #[.val (.int x0), .val (.long x1), .second, .val (.long x2), .second, .val (.ref w_GREATER), .unset, .unset, .unset, .unset] [(.ref w_LESS_OR_EQUAL)])) _
              refine XS.astore X170.here hx rfl (hb hby at_11) rfl rfl (l' := #[.val (.int x0), .val (.long x1), .second, .val (.long x2), .second, .val (.ref w_GREATER), .val (.ref w_LESS_OR_EQUAL), .unset, .unset, .unset]) rfl ?_
              show Steps p.tables e below (T170.setTop (mkF m 13 #[.val (.int x0), .val (.long x1), .second, .val (.long x2), .second, .val (.ref w_GREATER), .val (.ref w_LESS_OR_EQUAL), .unset, .unset, .unset] [])) _
              refine XS.aload X170.here hx rfl (hb hby at_13) rfl rfl ?_
              show Steps p.tables e below (T170.setTop (mkF m 15 #[.val (.int x0), .val (.long x1), .second, .val (.long x2), .second, .val (.ref w_GREATER), .val (.ref w_LESS_OR_EQUAL), .unset, .unset, .unset] [(.ref w_LESS_OR_EQUAL)])) _
              refine XS.ifnonnullYes X170.here hx rfl (pc0 := 15) (pc' := 20) rfl (hb hby at_15) rfl (by decide) (by decide) ?_
              show Steps p.tables e below (T170.setTop (mkF m 20 #[.val (.int x0), .val (.long x1), .second, .val (.long x2), .second, .val (.ref w_GREATER), .val (.ref w_LESS_OR_EQUAL), .unset, .unset, .unset] [])) _
              refine XS.aload X170.here hx rfl (hb hby at_20) rfl rfl ?_
              show Steps p.tables e below (T170.setTop (mkF m 22 #[.val (.int x0), .val (.long x1), .second, .val (.long x2), .second, .val (.ref w_GREATER), .val (.ref w_LESS_OR_EQUAL), .unset, .unset, .unset] [(.ref w_LESS_OR_EQUAL)])) _
              refine XS.lloadN X170.here hx rfl (hb hby at_22) rfl ?_
              show Steps p.tables e below (T170.setTop (mkF m 23 #[.val (.int x0), .val (.long x1), .second, .val (.long x2), .second, .val (.ref w_GREATER), .val (.ref w_LESS_OR_EQUAL), .unset, .unset, .unset] [(.long x1), (.ref w_LESS_OR_EQUAL)])) _
              refine XS.lloadN X170.here hx rfl (hb hby at_23) rfl ?_
              exact kk)
            by_cases hc172 : (lcmpW x1 x2) < (0 : Int32)
            ·
              obtain ⟨cq173, kq173, q173a, q173b, q173c⟩ := isOf hZ e170 E_w_LESS_OR_EQUAL
              obtain ⟨_, _, ⟨T173, L173, k173, n173⟩, -, X173, ⟨Lc173, hQ173, l173, y173, z173⟩, st173⟩ := X170.virtualBack hx (y := (⟨"com/example/latticut/latticut/lang/Comparison", "test", "(JJ)Z"⟩ : MethodName)) (z := (⟨"com/example/latticut/latticut/lang/Comparison", "test", "(JJ)Z"⟩ : MethodName)) hown (mvT hZ (hw _ (List.mem_of_getElem? (i := 16) rfl))) (mvT hZ (hw _ (List.mem_of_getElem? (i := 17) rfl))) (notFace_of_selects (args := #[]) (mvT hZ (hw _ (List.mem_of_getElem? (i := 19) rfl)))) (mvT hZ (hw _ (List.mem_of_getElem? (i := 19) rfl))) (mvT hZ (hw _ (List.mem_of_getElem? (i := 18) rfl))) (by decide) (backOf (W := 0) (rm5 l Z a0 hw [] w_LESS_OR_EQUAL x1 x2 h0 n0 Z0 hc172 F_whenLess_w_LESS_OR_EQUAL E_w_LESS_OR_EQUAL) hZ (hw _ (List.mem_of_getElem? (i := 20) rfl)) (hw _ (List.mem_of_getElem? (i := 6) rfl)) (by decide) (by decide)) q173a q173c (g := (mkF m 24 #[.val (.int x0), .val (.long x1), .second, .val (.long x2), .second, .val (.ref w_GREATER), .val (.ref w_LESS_OR_EQUAL), .unset, .unset, .unset] [(.long x2), (.long x1), (.ref w_LESS_OR_EQUAL)])) rfl (by rw [hml]; rfl) (Steps.refl _) (argsL := [(.long x1), (.long x2)]) (rest := []) (lenOf pd_4 rfl) rfl (by show 2 * 0 + _ ≤ _; exact Nat.le_of_eq rfl) (hb hby at_24) (fun _ _ => ⟨rfl, e170, (by decide : 0 + 0 ≤ _), (by decide : 0 + 0 ≤ _)⟩)
              dsimp only [Pt.U, Pt.locs, Pt.cells, Pt.slots] at X173 l173 y173 z173 st173 hQ173
              subst l173 y173 z173
              obtain ⟨rfl, N173q, e173⟩ := hQ173
              have N173 := Fr.app N170 N173q
              obtain ⟨cq174, kq174, q174a, q174b, q174c⟩ := isOf hZ e173 E_w_GREATER
              obtain ⟨_, _, ⟨T174, L174, k174, n174⟩, -, X174, ⟨Lc174, hQ174, l174, y174, z174⟩, st174⟩ := X173.virtualBack hx (y := (⟨"com/example/latticut/latticut/lang/Comparison", "test", "(JJ)Z"⟩ : MethodName)) (z := (⟨"com/example/latticut/latticut/lang/Comparison", "test", "(JJ)Z"⟩ : MethodName)) hown (mvT hZ (hw _ (List.mem_of_getElem? (i := 16) rfl))) (mvT hZ (hw _ (List.mem_of_getElem? (i := 17) rfl))) (notFace_of_selects (args := #[]) (mvT hZ (hw _ (List.mem_of_getElem? (i := 19) rfl)))) (mvT hZ (hw _ (List.mem_of_getElem? (i := 19) rfl))) (mvT hZ (hw _ (List.mem_of_getElem? (i := 18) rfl))) (by decide) (backOf (W := 1) (rm7 l Z a0 hw [] w_GREATER x1 x2 h0 n0 Z0 hc172 F_whenLess_w_GREATER E_w_GREATER) hZ (hw _ (List.mem_of_getElem? (i := 20) rfl)) (hw _ (List.mem_of_getElem? (i := 6) rfl)) (by decide) (by decide)) q174a q174c (g := (mkF m 31 #[.val (.int x0), .val (.long x1), .second, .val (.long x2), .second, .val (.ref w_GREATER), .val (.ref w_LESS_OR_EQUAL), .unset, .unset, .unset] [(.long x2), (.long x1), (.ref w_GREATER), (.int (1 : Int32))])) rfl (by rw [hml]; rfl) (Steps.refl _) (argsL := [(.long x1), (.long x2)]) (rest := [(.int (1 : Int32))]) (lenOf pd_4 rfl) rfl (by show 2 * 0 + _ ≤ _; exact Nat.le_of_eq rfl) (hb hby at_31) (fun _ _ => ⟨rfl, e173, (by decide : 0 + 0 ≤ _), (by decide : 0 + 0 ≤ _)⟩)
              dsimp only [Pt.U, Pt.locs, Pt.cells, Pt.slots] at X174 l174 y174 z174 st174 hQ174
              subst l174 y174 z174
              obtain ⟨rfl, N174q, e174⟩ := hQ174
              have N174 := Fr.app N173 N174q
              obtain ⟨cq175, kq175, q175a, q175b, q175c⟩ := isOf hZ e174 E_w_LESS_OR_EQUAL
              obtain ⟨_, _, ⟨T175, L175, k175, n175⟩, -, X175, ⟨Lc175, hQ175, l175, y175, z175⟩, st175⟩ := X174.virtualBack hx (y := (⟨"com/example/latticut/latticut/lang/Comparison", "test", "(JJ)Z"⟩ : MethodName)) (z := (⟨"com/example/latticut/latticut/lang/Comparison", "test", "(JJ)Z"⟩ : MethodName)) hown (mvT hZ (hw _ (List.mem_of_getElem? (i := 16) rfl))) (mvT hZ (hw _ (List.mem_of_getElem? (i := 17) rfl))) (notFace_of_selects (args := #[]) (mvT hZ (hw _ (List.mem_of_getElem? (i := 19) rfl)))) (mvT hZ (hw _ (List.mem_of_getElem? (i := 19) rfl))) (mvT hZ (hw _ (List.mem_of_getElem? (i := 18) rfl))) (by decide) (backOf (W := 0) (rm12 l Z a0 hw [] w_LESS_OR_EQUAL x1 h0 n0 Z0 ((own_ar0 x1 x2 hc172)) ((own_ar1 x1 x2 hc172)) F_whenEqual_w_LESS_OR_EQUAL E_w_LESS_OR_EQUAL) hZ (hw _ (List.mem_of_getElem? (i := 20) rfl)) (hw _ (List.mem_of_getElem? (i := 6) rfl)) (by decide) (by decide)) q175a q175c (g := (mkF m 48 #[.val (.int x0), .val (.long x1), .second, .val (.long x2), .second, .val (.ref w_GREATER), .val (.ref w_LESS_OR_EQUAL), .val (.int (1 : Int32)), .unset, .unset] [(.long x1), (.long x1), (.ref w_LESS_OR_EQUAL)])) rfl (by rw [hml]; rfl) (Steps.refl _) (argsL := [(.long x1), (.long x1)]) (rest := []) (lenOf pd_4 rfl) rfl (by show 2 * 0 + _ ≤ _; exact Nat.le_of_eq rfl) (hb hby at_48) (fun _ _ => ⟨rfl, e174, (by decide : 0 + 0 ≤ _), (by decide : 0 + 0 ≤ _)⟩)
              dsimp only [Pt.U, Pt.locs, Pt.cells, Pt.slots] at X175 l175 y175 z175 st175 hQ175
              subst l175 y175 z175
              obtain ⟨rfl, N175q, e175⟩ := hQ175
              have N175 := Fr.app N174 N175q
              obtain ⟨cq176, kq176, q176a, q176b, q176c⟩ := isOf hZ e175 E_w_GREATER
              obtain ⟨_, _, ⟨T176, L176, k176, n176⟩, -, X176, ⟨Lc176, hQ176, l176, y176, z176⟩, st176⟩ := X175.virtualBack hx (y := (⟨"com/example/latticut/latticut/lang/Comparison", "test", "(JJ)Z"⟩ : MethodName)) (z := (⟨"com/example/latticut/latticut/lang/Comparison", "test", "(JJ)Z"⟩ : MethodName)) hown (mvT hZ (hw _ (List.mem_of_getElem? (i := 16) rfl))) (mvT hZ (hw _ (List.mem_of_getElem? (i := 17) rfl))) (notFace_of_selects (args := #[]) (mvT hZ (hw _ (List.mem_of_getElem? (i := 19) rfl)))) (mvT hZ (hw _ (List.mem_of_getElem? (i := 19) rfl))) (mvT hZ (hw _ (List.mem_of_getElem? (i := 18) rfl))) (by decide) (backOf (W := 1) (rm10 l Z a0 hw [] w_GREATER x1 h0 n0 Z0 ((own_ar0 x1 x2 hc172)) ((own_ar1 x1 x2 hc172)) F_whenEqual_w_GREATER E_w_GREATER) hZ (hw _ (List.mem_of_getElem? (i := 20) rfl)) (hw _ (List.mem_of_getElem? (i := 6) rfl)) (by decide) (by decide)) q176a q176c (g := (mkF m 55 #[.val (.int x0), .val (.long x1), .second, .val (.long x2), .second, .val (.ref w_GREATER), .val (.ref w_LESS_OR_EQUAL), .val (.int (1 : Int32)), .unset, .unset] [(.long x1), (.long x1), (.ref w_GREATER), (.int (1 : Int32))])) rfl (by rw [hml]; rfl) (Steps.refl _) (argsL := [(.long x1), (.long x1)]) (rest := [(.int (1 : Int32))]) (lenOf pd_4 rfl) rfl (by show 2 * 0 + _ ≤ _; exact Nat.le_of_eq rfl) (hb hby at_55) (fun _ _ => ⟨rfl, e175, (by decide : 0 + 0 ≤ _), (by decide : 0 + 0 ≤ _)⟩)
              dsimp only [Pt.U, Pt.locs, Pt.cells, Pt.slots] at X176 l176 y176 z176 st176 hQ176
              subst l176 y176 z176
              obtain ⟨rfl, N176q, e176⟩ := hQ176
              have N176 := Fr.app N175 N176q
              obtain ⟨cq177, kq177, q177a, q177b, q177c⟩ := isOf hZ e176 E_w_LESS_OR_EQUAL
              obtain ⟨_, _, ⟨T177, L177, k177, n177⟩, -, X177, ⟨Lc177, hQ177, l177, y177, z177⟩, st177⟩ := X176.virtualBack hx (y := (⟨"com/example/latticut/latticut/lang/Comparison", "test", "(JJ)Z"⟩ : MethodName)) (z := (⟨"com/example/latticut/latticut/lang/Comparison", "test", "(JJ)Z"⟩ : MethodName)) hown (mvT hZ (hw _ (List.mem_of_getElem? (i := 16) rfl))) (mvT hZ (hw _ (List.mem_of_getElem? (i := 17) rfl))) (notFace_of_selects (args := #[]) (mvT hZ (hw _ (List.mem_of_getElem? (i := 19) rfl)))) (mvT hZ (hw _ (List.mem_of_getElem? (i := 19) rfl))) (mvT hZ (hw _ (List.mem_of_getElem? (i := 18) rfl))) (by decide) (backOf (W := 0) (rm17 l Z a0 hw [] w_LESS_OR_EQUAL x2 x1 h0 n0 Z0 ((own_ar2 x1 x2 hc172)) ((own_ar3 x1 x2 hc172)) F_whenGreater_w_LESS_OR_EQUAL E_w_LESS_OR_EQUAL) hZ (hw _ (List.mem_of_getElem? (i := 20) rfl)) (hw _ (List.mem_of_getElem? (i := 6) rfl)) (by decide) (by decide)) q177a q177c (g := (mkF m 72 #[.val (.int x0), .val (.long x1), .second, .val (.long x2), .second, .val (.ref w_GREATER), .val (.ref w_LESS_OR_EQUAL), .val (.int (1 : Int32)), .val (.int (1 : Int32)), .unset] [(.long x1), (.long x2), (.ref w_LESS_OR_EQUAL)])) rfl (by rw [hml]; rfl) (Steps.refl _) (argsL := [(.long x2), (.long x1)]) (rest := []) (lenOf pd_4 rfl) rfl (by show 2 * 0 + _ ≤ _; exact Nat.le_of_eq rfl) (hb hby at_72) (fun _ _ => ⟨rfl, e176, (by decide : 0 + 0 ≤ _), (by decide : 0 + 0 ≤ _)⟩)
              dsimp only [Pt.U, Pt.locs, Pt.cells, Pt.slots] at X177 l177 y177 z177 st177 hQ177
              subst l177 y177 z177
              obtain ⟨rfl, N177q, e177⟩ := hQ177
              have N177 := Fr.app N176 N177q
              obtain ⟨cq178, kq178, q178a, q178b, q178c⟩ := isOf hZ e177 E_w_GREATER
              obtain ⟨_, _, ⟨T178, L178, k178, n178⟩, -, X178, ⟨Lc178, hQ178, l178, y178, z178⟩, st178⟩ := X177.virtualBack hx (y := (⟨"com/example/latticut/latticut/lang/Comparison", "test", "(JJ)Z"⟩ : MethodName)) (z := (⟨"com/example/latticut/latticut/lang/Comparison", "test", "(JJ)Z"⟩ : MethodName)) hown (mvT hZ (hw _ (List.mem_of_getElem? (i := 16) rfl))) (mvT hZ (hw _ (List.mem_of_getElem? (i := 17) rfl))) (notFace_of_selects (args := #[]) (mvT hZ (hw _ (List.mem_of_getElem? (i := 19) rfl)))) (mvT hZ (hw _ (List.mem_of_getElem? (i := 19) rfl))) (mvT hZ (hw _ (List.mem_of_getElem? (i := 18) rfl))) (by decide) (backOf (W := 1) (rm15 l Z a0 hw [] w_GREATER x2 x1 h0 n0 Z0 ((own_ar2 x1 x2 hc172)) ((own_ar3 x1 x2 hc172)) F_whenGreater_w_GREATER E_w_GREATER) hZ (hw _ (List.mem_of_getElem? (i := 20) rfl)) (hw _ (List.mem_of_getElem? (i := 6) rfl)) (by decide) (by decide)) q178a q178c (g := (mkF m 79 #[.val (.int x0), .val (.long x1), .second, .val (.long x2), .second, .val (.ref w_GREATER), .val (.ref w_LESS_OR_EQUAL), .val (.int (1 : Int32)), .val (.int (1 : Int32)), .unset] [(.long x1), (.long x2), (.ref w_GREATER), (.int (0 : Int32))])) rfl (by rw [hml]; rfl) (Steps.refl _) (argsL := [(.long x2), (.long x1)]) (rest := [(.int (0 : Int32))]) (lenOf pd_4 rfl) rfl (by show 2 * 0 + _ ≤ _; exact Nat.le_of_eq rfl) (hb hby at_79) (fun _ _ => ⟨rfl, e177, (by decide : 0 + 0 ≤ _), (by decide : 0 + 0 ≤ _)⟩)
              dsimp only [Pt.U, Pt.locs, Pt.cells, Pt.slots] at X178 l178 y178 z178 st178 hQ178
              subst l178 y178 z178
              obtain ⟨rfl, N178q, e178⟩ := hQ178
              have N178 := Fr.app N177 N178q
              have pre179 : ∀ t, Steps p.tables e below (T178.setTop (mkF m 112 #[.val (.int x0), .val (.long x1), .second, .val (.long x2), .second, .val (.ref w_GREATER), .val (.ref w_LESS_OR_EQUAL), .val (.int (1 : Int32)), .val (.int (1 : Int32)), .val (.int (1 : Int32))] [(.int (1 : Int32))])) t → Steps p.tables e below (s₁.setTop (entryFrame m #[(.int x0), (.long x1), (.long x2)] maxLocals)) t := fun t kk => pre171 t (by
                show Steps p.tables e below (T170.setTop (mkF m 24 #[.val (.int x0), .val (.long x1), .second, .val (.long x2), .second, .val (.ref w_GREATER), .val (.ref w_LESS_OR_EQUAL), .unset, .unset, .unset] [(.long x2), (.long x1), (.ref w_LESS_OR_EQUAL)])) _
                refine st173.trans ?_
                show Steps p.tables e below (T173.setTop (mkF m 27 #[.val (.int x0), .val (.long x1), .second, .val (.long x2), .second, .val (.ref w_GREATER), .val (.ref w_LESS_OR_EQUAL), .unset, .unset, .unset] [(.int (1 : Int32))])) _
                refine XS.aload X173.here hx rfl (hb hby at_27) rfl rfl ?_
                show Steps p.tables e below (T173.setTop (mkF m 29 #[.val (.int x0), .val (.long x1), .second, .val (.long x2), .second, .val (.ref w_GREATER), .val (.ref w_LESS_OR_EQUAL), .unset, .unset, .unset] [(.ref w_GREATER), (.int (1 : Int32))])) _
                refine XS.lloadN X173.here hx rfl (hb hby at_29) rfl ?_
                show Steps p.tables e below (T173.setTop (mkF m 30 #[.val (.int x0), .val (.long x1), .second, .val (.long x2), .second, .val (.ref w_GREATER), .val (.ref w_LESS_OR_EQUAL), .unset, .unset, .unset] [(.long x1), (.ref w_GREATER), (.int (1 : Int32))])) _
                refine XS.lloadN X173.here hx rfl (hb hby at_30) rfl ?_
                show Steps p.tables e below (T173.setTop (mkF m 31 #[.val (.int x0), .val (.long x1), .second, .val (.long x2), .second, .val (.ref w_GREATER), .val (.ref w_LESS_OR_EQUAL), .unset, .unset, .unset] [(.long x2), (.long x1), (.ref w_GREATER), (.int (1 : Int32))])) _
                refine st174.trans ?_
                show Steps p.tables e below (T174.setTop (mkF m 34 #[.val (.int x0), .val (.long x1), .second, .val (.long x2), .second, .val (.ref w_GREATER), .val (.ref w_LESS_OR_EQUAL), .unset, .unset, .unset] [(.int (0 : Int32)), (.int (1 : Int32))])) _
                refine XS.icmpNo X174.here hx rfl (hb hby at_34) rfl (feq ((by decide) : ¬ ((1 : Int32) = (0 : Int32)))).1 ?_
                show Steps p.tables e below (T174.setTop (mkF m 37 #[.val (.int x0), .val (.long x1), .second, .val (.long x2), .second, .val (.ref w_GREATER), .val (.ref w_LESS_OR_EQUAL), .unset, .unset, .unset] [])) _
                refine XS.iconst X174.here hx rfl (hb hby at_37) ?_
                show Steps p.tables e below (T174.setTop (mkF m 38 #[.val (.int x0), .val (.long x1), .second, .val (.long x2), .second, .val (.ref w_GREATER), .val (.ref w_LESS_OR_EQUAL), .unset, .unset, .unset] [(.int (1 : Int32))])) _
                refine XS.goto X174.here hx rfl (pc0 := 38) (pc' := 42) rfl (hb hby at_38) (by decide) (by decide) ?_
                show Steps p.tables e below (T174.setTop (mkF m 42 #[.val (.int x0), .val (.long x1), .second, .val (.long x2), .second, .val (.ref w_GREATER), .val (.ref w_LESS_OR_EQUAL), .unset, .unset, .unset] [(.int (1 : Int32))])) _
                refine XS.istore X174.here hx rfl (hb hby at_42) rfl (l' := #[.val (.int x0), .val (.long x1), .second, .val (.long x2), .second, .val (.ref w_GREATER), .val (.ref w_LESS_OR_EQUAL), .val (.int (1 : Int32)), .unset, .unset]) rfl ?_
                show Steps p.tables e below (T174.setTop (mkF m 44 #[.val (.int x0), .val (.long x1), .second, .val (.long x2), .second, .val (.ref w_GREATER), .val (.ref w_LESS_OR_EQUAL), .val (.int (1 : Int32)), .unset, .unset] [])) _
                refine XS.aload X174.here hx rfl (hb hby at_44) rfl rfl ?_
                show Steps p.tables e below (T174.setTop (mkF m 46 #[.val (.int x0), .val (.long x1), .second, .val (.long x2), .second, .val (.ref w_GREATER), .val (.ref w_LESS_OR_EQUAL), .val (.int (1 : Int32)), .unset, .unset] [(.ref w_LESS_OR_EQUAL)])) _
                refine XS.lloadN X174.here hx rfl (hb hby at_46) rfl ?_
                show Steps p.tables e below (T174.setTop (mkF m 47 #[.val (.int x0), .val (.long x1), .second, .val (.long x2), .second, .val (.ref w_GREATER), .val (.ref w_LESS_OR_EQUAL), .val (.int (1 : Int32)), .unset, .unset] [(.long x1), (.ref w_LESS_OR_EQUAL)])) _
                refine XS.lloadN X174.here hx rfl (hb hby at_47) rfl ?_
                show Steps p.tables e below (T174.setTop (mkF m 48 #[.val (.int x0), .val (.long x1), .second, .val (.long x2), .second, .val (.ref w_GREATER), .val (.ref w_LESS_OR_EQUAL), .val (.int (1 : Int32)), .unset, .unset] [(.long x1), (.long x1), (.ref w_LESS_OR_EQUAL)])) _
                refine st175.trans ?_
                show Steps p.tables e below (T175.setTop (mkF m 51 #[.val (.int x0), .val (.long x1), .second, .val (.long x2), .second, .val (.ref w_GREATER), .val (.ref w_LESS_OR_EQUAL), .val (.int (1 : Int32)), .unset, .unset] [(.int (1 : Int32))])) _
                refine XS.aload X175.here hx rfl (hb hby at_51) rfl rfl ?_
                show Steps p.tables e below (T175.setTop (mkF m 53 #[.val (.int x0), .val (.long x1), .second, .val (.long x2), .second, .val (.ref w_GREATER), .val (.ref w_LESS_OR_EQUAL), .val (.int (1 : Int32)), .unset, .unset] [(.ref w_GREATER), (.int (1 : Int32))])) _
                refine XS.lloadN X175.here hx rfl (hb hby at_53) rfl ?_
                show Steps p.tables e below (T175.setTop (mkF m 54 #[.val (.int x0), .val (.long x1), .second, .val (.long x2), .second, .val (.ref w_GREATER), .val (.ref w_LESS_OR_EQUAL), .val (.int (1 : Int32)), .unset, .unset] [(.long x1), (.ref w_GREATER), (.int (1 : Int32))])) _
                refine XS.lloadN X175.here hx rfl (hb hby at_54) rfl ?_
                show Steps p.tables e below (T175.setTop (mkF m 55 #[.val (.int x0), .val (.long x1), .second, .val (.long x2), .second, .val (.ref w_GREATER), .val (.ref w_LESS_OR_EQUAL), .val (.int (1 : Int32)), .unset, .unset] [(.long x1), (.long x1), (.ref w_GREATER), (.int (1 : Int32))])) _
                refine st176.trans ?_
                show Steps p.tables e below (T176.setTop (mkF m 58 #[.val (.int x0), .val (.long x1), .second, .val (.long x2), .second, .val (.ref w_GREATER), .val (.ref w_LESS_OR_EQUAL), .val (.int (1 : Int32)), .unset, .unset] [(.int (0 : Int32)), (.int (1 : Int32))])) _
                refine XS.icmpNo X176.here hx rfl (hb hby at_58) rfl (feq ((by decide) : ¬ ((1 : Int32) = (0 : Int32)))).1 ?_
                show Steps p.tables e below (T176.setTop (mkF m 61 #[.val (.int x0), .val (.long x1), .second, .val (.long x2), .second, .val (.ref w_GREATER), .val (.ref w_LESS_OR_EQUAL), .val (.int (1 : Int32)), .unset, .unset] [])) _
                refine XS.iconst X176.here hx rfl (hb hby at_61) ?_
                show Steps p.tables e below (T176.setTop (mkF m 62 #[.val (.int x0), .val (.long x1), .second, .val (.long x2), .second, .val (.ref w_GREATER), .val (.ref w_LESS_OR_EQUAL), .val (.int (1 : Int32)), .unset, .unset] [(.int (1 : Int32))])) _
                refine XS.goto X176.here hx rfl (pc0 := 62) (pc' := 66) rfl (hb hby at_62) (by decide) (by decide) ?_
                show Steps p.tables e below (T176.setTop (mkF m 66 #[.val (.int x0), .val (.long x1), .second, .val (.long x2), .second, .val (.ref w_GREATER), .val (.ref w_LESS_OR_EQUAL), .val (.int (1 : Int32)), .unset, .unset] [(.int (1 : Int32))])) _
                refine XS.istore X176.here hx rfl (hb hby at_66) rfl (l' := #[.val (.int x0), .val (.long x1), .second, .val (.long x2), .second, .val (.ref w_GREATER), .val (.ref w_LESS_OR_EQUAL), .val (.int (1 : Int32)), .val (.int (1 : Int32)), .unset]) rfl ?_
                show Steps p.tables e below (T176.setTop (mkF m 68 #[.val (.int x0), .val (.long x1), .second, .val (.long x2), .second, .val (.ref w_GREATER), .val (.ref w_LESS_OR_EQUAL), .val (.int (1 : Int32)), .val (.int (1 : Int32)), .unset] [])) _
                refine XS.aload X176.here hx rfl (hb hby at_68) rfl rfl ?_
                show Steps p.tables e below (T176.setTop (mkF m 70 #[.val (.int x0), .val (.long x1), .second, .val (.long x2), .second, .val (.ref w_GREATER), .val (.ref w_LESS_OR_EQUAL), .val (.int (1 : Int32)), .val (.int (1 : Int32)), .unset] [(.ref w_LESS_OR_EQUAL)])) _
                refine XS.lloadN X176.here hx rfl (hb hby at_70) rfl ?_
                show Steps p.tables e below (T176.setTop (mkF m 71 #[.val (.int x0), .val (.long x1), .second, .val (.long x2), .second, .val (.ref w_GREATER), .val (.ref w_LESS_OR_EQUAL), .val (.int (1 : Int32)), .val (.int (1 : Int32)), .unset] [(.long x2), (.ref w_LESS_OR_EQUAL)])) _
                refine XS.lloadN X176.here hx rfl (hb hby at_71) rfl ?_
                show Steps p.tables e below (T176.setTop (mkF m 72 #[.val (.int x0), .val (.long x1), .second, .val (.long x2), .second, .val (.ref w_GREATER), .val (.ref w_LESS_OR_EQUAL), .val (.int (1 : Int32)), .val (.int (1 : Int32)), .unset] [(.long x1), (.long x2), (.ref w_LESS_OR_EQUAL)])) _
                refine st177.trans ?_
                show Steps p.tables e below (T177.setTop (mkF m 75 #[.val (.int x0), .val (.long x1), .second, .val (.long x2), .second, .val (.ref w_GREATER), .val (.ref w_LESS_OR_EQUAL), .val (.int (1 : Int32)), .val (.int (1 : Int32)), .unset] [(.int (0 : Int32))])) _
                refine XS.aload X177.here hx rfl (hb hby at_75) rfl rfl ?_
                show Steps p.tables e below (T177.setTop (mkF m 77 #[.val (.int x0), .val (.long x1), .second, .val (.long x2), .second, .val (.ref w_GREATER), .val (.ref w_LESS_OR_EQUAL), .val (.int (1 : Int32)), .val (.int (1 : Int32)), .unset] [(.ref w_GREATER), (.int (0 : Int32))])) _
                refine XS.lloadN X177.here hx rfl (hb hby at_77) rfl ?_
                show Steps p.tables e below (T177.setTop (mkF m 78 #[.val (.int x0), .val (.long x1), .second, .val (.long x2), .second, .val (.ref w_GREATER), .val (.ref w_LESS_OR_EQUAL), .val (.int (1 : Int32)), .val (.int (1 : Int32)), .unset] [(.long x2), (.ref w_GREATER), (.int (0 : Int32))])) _
                refine XS.lloadN X177.here hx rfl (hb hby at_78) rfl ?_
                show Steps p.tables e below (T177.setTop (mkF m 79 #[.val (.int x0), .val (.long x1), .second, .val (.long x2), .second, .val (.ref w_GREATER), .val (.ref w_LESS_OR_EQUAL), .val (.int (1 : Int32)), .val (.int (1 : Int32)), .unset] [(.long x1), (.long x2), (.ref w_GREATER), (.int (0 : Int32))])) _
                refine st178.trans ?_
                show Steps p.tables e below (T178.setTop (mkF m 82 #[.val (.int x0), .val (.long x1), .second, .val (.long x2), .second, .val (.ref w_GREATER), .val (.ref w_LESS_OR_EQUAL), .val (.int (1 : Int32)), .val (.int (1 : Int32)), .unset] [(.int (1 : Int32)), (.int (0 : Int32))])) _
                refine XS.icmpNo X178.here hx rfl (hb hby at_82) rfl (feq ((by decide) : ¬ ((0 : Int32) = (1 : Int32)))).1 ?_
                show Steps p.tables e below (T178.setTop (mkF m 85 #[.val (.int x0), .val (.long x1), .second, .val (.long x2), .second, .val (.ref w_GREATER), .val (.ref w_LESS_OR_EQUAL), .val (.int (1 : Int32)), .val (.int (1 : Int32)), .unset] [])) _
                refine XS.iconst X178.here hx rfl (hb hby at_85) ?_
                show Steps p.tables e below (T178.setTop (mkF m 86 #[.val (.int x0), .val (.long x1), .second, .val (.long x2), .second, .val (.ref w_GREATER), .val (.ref w_LESS_OR_EQUAL), .val (.int (1 : Int32)), .val (.int (1 : Int32)), .unset] [(.int (1 : Int32))])) _
                refine XS.goto X178.here hx rfl (pc0 := 86) (pc' := 90) rfl (hb hby at_86) (by decide) (by decide) ?_
                show Steps p.tables e below (T178.setTop (mkF m 90 #[.val (.int x0), .val (.long x1), .second, .val (.long x2), .second, .val (.ref w_GREATER), .val (.ref w_LESS_OR_EQUAL), .val (.int (1 : Int32)), .val (.int (1 : Int32)), .unset] [(.int (1 : Int32))])) _
                refine XS.istore X178.here hx rfl (hb hby at_90) rfl (l' := #[.val (.int x0), .val (.long x1), .second, .val (.long x2), .second, .val (.ref w_GREATER), .val (.ref w_LESS_OR_EQUAL), .val (.int (1 : Int32)), .val (.int (1 : Int32)), .val (.int (1 : Int32))]) rfl ?_
                show Steps p.tables e below (T178.setTop (mkF m 92 #[.val (.int x0), .val (.long x1), .second, .val (.long x2), .second, .val (.ref w_GREATER), .val (.ref w_LESS_OR_EQUAL), .val (.int (1 : Int32)), .val (.int (1 : Int32)), .val (.int (1 : Int32))] [])) _
                refine XS.iload X178.here hx rfl (hb hby at_92) rfl ?_
                show Steps p.tables e below (T178.setTop (mkF m 94 #[.val (.int x0), .val (.long x1), .second, .val (.long x2), .second, .val (.ref w_GREATER), .val (.ref w_LESS_OR_EQUAL), .val (.int (1 : Int32)), .val (.int (1 : Int32)), .val (.int (1 : Int32))] [(.int (1 : Int32))])) _
                refine XS.ifNo X178.here hx rfl (hb hby at_94) rfl ((if0 _ _).trans (feq ((by decide) : ¬ ((1 : Int32) = (0 : Int32)))).1) ?_
                show Steps p.tables e below (T178.setTop (mkF m 97 #[.val (.int x0), .val (.long x1), .second, .val (.long x2), .second, .val (.ref w_GREATER), .val (.ref w_LESS_OR_EQUAL), .val (.int (1 : Int32)), .val (.int (1 : Int32)), .val (.int (1 : Int32))] [])) _
                refine XS.iload X178.here hx rfl (hb hby at_97) rfl ?_
                show Steps p.tables e below (T178.setTop (mkF m 99 #[.val (.int x0), .val (.long x1), .second, .val (.long x2), .second, .val (.ref w_GREATER), .val (.ref w_LESS_OR_EQUAL), .val (.int (1 : Int32)), .val (.int (1 : Int32)), .val (.int (1 : Int32))] [(.int (1 : Int32))])) _
                refine XS.ifNo X178.here hx rfl (hb hby at_99) rfl ((if0 _ _).trans (feq ((by decide) : ¬ ((1 : Int32) = (0 : Int32)))).1) ?_
                show Steps p.tables e below (T178.setTop (mkF m 102 #[.val (.int x0), .val (.long x1), .second, .val (.long x2), .second, .val (.ref w_GREATER), .val (.ref w_LESS_OR_EQUAL), .val (.int (1 : Int32)), .val (.int (1 : Int32)), .val (.int (1 : Int32))] [])) _
                refine XS.iload X178.here hx rfl (hb hby at_102) rfl ?_
                show Steps p.tables e below (T178.setTop (mkF m 104 #[.val (.int x0), .val (.long x1), .second, .val (.long x2), .second, .val (.ref w_GREATER), .val (.ref w_LESS_OR_EQUAL), .val (.int (1 : Int32)), .val (.int (1 : Int32)), .val (.int (1 : Int32))] [(.int (1 : Int32))])) _
                refine XS.ifNo X178.here hx rfl (hb hby at_104) rfl ((if0 _ _).trans (feq ((by decide) : ¬ ((1 : Int32) = (0 : Int32)))).1) ?_
                show Steps p.tables e below (T178.setTop (mkF m 107 #[.val (.int x0), .val (.long x1), .second, .val (.long x2), .second, .val (.ref w_GREATER), .val (.ref w_LESS_OR_EQUAL), .val (.int (1 : Int32)), .val (.int (1 : Int32)), .val (.int (1 : Int32))] [])) _
                refine XS.iconst X178.here hx rfl (hb hby at_107) ?_
                show Steps p.tables e below (T178.setTop (mkF m 108 #[.val (.int x0), .val (.long x1), .second, .val (.long x2), .second, .val (.ref w_GREATER), .val (.ref w_LESS_OR_EQUAL), .val (.int (1 : Int32)), .val (.int (1 : Int32)), .val (.int (1 : Int32))] [(.int (1 : Int32))])) _
                refine XS.goto X178.here hx rfl (pc0 := 108) (pc' := 112) rfl (hb hby at_108) (by decide) (by decide) ?_
                exact kk)
              obtain ⟨fs, hr, hrun, hended, hW, hsame⟩ := X178.leave (v := some (.int (1 : Int32))) (fun h => by rw [Bd.returns] at h; cases h)
              refine ⟨_, _, pre179 _ ?_, hrun, hended, _, _, rfl, ?_, ⟨_, rfl⟩, hW, hsame.mono (by decide) (by decide)⟩
              · exact retN X178 hx (t := .boolean) Bd.returns (by simp) (hb hby at_112) hr
              · exact ⟨rfl, N178⟩
            ·
              by_cases hc180 : (lcmpW x1 x2) = (0 : Int32)
              ·
                obtain ⟨cq181, kq181, q181a, q181b, q181c⟩ := isOf hZ e170 E_w_LESS_OR_EQUAL
                obtain ⟨_, _, ⟨T181, L181, k181, n181⟩, -, X181, ⟨Lc181, hQ181, l181, y181, z181⟩, st181⟩ := X170.virtualBack hx (y := (⟨"com/example/latticut/latticut/lang/Comparison", "test", "(JJ)Z"⟩ : MethodName)) (z := (⟨"com/example/latticut/latticut/lang/Comparison", "test", "(JJ)Z"⟩ : MethodName)) hown (mvT hZ (hw _ (List.mem_of_getElem? (i := 16) rfl))) (mvT hZ (hw _ (List.mem_of_getElem? (i := 17) rfl))) (notFace_of_selects (args := #[]) (mvT hZ (hw _ (List.mem_of_getElem? (i := 19) rfl)))) (mvT hZ (hw _ (List.mem_of_getElem? (i := 19) rfl))) (mvT hZ (hw _ (List.mem_of_getElem? (i := 18) rfl))) (by decide) (backOf (W := 0) (rm20 l Z a0 hw [] w_LESS_OR_EQUAL x1 x2 h0 n0 Z0 hc172 hc180 F_whenEqual_w_LESS_OR_EQUAL E_w_LESS_OR_EQUAL) hZ (hw _ (List.mem_of_getElem? (i := 20) rfl)) (hw _ (List.mem_of_getElem? (i := 6) rfl)) (by decide) (by decide)) q181a q181c (g := (mkF m 24 #[.val (.int x0), .val (.long x1), .second, .val (.long x2), .second, .val (.ref w_GREATER), .val (.ref w_LESS_OR_EQUAL), .unset, .unset, .unset] [(.long x2), (.long x1), (.ref w_LESS_OR_EQUAL)])) rfl (by rw [hml]; rfl) (Steps.refl _) (argsL := [(.long x1), (.long x2)]) (rest := []) (lenOf pd_4 rfl) rfl (by show 2 * 0 + _ ≤ _; exact Nat.le_of_eq rfl) (hb hby at_24) (fun _ _ => ⟨rfl, e170, (by decide : 0 + 0 ≤ _), (by decide : 0 + 0 ≤ _)⟩)
                dsimp only [Pt.U, Pt.locs, Pt.cells, Pt.slots] at X181 l181 y181 z181 st181 hQ181
                subst l181 y181 z181
                obtain ⟨rfl, N181q, e181⟩ := hQ181
                have N181 := Fr.app N170 N181q
                obtain ⟨cq182, kq182, q182a, q182b, q182c⟩ := isOf hZ e181 E_w_GREATER
                obtain ⟨_, _, ⟨T182, L182, k182, n182⟩, -, X182, ⟨Lc182, hQ182, l182, y182, z182⟩, st182⟩ := X181.virtualBack hx (y := (⟨"com/example/latticut/latticut/lang/Comparison", "test", "(JJ)Z"⟩ : MethodName)) (z := (⟨"com/example/latticut/latticut/lang/Comparison", "test", "(JJ)Z"⟩ : MethodName)) hown (mvT hZ (hw _ (List.mem_of_getElem? (i := 16) rfl))) (mvT hZ (hw _ (List.mem_of_getElem? (i := 17) rfl))) (notFace_of_selects (args := #[]) (mvT hZ (hw _ (List.mem_of_getElem? (i := 19) rfl)))) (mvT hZ (hw _ (List.mem_of_getElem? (i := 19) rfl))) (mvT hZ (hw _ (List.mem_of_getElem? (i := 18) rfl))) (by decide) (backOf (W := 1) (rm19 l Z a0 hw [] w_GREATER x1 x2 h0 n0 Z0 hc172 hc180 F_whenEqual_w_GREATER E_w_GREATER) hZ (hw _ (List.mem_of_getElem? (i := 20) rfl)) (hw _ (List.mem_of_getElem? (i := 6) rfl)) (by decide) (by decide)) q182a q182c (g := (mkF m 31 #[.val (.int x0), .val (.long x1), .second, .val (.long x2), .second, .val (.ref w_GREATER), .val (.ref w_LESS_OR_EQUAL), .unset, .unset, .unset] [(.long x2), (.long x1), (.ref w_GREATER), (.int (1 : Int32))])) rfl (by rw [hml]; rfl) (Steps.refl _) (argsL := [(.long x1), (.long x2)]) (rest := [(.int (1 : Int32))]) (lenOf pd_4 rfl) rfl (by show 2 * 0 + _ ≤ _; exact Nat.le_of_eq rfl) (hb hby at_31) (fun _ _ => ⟨rfl, e181, (by decide : 0 + 0 ≤ _), (by decide : 0 + 0 ≤ _)⟩)
                dsimp only [Pt.U, Pt.locs, Pt.cells, Pt.slots] at X182 l182 y182 z182 st182 hQ182
                subst l182 y182 z182
                obtain ⟨rfl, N182q, e182⟩ := hQ182
                have N182 := Fr.app N181 N182q
                obtain ⟨cq183, kq183, q183a, q183b, q183c⟩ := isOf hZ e182 E_w_LESS_OR_EQUAL
                obtain ⟨_, _, ⟨T183, L183, k183, n183⟩, -, X183, ⟨Lc183, hQ183, l183, y183, z183⟩, st183⟩ := X182.virtualBack hx (y := (⟨"com/example/latticut/latticut/lang/Comparison", "test", "(JJ)Z"⟩ : MethodName)) (z := (⟨"com/example/latticut/latticut/lang/Comparison", "test", "(JJ)Z"⟩ : MethodName)) hown (mvT hZ (hw _ (List.mem_of_getElem? (i := 16) rfl))) (mvT hZ (hw _ (List.mem_of_getElem? (i := 17) rfl))) (notFace_of_selects (args := #[]) (mvT hZ (hw _ (List.mem_of_getElem? (i := 19) rfl)))) (mvT hZ (hw _ (List.mem_of_getElem? (i := 19) rfl))) (mvT hZ (hw _ (List.mem_of_getElem? (i := 18) rfl))) (by decide) (backOf (W := 0) (rm12 l Z a0 hw [] w_LESS_OR_EQUAL x1 h0 n0 Z0 ((own_ar4 x1 x2 hc172 hc180)) ((own_ar5 x1 x2 hc172 hc180)) F_whenEqual_w_LESS_OR_EQUAL E_w_LESS_OR_EQUAL) hZ (hw _ (List.mem_of_getElem? (i := 20) rfl)) (hw _ (List.mem_of_getElem? (i := 6) rfl)) (by decide) (by decide)) q183a q183c (g := (mkF m 48 #[.val (.int x0), .val (.long x1), .second, .val (.long x2), .second, .val (.ref w_GREATER), .val (.ref w_LESS_OR_EQUAL), .val (.int (1 : Int32)), .unset, .unset] [(.long x1), (.long x1), (.ref w_LESS_OR_EQUAL)])) rfl (by rw [hml]; rfl) (Steps.refl _) (argsL := [(.long x1), (.long x1)]) (rest := []) (lenOf pd_4 rfl) rfl (by show 2 * 0 + _ ≤ _; exact Nat.le_of_eq rfl) (hb hby at_48) (fun _ _ => ⟨rfl, e182, (by decide : 0 + 0 ≤ _), (by decide : 0 + 0 ≤ _)⟩)
                dsimp only [Pt.U, Pt.locs, Pt.cells, Pt.slots] at X183 l183 y183 z183 st183 hQ183
                subst l183 y183 z183
                obtain ⟨rfl, N183q, e183⟩ := hQ183
                have N183 := Fr.app N182 N183q
                obtain ⟨cq184, kq184, q184a, q184b, q184c⟩ := isOf hZ e183 E_w_GREATER
                obtain ⟨_, _, ⟨T184, L184, k184, n184⟩, -, X184, ⟨Lc184, hQ184, l184, y184, z184⟩, st184⟩ := X183.virtualBack hx (y := (⟨"com/example/latticut/latticut/lang/Comparison", "test", "(JJ)Z"⟩ : MethodName)) (z := (⟨"com/example/latticut/latticut/lang/Comparison", "test", "(JJ)Z"⟩ : MethodName)) hown (mvT hZ (hw _ (List.mem_of_getElem? (i := 16) rfl))) (mvT hZ (hw _ (List.mem_of_getElem? (i := 17) rfl))) (notFace_of_selects (args := #[]) (mvT hZ (hw _ (List.mem_of_getElem? (i := 19) rfl)))) (mvT hZ (hw _ (List.mem_of_getElem? (i := 19) rfl))) (mvT hZ (hw _ (List.mem_of_getElem? (i := 18) rfl))) (by decide) (backOf (W := 1) (rm10 l Z a0 hw [] w_GREATER x1 h0 n0 Z0 ((own_ar4 x1 x2 hc172 hc180)) ((own_ar5 x1 x2 hc172 hc180)) F_whenEqual_w_GREATER E_w_GREATER) hZ (hw _ (List.mem_of_getElem? (i := 20) rfl)) (hw _ (List.mem_of_getElem? (i := 6) rfl)) (by decide) (by decide)) q184a q184c (g := (mkF m 55 #[.val (.int x0), .val (.long x1), .second, .val (.long x2), .second, .val (.ref w_GREATER), .val (.ref w_LESS_OR_EQUAL), .val (.int (1 : Int32)), .unset, .unset] [(.long x1), (.long x1), (.ref w_GREATER), (.int (1 : Int32))])) rfl (by rw [hml]; rfl) (Steps.refl _) (argsL := [(.long x1), (.long x1)]) (rest := [(.int (1 : Int32))]) (lenOf pd_4 rfl) rfl (by show 2 * 0 + _ ≤ _; exact Nat.le_of_eq rfl) (hb hby at_55) (fun _ _ => ⟨rfl, e183, (by decide : 0 + 0 ≤ _), (by decide : 0 + 0 ≤ _)⟩)
                dsimp only [Pt.U, Pt.locs, Pt.cells, Pt.slots] at X184 l184 y184 z184 st184 hQ184
                subst l184 y184 z184
                obtain ⟨rfl, N184q, e184⟩ := hQ184
                have N184 := Fr.app N183 N184q
                obtain ⟨cq185, kq185, q185a, q185b, q185c⟩ := isOf hZ e184 E_w_LESS_OR_EQUAL
                obtain ⟨_, _, ⟨T185, L185, k185, n185⟩, -, X185, ⟨Lc185, hQ185, l185, y185, z185⟩, st185⟩ := X184.virtualBack hx (y := (⟨"com/example/latticut/latticut/lang/Comparison", "test", "(JJ)Z"⟩ : MethodName)) (z := (⟨"com/example/latticut/latticut/lang/Comparison", "test", "(JJ)Z"⟩ : MethodName)) hown (mvT hZ (hw _ (List.mem_of_getElem? (i := 16) rfl))) (mvT hZ (hw _ (List.mem_of_getElem? (i := 17) rfl))) (notFace_of_selects (args := #[]) (mvT hZ (hw _ (List.mem_of_getElem? (i := 19) rfl)))) (mvT hZ (hw _ (List.mem_of_getElem? (i := 19) rfl))) (mvT hZ (hw _ (List.mem_of_getElem? (i := 18) rfl))) (by decide) (backOf (W := 0) (rm20 l Z a0 hw [] w_LESS_OR_EQUAL x2 x1 h0 n0 Z0 ((own_ar6 x1 x2 hc172 hc180)) ((own_ar7 x1 x2 hc172 hc180)) F_whenEqual_w_LESS_OR_EQUAL E_w_LESS_OR_EQUAL) hZ (hw _ (List.mem_of_getElem? (i := 20) rfl)) (hw _ (List.mem_of_getElem? (i := 6) rfl)) (by decide) (by decide)) q185a q185c (g := (mkF m 72 #[.val (.int x0), .val (.long x1), .second, .val (.long x2), .second, .val (.ref w_GREATER), .val (.ref w_LESS_OR_EQUAL), .val (.int (1 : Int32)), .val (.int (1 : Int32)), .unset] [(.long x1), (.long x2), (.ref w_LESS_OR_EQUAL)])) rfl (by rw [hml]; rfl) (Steps.refl _) (argsL := [(.long x2), (.long x1)]) (rest := []) (lenOf pd_4 rfl) rfl (by show 2 * 0 + _ ≤ _; exact Nat.le_of_eq rfl) (hb hby at_72) (fun _ _ => ⟨rfl, e184, (by decide : 0 + 0 ≤ _), (by decide : 0 + 0 ≤ _)⟩)
                dsimp only [Pt.U, Pt.locs, Pt.cells, Pt.slots] at X185 l185 y185 z185 st185 hQ185
                subst l185 y185 z185
                obtain ⟨rfl, N185q, e185⟩ := hQ185
                have N185 := Fr.app N184 N185q
                obtain ⟨cq186, kq186, q186a, q186b, q186c⟩ := isOf hZ e185 E_w_GREATER
                obtain ⟨_, _, ⟨T186, L186, k186, n186⟩, -, X186, ⟨Lc186, hQ186, l186, y186, z186⟩, st186⟩ := X185.virtualBack hx (y := (⟨"com/example/latticut/latticut/lang/Comparison", "test", "(JJ)Z"⟩ : MethodName)) (z := (⟨"com/example/latticut/latticut/lang/Comparison", "test", "(JJ)Z"⟩ : MethodName)) hown (mvT hZ (hw _ (List.mem_of_getElem? (i := 16) rfl))) (mvT hZ (hw _ (List.mem_of_getElem? (i := 17) rfl))) (notFace_of_selects (args := #[]) (mvT hZ (hw _ (List.mem_of_getElem? (i := 19) rfl)))) (mvT hZ (hw _ (List.mem_of_getElem? (i := 19) rfl))) (mvT hZ (hw _ (List.mem_of_getElem? (i := 18) rfl))) (by decide) (backOf (W := 1) (rm19 l Z a0 hw [] w_GREATER x2 x1 h0 n0 Z0 ((own_ar6 x1 x2 hc172 hc180)) ((own_ar7 x1 x2 hc172 hc180)) F_whenEqual_w_GREATER E_w_GREATER) hZ (hw _ (List.mem_of_getElem? (i := 20) rfl)) (hw _ (List.mem_of_getElem? (i := 6) rfl)) (by decide) (by decide)) q186a q186c (g := (mkF m 79 #[.val (.int x0), .val (.long x1), .second, .val (.long x2), .second, .val (.ref w_GREATER), .val (.ref w_LESS_OR_EQUAL), .val (.int (1 : Int32)), .val (.int (1 : Int32)), .unset] [(.long x1), (.long x2), (.ref w_GREATER), (.int (1 : Int32))])) rfl (by rw [hml]; rfl) (Steps.refl _) (argsL := [(.long x2), (.long x1)]) (rest := [(.int (1 : Int32))]) (lenOf pd_4 rfl) rfl (by show 2 * 0 + _ ≤ _; exact Nat.le_of_eq rfl) (hb hby at_79) (fun _ _ => ⟨rfl, e185, (by decide : 0 + 0 ≤ _), (by decide : 0 + 0 ≤ _)⟩)
                dsimp only [Pt.U, Pt.locs, Pt.cells, Pt.slots] at X186 l186 y186 z186 st186 hQ186
                subst l186 y186 z186
                obtain ⟨rfl, N186q, e186⟩ := hQ186
                have N186 := Fr.app N185 N186q
                have pre187 : ∀ t, Steps p.tables e below (T186.setTop (mkF m 112 #[.val (.int x0), .val (.long x1), .second, .val (.long x2), .second, .val (.ref w_GREATER), .val (.ref w_LESS_OR_EQUAL), .val (.int (1 : Int32)), .val (.int (1 : Int32)), .val (.int (1 : Int32))] [(.int (1 : Int32))])) t → Steps p.tables e below (s₁.setTop (entryFrame m #[(.int x0), (.long x1), (.long x2)] maxLocals)) t := fun t kk => pre171 t (by
                  show Steps p.tables e below (T170.setTop (mkF m 24 #[.val (.int x0), .val (.long x1), .second, .val (.long x2), .second, .val (.ref w_GREATER), .val (.ref w_LESS_OR_EQUAL), .unset, .unset, .unset] [(.long x2), (.long x1), (.ref w_LESS_OR_EQUAL)])) _
                  refine st181.trans ?_
                  show Steps p.tables e below (T181.setTop (mkF m 27 #[.val (.int x0), .val (.long x1), .second, .val (.long x2), .second, .val (.ref w_GREATER), .val (.ref w_LESS_OR_EQUAL), .unset, .unset, .unset] [(.int (1 : Int32))])) _
                  refine XS.aload X181.here hx rfl (hb hby at_27) rfl rfl ?_
                  show Steps p.tables e below (T181.setTop (mkF m 29 #[.val (.int x0), .val (.long x1), .second, .val (.long x2), .second, .val (.ref w_GREATER), .val (.ref w_LESS_OR_EQUAL), .unset, .unset, .unset] [(.ref w_GREATER), (.int (1 : Int32))])) _
                  refine XS.lloadN X181.here hx rfl (hb hby at_29) rfl ?_
                  show Steps p.tables e below (T181.setTop (mkF m 30 #[.val (.int x0), .val (.long x1), .second, .val (.long x2), .second, .val (.ref w_GREATER), .val (.ref w_LESS_OR_EQUAL), .unset, .unset, .unset] [(.long x1), (.ref w_GREATER), (.int (1 : Int32))])) _
                  refine XS.lloadN X181.here hx rfl (hb hby at_30) rfl ?_
                  show Steps p.tables e below (T181.setTop (mkF m 31 #[.val (.int x0), .val (.long x1), .second, .val (.long x2), .second, .val (.ref w_GREATER), .val (.ref w_LESS_OR_EQUAL), .unset, .unset, .unset] [(.long x2), (.long x1), (.ref w_GREATER), (.int (1 : Int32))])) _
                  refine st182.trans ?_
                  show Steps p.tables e below (T182.setTop (mkF m 34 #[.val (.int x0), .val (.long x1), .second, .val (.long x2), .second, .val (.ref w_GREATER), .val (.ref w_LESS_OR_EQUAL), .unset, .unset, .unset] [(.int (0 : Int32)), (.int (1 : Int32))])) _
                  refine XS.icmpNo X182.here hx rfl (hb hby at_34) rfl (feq ((by decide) : ¬ ((1 : Int32) = (0 : Int32)))).1 ?_
                  show Steps p.tables e below (T182.setTop (mkF m 37 #[.val (.int x0), .val (.long x1), .second, .val (.long x2), .second, .val (.ref w_GREATER), .val (.ref w_LESS_OR_EQUAL), .unset, .unset, .unset] [])) _
                  refine XS.iconst X182.here hx rfl (hb hby at_37) ?_
                  show Steps p.tables e below (T182.setTop (mkF m 38 #[.val (.int x0), .val (.long x1), .second, .val (.long x2), .second, .val (.ref w_GREATER), .val (.ref w_LESS_OR_EQUAL), .unset, .unset, .unset] [(.int (1 : Int32))])) _
                  refine XS.goto X182.here hx rfl (pc0 := 38) (pc' := 42) rfl (hb hby at_38) (by decide) (by decide) ?_
                  show Steps p.tables e below (T182.setTop (mkF m 42 #[.val (.int x0), .val (.long x1), .second, .val (.long x2), .second, .val (.ref w_GREATER), .val (.ref w_LESS_OR_EQUAL), .unset, .unset, .unset] [(.int (1 : Int32))])) _
                  refine XS.istore X182.here hx rfl (hb hby at_42) rfl (l' := #[.val (.int x0), .val (.long x1), .second, .val (.long x2), .second, .val (.ref w_GREATER), .val (.ref w_LESS_OR_EQUAL), .val (.int (1 : Int32)), .unset, .unset]) rfl ?_
                  show Steps p.tables e below (T182.setTop (mkF m 44 #[.val (.int x0), .val (.long x1), .second, .val (.long x2), .second, .val (.ref w_GREATER), .val (.ref w_LESS_OR_EQUAL), .val (.int (1 : Int32)), .unset, .unset] [])) _
                  refine XS.aload X182.here hx rfl (hb hby at_44) rfl rfl ?_
                  show Steps p.tables e below (T182.setTop (mkF m 46 #[.val (.int x0), .val (.long x1), .second, .val (.long x2), .second, .val (.ref w_GREATER), .val (.ref w_LESS_OR_EQUAL), .val (.int (1 : Int32)), .unset, .unset] [(.ref w_LESS_OR_EQUAL)])) _
                  refine XS.lloadN X182.here hx rfl (hb hby at_46) rfl ?_
                  show Steps p.tables e below (T182.setTop (mkF m 47 #[.val (.int x0), .val (.long x1), .second, .val (.long x2), .second, .val (.ref w_GREATER), .val (.ref w_LESS_OR_EQUAL), .val (.int (1 : Int32)), .unset, .unset] [(.long x1), (.ref w_LESS_OR_EQUAL)])) _
                  refine XS.lloadN X182.here hx rfl (hb hby at_47) rfl ?_
                  show Steps p.tables e below (T182.setTop (mkF m 48 #[.val (.int x0), .val (.long x1), .second, .val (.long x2), .second, .val (.ref w_GREATER), .val (.ref w_LESS_OR_EQUAL), .val (.int (1 : Int32)), .unset, .unset] [(.long x1), (.long x1), (.ref w_LESS_OR_EQUAL)])) _
                  refine st183.trans ?_
                  show Steps p.tables e below (T183.setTop (mkF m 51 #[.val (.int x0), .val (.long x1), .second, .val (.long x2), .second, .val (.ref w_GREATER), .val (.ref w_LESS_OR_EQUAL), .val (.int (1 : Int32)), .unset, .unset] [(.int (1 : Int32))])) _
                  refine XS.aload X183.here hx rfl (hb hby at_51) rfl rfl ?_
                  show Steps p.tables e below (T183.setTop (mkF m 53 #[.val (.int x0), .val (.long x1), .second, .val (.long x2), .second, .val (.ref w_GREATER), .val (.ref w_LESS_OR_EQUAL), .val (.int (1 : Int32)), .unset, .unset] [(.ref w_GREATER), (.int (1 : Int32))])) _
                  refine XS.lloadN X183.here hx rfl (hb hby at_53) rfl ?_
                  show Steps p.tables e below (T183.setTop (mkF m 54 #[.val (.int x0), .val (.long x1), .second, .val (.long x2), .second, .val (.ref w_GREATER), .val (.ref w_LESS_OR_EQUAL), .val (.int (1 : Int32)), .unset, .unset] [(.long x1), (.ref w_GREATER), (.int (1 : Int32))])) _
                  refine XS.lloadN X183.here hx rfl (hb hby at_54) rfl ?_
                  show Steps p.tables e below (T183.setTop (mkF m 55 #[.val (.int x0), .val (.long x1), .second, .val (.long x2), .second, .val (.ref w_GREATER), .val (.ref w_LESS_OR_EQUAL), .val (.int (1 : Int32)), .unset, .unset] [(.long x1), (.long x1), (.ref w_GREATER), (.int (1 : Int32))])) _
                  refine st184.trans ?_
                  show Steps p.tables e below (T184.setTop (mkF m 58 #[.val (.int x0), .val (.long x1), .second, .val (.long x2), .second, .val (.ref w_GREATER), .val (.ref w_LESS_OR_EQUAL), .val (.int (1 : Int32)), .unset, .unset] [(.int (0 : Int32)), (.int (1 : Int32))])) _
                  refine XS.icmpNo X184.here hx rfl (hb hby at_58) rfl (feq ((by decide) : ¬ ((1 : Int32) = (0 : Int32)))).1 ?_
                  show Steps p.tables e below (T184.setTop (mkF m 61 #[.val (.int x0), .val (.long x1), .second, .val (.long x2), .second, .val (.ref w_GREATER), .val (.ref w_LESS_OR_EQUAL), .val (.int (1 : Int32)), .unset, .unset] [])) _
                  refine XS.iconst X184.here hx rfl (hb hby at_61) ?_
                  show Steps p.tables e below (T184.setTop (mkF m 62 #[.val (.int x0), .val (.long x1), .second, .val (.long x2), .second, .val (.ref w_GREATER), .val (.ref w_LESS_OR_EQUAL), .val (.int (1 : Int32)), .unset, .unset] [(.int (1 : Int32))])) _
                  refine XS.goto X184.here hx rfl (pc0 := 62) (pc' := 66) rfl (hb hby at_62) (by decide) (by decide) ?_
                  show Steps p.tables e below (T184.setTop (mkF m 66 #[.val (.int x0), .val (.long x1), .second, .val (.long x2), .second, .val (.ref w_GREATER), .val (.ref w_LESS_OR_EQUAL), .val (.int (1 : Int32)), .unset, .unset] [(.int (1 : Int32))])) _
                  refine XS.istore X184.here hx rfl (hb hby at_66) rfl (l' := #[.val (.int x0), .val (.long x1), .second, .val (.long x2), .second, .val (.ref w_GREATER), .val (.ref w_LESS_OR_EQUAL), .val (.int (1 : Int32)), .val (.int (1 : Int32)), .unset]) rfl ?_
                  show Steps p.tables e below (T184.setTop (mkF m 68 #[.val (.int x0), .val (.long x1), .second, .val (.long x2), .second, .val (.ref w_GREATER), .val (.ref w_LESS_OR_EQUAL), .val (.int (1 : Int32)), .val (.int (1 : Int32)), .unset] [])) _
                  refine XS.aload X184.here hx rfl (hb hby at_68) rfl rfl ?_
                  show Steps p.tables e below (T184.setTop (mkF m 70 #[.val (.int x0), .val (.long x1), .second, .val (.long x2), .second, .val (.ref w_GREATER), .val (.ref w_LESS_OR_EQUAL), .val (.int (1 : Int32)), .val (.int (1 : Int32)), .unset] [(.ref w_LESS_OR_EQUAL)])) _
                  refine XS.lloadN X184.here hx rfl (hb hby at_70) rfl ?_
                  show Steps p.tables e below (T184.setTop (mkF m 71 #[.val (.int x0), .val (.long x1), .second, .val (.long x2), .second, .val (.ref w_GREATER), .val (.ref w_LESS_OR_EQUAL), .val (.int (1 : Int32)), .val (.int (1 : Int32)), .unset] [(.long x2), (.ref w_LESS_OR_EQUAL)])) _
                  refine XS.lloadN X184.here hx rfl (hb hby at_71) rfl ?_
                  show Steps p.tables e below (T184.setTop (mkF m 72 #[.val (.int x0), .val (.long x1), .second, .val (.long x2), .second, .val (.ref w_GREATER), .val (.ref w_LESS_OR_EQUAL), .val (.int (1 : Int32)), .val (.int (1 : Int32)), .unset] [(.long x1), (.long x2), (.ref w_LESS_OR_EQUAL)])) _
                  refine st185.trans ?_
                  show Steps p.tables e below (T185.setTop (mkF m 75 #[.val (.int x0), .val (.long x1), .second, .val (.long x2), .second, .val (.ref w_GREATER), .val (.ref w_LESS_OR_EQUAL), .val (.int (1 : Int32)), .val (.int (1 : Int32)), .unset] [(.int (1 : Int32))])) _
                  refine XS.aload X185.here hx rfl (hb hby at_75) rfl rfl ?_
                  show Steps p.tables e below (T185.setTop (mkF m 77 #[.val (.int x0), .val (.long x1), .second, .val (.long x2), .second, .val (.ref w_GREATER), .val (.ref w_LESS_OR_EQUAL), .val (.int (1 : Int32)), .val (.int (1 : Int32)), .unset] [(.ref w_GREATER), (.int (1 : Int32))])) _
                  refine XS.lloadN X185.here hx rfl (hb hby at_77) rfl ?_
                  show Steps p.tables e below (T185.setTop (mkF m 78 #[.val (.int x0), .val (.long x1), .second, .val (.long x2), .second, .val (.ref w_GREATER), .val (.ref w_LESS_OR_EQUAL), .val (.int (1 : Int32)), .val (.int (1 : Int32)), .unset] [(.long x2), (.ref w_GREATER), (.int (1 : Int32))])) _
                  refine XS.lloadN X185.here hx rfl (hb hby at_78) rfl ?_
                  show Steps p.tables e below (T185.setTop (mkF m 79 #[.val (.int x0), .val (.long x1), .second, .val (.long x2), .second, .val (.ref w_GREATER), .val (.ref w_LESS_OR_EQUAL), .val (.int (1 : Int32)), .val (.int (1 : Int32)), .unset] [(.long x1), (.long x2), (.ref w_GREATER), (.int (1 : Int32))])) _
                  refine st186.trans ?_
                  show Steps p.tables e below (T186.setTop (mkF m 82 #[.val (.int x0), .val (.long x1), .second, .val (.long x2), .second, .val (.ref w_GREATER), .val (.ref w_LESS_OR_EQUAL), .val (.int (1 : Int32)), .val (.int (1 : Int32)), .unset] [(.int (0 : Int32)), (.int (1 : Int32))])) _
                  refine XS.icmpNo X186.here hx rfl (hb hby at_82) rfl (feq ((by decide) : ¬ ((1 : Int32) = (0 : Int32)))).1 ?_
                  show Steps p.tables e below (T186.setTop (mkF m 85 #[.val (.int x0), .val (.long x1), .second, .val (.long x2), .second, .val (.ref w_GREATER), .val (.ref w_LESS_OR_EQUAL), .val (.int (1 : Int32)), .val (.int (1 : Int32)), .unset] [])) _
                  refine XS.iconst X186.here hx rfl (hb hby at_85) ?_
                  show Steps p.tables e below (T186.setTop (mkF m 86 #[.val (.int x0), .val (.long x1), .second, .val (.long x2), .second, .val (.ref w_GREATER), .val (.ref w_LESS_OR_EQUAL), .val (.int (1 : Int32)), .val (.int (1 : Int32)), .unset] [(.int (1 : Int32))])) _
                  refine XS.goto X186.here hx rfl (pc0 := 86) (pc' := 90) rfl (hb hby at_86) (by decide) (by decide) ?_
                  show Steps p.tables e below (T186.setTop (mkF m 90 #[.val (.int x0), .val (.long x1), .second, .val (.long x2), .second, .val (.ref w_GREATER), .val (.ref w_LESS_OR_EQUAL), .val (.int (1 : Int32)), .val (.int (1 : Int32)), .unset] [(.int (1 : Int32))])) _
                  refine XS.istore X186.here hx rfl (hb hby at_90) rfl (l' := #[.val (.int x0), .val (.long x1), .second, .val (.long x2), .second, .val (.ref w_GREATER), .val (.ref w_LESS_OR_EQUAL), .val (.int (1 : Int32)), .val (.int (1 : Int32)), .val (.int (1 : Int32))]) rfl ?_
                  show Steps p.tables e below (T186.setTop (mkF m 92 #[.val (.int x0), .val (.long x1), .second, .val (.long x2), .second, .val (.ref w_GREATER), .val (.ref w_LESS_OR_EQUAL), .val (.int (1 : Int32)), .val (.int (1 : Int32)), .val (.int (1 : Int32))] [])) _
                  refine XS.iload X186.here hx rfl (hb hby at_92) rfl ?_
                  show Steps p.tables e below (T186.setTop (mkF m 94 #[.val (.int x0), .val (.long x1), .second, .val (.long x2), .second, .val (.ref w_GREATER), .val (.ref w_LESS_OR_EQUAL), .val (.int (1 : Int32)), .val (.int (1 : Int32)), .val (.int (1 : Int32))] [(.int (1 : Int32))])) _
                  refine XS.ifNo X186.here hx rfl (hb hby at_94) rfl ((if0 _ _).trans (feq ((by decide) : ¬ ((1 : Int32) = (0 : Int32)))).1) ?_
                  show Steps p.tables e below (T186.setTop (mkF m 97 #[.val (.int x0), .val (.long x1), .second, .val (.long x2), .second, .val (.ref w_GREATER), .val (.ref w_LESS_OR_EQUAL), .val (.int (1 : Int32)), .val (.int (1 : Int32)), .val (.int (1 : Int32))] [])) _
                  refine XS.iload X186.here hx rfl (hb hby at_97) rfl ?_
                  show Steps p.tables e below (T186.setTop (mkF m 99 #[.val (.int x0), .val (.long x1), .second, .val (.long x2), .second, .val (.ref w_GREATER), .val (.ref w_LESS_OR_EQUAL), .val (.int (1 : Int32)), .val (.int (1 : Int32)), .val (.int (1 : Int32))] [(.int (1 : Int32))])) _
                  refine XS.ifNo X186.here hx rfl (hb hby at_99) rfl ((if0 _ _).trans (feq ((by decide) : ¬ ((1 : Int32) = (0 : Int32)))).1) ?_
                  show Steps p.tables e below (T186.setTop (mkF m 102 #[.val (.int x0), .val (.long x1), .second, .val (.long x2), .second, .val (.ref w_GREATER), .val (.ref w_LESS_OR_EQUAL), .val (.int (1 : Int32)), .val (.int (1 : Int32)), .val (.int (1 : Int32))] [])) _
                  refine XS.iload X186.here hx rfl (hb hby at_102) rfl ?_
                  show Steps p.tables e below (T186.setTop (mkF m 104 #[.val (.int x0), .val (.long x1), .second, .val (.long x2), .second, .val (.ref w_GREATER), .val (.ref w_LESS_OR_EQUAL), .val (.int (1 : Int32)), .val (.int (1 : Int32)), .val (.int (1 : Int32))] [(.int (1 : Int32))])) _
                  refine XS.ifNo X186.here hx rfl (hb hby at_104) rfl ((if0 _ _).trans (feq ((by decide) : ¬ ((1 : Int32) = (0 : Int32)))).1) ?_
                  show Steps p.tables e below (T186.setTop (mkF m 107 #[.val (.int x0), .val (.long x1), .second, .val (.long x2), .second, .val (.ref w_GREATER), .val (.ref w_LESS_OR_EQUAL), .val (.int (1 : Int32)), .val (.int (1 : Int32)), .val (.int (1 : Int32))] [])) _
                  refine XS.iconst X186.here hx rfl (hb hby at_107) ?_
                  show Steps p.tables e below (T186.setTop (mkF m 108 #[.val (.int x0), .val (.long x1), .second, .val (.long x2), .second, .val (.ref w_GREATER), .val (.ref w_LESS_OR_EQUAL), .val (.int (1 : Int32)), .val (.int (1 : Int32)), .val (.int (1 : Int32))] [(.int (1 : Int32))])) _
                  refine XS.goto X186.here hx rfl (pc0 := 108) (pc' := 112) rfl (hb hby at_108) (by decide) (by decide) ?_
                  exact kk)
                obtain ⟨fs, hr, hrun, hended, hW, hsame⟩ := X186.leave (v := some (.int (1 : Int32))) (fun h => by rw [Bd.returns] at h; cases h)
                refine ⟨_, _, pre187 _ ?_, hrun, hended, _, _, rfl, ?_, ⟨_, rfl⟩, hW, hsame.mono (by decide) (by decide)⟩
                · exact retN X186 hx (t := .boolean) Bd.returns (by simp) (hb hby at_112) hr
                · exact ⟨rfl, N186⟩
              ·
                obtain ⟨cq188, kq188, q188a, q188b, q188c⟩ := isOf hZ e170 E_w_LESS_OR_EQUAL
                obtain ⟨_, _, ⟨T188, L188, k188, n188⟩, -, X188, ⟨Lc188, hQ188, l188, y188, z188⟩, st188⟩ := X170.virtualBack hx (y := (⟨"com/example/latticut/latticut/lang/Comparison", "test", "(JJ)Z"⟩ : MethodName)) (z := (⟨"com/example/latticut/latticut/lang/Comparison", "test", "(JJ)Z"⟩ : MethodName)) hown (mvT hZ (hw _ (List.mem_of_getElem? (i := 16) rfl))) (mvT hZ (hw _ (List.mem_of_getElem? (i := 17) rfl))) (notFace_of_selects (args := #[]) (mvT hZ (hw _ (List.mem_of_getElem? (i := 19) rfl)))) (mvT hZ (hw _ (List.mem_of_getElem? (i := 19) rfl))) (mvT hZ (hw _ (List.mem_of_getElem? (i := 18) rfl))) (by decide) (backOf (W := 0) (rm17 l Z a0 hw [] w_LESS_OR_EQUAL x1 x2 h0 n0 Z0 hc172 hc180 F_whenGreater_w_LESS_OR_EQUAL E_w_LESS_OR_EQUAL) hZ (hw _ (List.mem_of_getElem? (i := 20) rfl)) (hw _ (List.mem_of_getElem? (i := 6) rfl)) (by decide) (by decide)) q188a q188c (g := (mkF m 24 #[.val (.int x0), .val (.long x1), .second, .val (.long x2), .second, .val (.ref w_GREATER), .val (.ref w_LESS_OR_EQUAL), .unset, .unset, .unset] [(.long x2), (.long x1), (.ref w_LESS_OR_EQUAL)])) rfl (by rw [hml]; rfl) (Steps.refl _) (argsL := [(.long x1), (.long x2)]) (rest := []) (lenOf pd_4 rfl) rfl (by show 2 * 0 + _ ≤ _; exact Nat.le_of_eq rfl) (hb hby at_24) (fun _ _ => ⟨rfl, e170, (by decide : 0 + 0 ≤ _), (by decide : 0 + 0 ≤ _)⟩)
                dsimp only [Pt.U, Pt.locs, Pt.cells, Pt.slots] at X188 l188 y188 z188 st188 hQ188
                subst l188 y188 z188
                obtain ⟨rfl, N188q, e188⟩ := hQ188
                have N188 := Fr.app N170 N188q
                obtain ⟨cq189, kq189, q189a, q189b, q189c⟩ := isOf hZ e188 E_w_GREATER
                obtain ⟨_, _, ⟨T189, L189, k189, n189⟩, -, X189, ⟨Lc189, hQ189, l189, y189, z189⟩, st189⟩ := X188.virtualBack hx (y := (⟨"com/example/latticut/latticut/lang/Comparison", "test", "(JJ)Z"⟩ : MethodName)) (z := (⟨"com/example/latticut/latticut/lang/Comparison", "test", "(JJ)Z"⟩ : MethodName)) hown (mvT hZ (hw _ (List.mem_of_getElem? (i := 16) rfl))) (mvT hZ (hw _ (List.mem_of_getElem? (i := 17) rfl))) (notFace_of_selects (args := #[]) (mvT hZ (hw _ (List.mem_of_getElem? (i := 19) rfl)))) (mvT hZ (hw _ (List.mem_of_getElem? (i := 19) rfl))) (mvT hZ (hw _ (List.mem_of_getElem? (i := 18) rfl))) (by decide) (backOf (W := 1) (rm15 l Z a0 hw [] w_GREATER x1 x2 h0 n0 Z0 hc172 hc180 F_whenGreater_w_GREATER E_w_GREATER) hZ (hw _ (List.mem_of_getElem? (i := 20) rfl)) (hw _ (List.mem_of_getElem? (i := 6) rfl)) (by decide) (by decide)) q189a q189c (g := (mkF m 31 #[.val (.int x0), .val (.long x1), .second, .val (.long x2), .second, .val (.ref w_GREATER), .val (.ref w_LESS_OR_EQUAL), .unset, .unset, .unset] [(.long x2), (.long x1), (.ref w_GREATER), (.int (0 : Int32))])) rfl (by rw [hml]; rfl) (Steps.refl _) (argsL := [(.long x1), (.long x2)]) (rest := [(.int (0 : Int32))]) (lenOf pd_4 rfl) rfl (by show 2 * 0 + _ ≤ _; exact Nat.le_of_eq rfl) (hb hby at_31) (fun _ _ => ⟨rfl, e188, (by decide : 0 + 0 ≤ _), (by decide : 0 + 0 ≤ _)⟩)
                dsimp only [Pt.U, Pt.locs, Pt.cells, Pt.slots] at X189 l189 y189 z189 st189 hQ189
                subst l189 y189 z189
                obtain ⟨rfl, N189q, e189⟩ := hQ189
                have N189 := Fr.app N188 N189q
                obtain ⟨cq190, kq190, q190a, q190b, q190c⟩ := isOf hZ e189 E_w_LESS_OR_EQUAL
                obtain ⟨_, _, ⟨T190, L190, k190, n190⟩, -, X190, ⟨Lc190, hQ190, l190, y190, z190⟩, st190⟩ := X189.virtualBack hx (y := (⟨"com/example/latticut/latticut/lang/Comparison", "test", "(JJ)Z"⟩ : MethodName)) (z := (⟨"com/example/latticut/latticut/lang/Comparison", "test", "(JJ)Z"⟩ : MethodName)) hown (mvT hZ (hw _ (List.mem_of_getElem? (i := 16) rfl))) (mvT hZ (hw _ (List.mem_of_getElem? (i := 17) rfl))) (notFace_of_selects (args := #[]) (mvT hZ (hw _ (List.mem_of_getElem? (i := 19) rfl)))) (mvT hZ (hw _ (List.mem_of_getElem? (i := 19) rfl))) (mvT hZ (hw _ (List.mem_of_getElem? (i := 18) rfl))) (by decide) (backOf (W := 0) (rm12 l Z a0 hw [] w_LESS_OR_EQUAL x1 h0 n0 Z0 ((own_ar8 x1 x2 hc172 hc180)) ((own_ar9 x1 x2 hc172 hc180)) F_whenEqual_w_LESS_OR_EQUAL E_w_LESS_OR_EQUAL) hZ (hw _ (List.mem_of_getElem? (i := 20) rfl)) (hw _ (List.mem_of_getElem? (i := 6) rfl)) (by decide) (by decide)) q190a q190c (g := (mkF m 48 #[.val (.int x0), .val (.long x1), .second, .val (.long x2), .second, .val (.ref w_GREATER), .val (.ref w_LESS_OR_EQUAL), .val (.int (1 : Int32)), .unset, .unset] [(.long x1), (.long x1), (.ref w_LESS_OR_EQUAL)])) rfl (by rw [hml]; rfl) (Steps.refl _) (argsL := [(.long x1), (.long x1)]) (rest := []) (lenOf pd_4 rfl) rfl (by show 2 * 0 + _ ≤ _; exact Nat.le_of_eq rfl) (hb hby at_48) (fun _ _ => ⟨rfl, e189, (by decide : 0 + 0 ≤ _), (by decide : 0 + 0 ≤ _)⟩)
                dsimp only [Pt.U, Pt.locs, Pt.cells, Pt.slots] at X190 l190 y190 z190 st190 hQ190
                subst l190 y190 z190
                obtain ⟨rfl, N190q, e190⟩ := hQ190
                have N190 := Fr.app N189 N190q
                obtain ⟨cq191, kq191, q191a, q191b, q191c⟩ := isOf hZ e190 E_w_GREATER
                obtain ⟨_, _, ⟨T191, L191, k191, n191⟩, -, X191, ⟨Lc191, hQ191, l191, y191, z191⟩, st191⟩ := X190.virtualBack hx (y := (⟨"com/example/latticut/latticut/lang/Comparison", "test", "(JJ)Z"⟩ : MethodName)) (z := (⟨"com/example/latticut/latticut/lang/Comparison", "test", "(JJ)Z"⟩ : MethodName)) hown (mvT hZ (hw _ (List.mem_of_getElem? (i := 16) rfl))) (mvT hZ (hw _ (List.mem_of_getElem? (i := 17) rfl))) (notFace_of_selects (args := #[]) (mvT hZ (hw _ (List.mem_of_getElem? (i := 19) rfl)))) (mvT hZ (hw _ (List.mem_of_getElem? (i := 19) rfl))) (mvT hZ (hw _ (List.mem_of_getElem? (i := 18) rfl))) (by decide) (backOf (W := 1) (rm10 l Z a0 hw [] w_GREATER x1 h0 n0 Z0 ((own_ar8 x1 x2 hc172 hc180)) ((own_ar9 x1 x2 hc172 hc180)) F_whenEqual_w_GREATER E_w_GREATER) hZ (hw _ (List.mem_of_getElem? (i := 20) rfl)) (hw _ (List.mem_of_getElem? (i := 6) rfl)) (by decide) (by decide)) q191a q191c (g := (mkF m 55 #[.val (.int x0), .val (.long x1), .second, .val (.long x2), .second, .val (.ref w_GREATER), .val (.ref w_LESS_OR_EQUAL), .val (.int (1 : Int32)), .unset, .unset] [(.long x1), (.long x1), (.ref w_GREATER), (.int (1 : Int32))])) rfl (by rw [hml]; rfl) (Steps.refl _) (argsL := [(.long x1), (.long x1)]) (rest := [(.int (1 : Int32))]) (lenOf pd_4 rfl) rfl (by show 2 * 0 + _ ≤ _; exact Nat.le_of_eq rfl) (hb hby at_55) (fun _ _ => ⟨rfl, e190, (by decide : 0 + 0 ≤ _), (by decide : 0 + 0 ≤ _)⟩)
                dsimp only [Pt.U, Pt.locs, Pt.cells, Pt.slots] at X191 l191 y191 z191 st191 hQ191
                subst l191 y191 z191
                obtain ⟨rfl, N191q, e191⟩ := hQ191
                have N191 := Fr.app N190 N191q
                obtain ⟨cq192, kq192, q192a, q192b, q192c⟩ := isOf hZ e191 E_w_LESS_OR_EQUAL
                obtain ⟨_, _, ⟨T192, L192, k192, n192⟩, -, X192, ⟨Lc192, hQ192, l192, y192, z192⟩, st192⟩ := X191.virtualBack hx (y := (⟨"com/example/latticut/latticut/lang/Comparison", "test", "(JJ)Z"⟩ : MethodName)) (z := (⟨"com/example/latticut/latticut/lang/Comparison", "test", "(JJ)Z"⟩ : MethodName)) hown (mvT hZ (hw _ (List.mem_of_getElem? (i := 16) rfl))) (mvT hZ (hw _ (List.mem_of_getElem? (i := 17) rfl))) (notFace_of_selects (args := #[]) (mvT hZ (hw _ (List.mem_of_getElem? (i := 19) rfl)))) (mvT hZ (hw _ (List.mem_of_getElem? (i := 19) rfl))) (mvT hZ (hw _ (List.mem_of_getElem? (i := 18) rfl))) (by decide) (backOf (W := 0) (rm5 l Z a0 hw [] w_LESS_OR_EQUAL x2 x1 h0 n0 Z0 ((own_ar10 x1 x2 hc172 hc180)) F_whenLess_w_LESS_OR_EQUAL E_w_LESS_OR_EQUAL) hZ (hw _ (List.mem_of_getElem? (i := 20) rfl)) (hw _ (List.mem_of_getElem? (i := 6) rfl)) (by decide) (by decide)) q192a q192c (g := (mkF m 72 #[.val (.int x0), .val (.long x1), .second, .val (.long x2), .second, .val (.ref w_GREATER), .val (.ref w_LESS_OR_EQUAL), .val (.int (1 : Int32)), .val (.int (1 : Int32)), .unset] [(.long x1), (.long x2), (.ref w_LESS_OR_EQUAL)])) rfl (by rw [hml]; rfl) (Steps.refl _) (argsL := [(.long x2), (.long x1)]) (rest := []) (lenOf pd_4 rfl) rfl (by show 2 * 0 + _ ≤ _; exact Nat.le_of_eq rfl) (hb hby at_72) (fun _ _ => ⟨rfl, e191, (by decide : 0 + 0 ≤ _), (by decide : 0 + 0 ≤ _)⟩)
                dsimp only [Pt.U, Pt.locs, Pt.cells, Pt.slots] at X192 l192 y192 z192 st192 hQ192
                subst l192 y192 z192
                obtain ⟨rfl, N192q, e192⟩ := hQ192
                have N192 := Fr.app N191 N192q
                obtain ⟨cq193, kq193, q193a, q193b, q193c⟩ := isOf hZ e192 E_w_GREATER
                obtain ⟨_, _, ⟨T193, L193, k193, n193⟩, -, X193, ⟨Lc193, hQ193, l193, y193, z193⟩, st193⟩ := X192.virtualBack hx (y := (⟨"com/example/latticut/latticut/lang/Comparison", "test", "(JJ)Z"⟩ : MethodName)) (z := (⟨"com/example/latticut/latticut/lang/Comparison", "test", "(JJ)Z"⟩ : MethodName)) hown (mvT hZ (hw _ (List.mem_of_getElem? (i := 16) rfl))) (mvT hZ (hw _ (List.mem_of_getElem? (i := 17) rfl))) (notFace_of_selects (args := #[]) (mvT hZ (hw _ (List.mem_of_getElem? (i := 19) rfl)))) (mvT hZ (hw _ (List.mem_of_getElem? (i := 19) rfl))) (mvT hZ (hw _ (List.mem_of_getElem? (i := 18) rfl))) (by decide) (backOf (W := 1) (rm7 l Z a0 hw [] w_GREATER x2 x1 h0 n0 Z0 ((own_ar10 x1 x2 hc172 hc180)) F_whenLess_w_GREATER E_w_GREATER) hZ (hw _ (List.mem_of_getElem? (i := 20) rfl)) (hw _ (List.mem_of_getElem? (i := 6) rfl)) (by decide) (by decide)) q193a q193c (g := (mkF m 79 #[.val (.int x0), .val (.long x1), .second, .val (.long x2), .second, .val (.ref w_GREATER), .val (.ref w_LESS_OR_EQUAL), .val (.int (1 : Int32)), .val (.int (1 : Int32)), .unset] [(.long x1), (.long x2), (.ref w_GREATER), (.int (1 : Int32))])) rfl (by rw [hml]; rfl) (Steps.refl _) (argsL := [(.long x2), (.long x1)]) (rest := [(.int (1 : Int32))]) (lenOf pd_4 rfl) rfl (by show 2 * 0 + _ ≤ _; exact Nat.le_of_eq rfl) (hb hby at_79) (fun _ _ => ⟨rfl, e192, (by decide : 0 + 0 ≤ _), (by decide : 0 + 0 ≤ _)⟩)
                dsimp only [Pt.U, Pt.locs, Pt.cells, Pt.slots] at X193 l193 y193 z193 st193 hQ193
                subst l193 y193 z193
                obtain ⟨rfl, N193q, e193⟩ := hQ193
                have N193 := Fr.app N192 N193q
                have pre194 : ∀ t, Steps p.tables e below (T193.setTop (mkF m 112 #[.val (.int x0), .val (.long x1), .second, .val (.long x2), .second, .val (.ref w_GREATER), .val (.ref w_LESS_OR_EQUAL), .val (.int (1 : Int32)), .val (.int (1 : Int32)), .val (.int (1 : Int32))] [(.int (1 : Int32))])) t → Steps p.tables e below (s₁.setTop (entryFrame m #[(.int x0), (.long x1), (.long x2)] maxLocals)) t := fun t kk => pre171 t (by
                  show Steps p.tables e below (T170.setTop (mkF m 24 #[.val (.int x0), .val (.long x1), .second, .val (.long x2), .second, .val (.ref w_GREATER), .val (.ref w_LESS_OR_EQUAL), .unset, .unset, .unset] [(.long x2), (.long x1), (.ref w_LESS_OR_EQUAL)])) _
                  refine st188.trans ?_
                  show Steps p.tables e below (T188.setTop (mkF m 27 #[.val (.int x0), .val (.long x1), .second, .val (.long x2), .second, .val (.ref w_GREATER), .val (.ref w_LESS_OR_EQUAL), .unset, .unset, .unset] [(.int (0 : Int32))])) _
                  refine XS.aload X188.here hx rfl (hb hby at_27) rfl rfl ?_
                  show Steps p.tables e below (T188.setTop (mkF m 29 #[.val (.int x0), .val (.long x1), .second, .val (.long x2), .second, .val (.ref w_GREATER), .val (.ref w_LESS_OR_EQUAL), .unset, .unset, .unset] [(.ref w_GREATER), (.int (0 : Int32))])) _
                  refine XS.lloadN X188.here hx rfl (hb hby at_29) rfl ?_
                  show Steps p.tables e below (T188.setTop (mkF m 30 #[.val (.int x0), .val (.long x1), .second, .val (.long x2), .second, .val (.ref w_GREATER), .val (.ref w_LESS_OR_EQUAL), .unset, .unset, .unset] [(.long x1), (.ref w_GREATER), (.int (0 : Int32))])) _
                  refine XS.lloadN X188.here hx rfl (hb hby at_30) rfl ?_
                  show Steps p.tables e below (T188.setTop (mkF m 31 #[.val (.int x0), .val (.long x1), .second, .val (.long x2), .second, .val (.ref w_GREATER), .val (.ref w_LESS_OR_EQUAL), .unset, .unset, .unset] [(.long x2), (.long x1), (.ref w_GREATER), (.int (0 : Int32))])) _
                  refine st189.trans ?_
                  show Steps p.tables e below (T189.setTop (mkF m 34 #[.val (.int x0), .val (.long x1), .second, .val (.long x2), .second, .val (.ref w_GREATER), .val (.ref w_LESS_OR_EQUAL), .unset, .unset, .unset] [(.int (1 : Int32)), (.int (0 : Int32))])) _
                  refine XS.icmpNo X189.here hx rfl (hb hby at_34) rfl (feq ((by decide) : ¬ ((0 : Int32) = (1 : Int32)))).1 ?_
                  show Steps p.tables e below (T189.setTop (mkF m 37 #[.val (.int x0), .val (.long x1), .second, .val (.long x2), .second, .val (.ref w_GREATER), .val (.ref w_LESS_OR_EQUAL), .unset, .unset, .unset] [])) _
                  refine XS.iconst X189.here hx rfl (hb hby at_37) ?_
                  show Steps p.tables e below (T189.setTop (mkF m 38 #[.val (.int x0), .val (.long x1), .second, .val (.long x2), .second, .val (.ref w_GREATER), .val (.ref w_LESS_OR_EQUAL), .unset, .unset, .unset] [(.int (1 : Int32))])) _
                  refine XS.goto X189.here hx rfl (pc0 := 38) (pc' := 42) rfl (hb hby at_38) (by decide) (by decide) ?_
                  show Steps p.tables e below (T189.setTop (mkF m 42 #[.val (.int x0), .val (.long x1), .second, .val (.long x2), .second, .val (.ref w_GREATER), .val (.ref w_LESS_OR_EQUAL), .unset, .unset, .unset] [(.int (1 : Int32))])) _
                  refine XS.istore X189.here hx rfl (hb hby at_42) rfl (l' := #[.val (.int x0), .val (.long x1), .second, .val (.long x2), .second, .val (.ref w_GREATER), .val (.ref w_LESS_OR_EQUAL), .val (.int (1 : Int32)), .unset, .unset]) rfl ?_
                  show Steps p.tables e below (T189.setTop (mkF m 44 #[.val (.int x0), .val (.long x1), .second, .val (.long x2), .second, .val (.ref w_GREATER), .val (.ref w_LESS_OR_EQUAL), .val (.int (1 : Int32)), .unset, .unset] [])) _
                  refine XS.aload X189.here hx rfl (hb hby at_44) rfl rfl ?_
                  show Steps p.tables e below (T189.setTop (mkF m 46 #[.val (.int x0), .val (.long x1), .second, .val (.long x2), .second, .val (.ref w_GREATER), .val (.ref w_LESS_OR_EQUAL), .val (.int (1 : Int32)), .unset, .unset] [(.ref w_LESS_OR_EQUAL)])) _
                  refine XS.lloadN X189.here hx rfl (hb hby at_46) rfl ?_
                  show Steps p.tables e below (T189.setTop (mkF m 47 #[.val (.int x0), .val (.long x1), .second, .val (.long x2), .second, .val (.ref w_GREATER), .val (.ref w_LESS_OR_EQUAL), .val (.int (1 : Int32)), .unset, .unset] [(.long x1), (.ref w_LESS_OR_EQUAL)])) _
                  refine XS.lloadN X189.here hx rfl (hb hby at_47) rfl ?_
                  show Steps p.tables e below (T189.setTop (mkF m 48 #[.val (.int x0), .val (.long x1), .second, .val (.long x2), .second, .val (.ref w_GREATER), .val (.ref w_LESS_OR_EQUAL), .val (.int (1 : Int32)), .unset, .unset] [(.long x1), (.long x1), (.ref w_LESS_OR_EQUAL)])) _
                  refine st190.trans ?_
                  show Steps p.tables e below (T190.setTop (mkF m 51 #[.val (.int x0), .val (.long x1), .second, .val (.long x2), .second, .val (.ref w_GREATER), .val (.ref w_LESS_OR_EQUAL), .val (.int (1 : Int32)), .unset, .unset] [(.int (1 : Int32))])) _
                  refine XS.aload X190.here hx rfl (hb hby at_51) rfl rfl ?_
                  show Steps p.tables e below (T190.setTop (mkF m 53 #[.val (.int x0), .val (.long x1), .second, .val (.long x2), .second, .val (.ref w_GREATER), .val (.ref w_LESS_OR_EQUAL), .val (.int (1 : Int32)), .unset, .unset] [(.ref w_GREATER), (.int (1 : Int32))])) _
                  refine XS.lloadN X190.here hx rfl (hb hby at_53) rfl ?_
                  show Steps p.tables e below (T190.setTop (mkF m 54 #[.val (.int x0), .val (.long x1), .second, .val (.long x2), .second, .val (.ref w_GREATER), .val (.ref w_LESS_OR_EQUAL), .val (.int (1 : Int32)), .unset, .unset] [(.long x1), (.ref w_GREATER), (.int (1 : Int32))])) _
                  refine XS.lloadN X190.here hx rfl (hb hby at_54) rfl ?_
                  show Steps p.tables e below (T190.setTop (mkF m 55 #[.val (.int x0), .val (.long x1), .second, .val (.long x2), .second, .val (.ref w_GREATER), .val (.ref w_LESS_OR_EQUAL), .val (.int (1 : Int32)), .unset, .unset] [(.long x1), (.long x1), (.ref w_GREATER), (.int (1 : Int32))])) _
                  refine st191.trans ?_
                  show Steps p.tables e below (T191.setTop (mkF m 58 #[.val (.int x0), .val (.long x1), .second, .val (.long x2), .second, .val (.ref w_GREATER), .val (.ref w_LESS_OR_EQUAL), .val (.int (1 : Int32)), .unset, .unset] [(.int (0 : Int32)), (.int (1 : Int32))])) _
                  refine XS.icmpNo X191.here hx rfl (hb hby at_58) rfl (feq ((by decide) : ¬ ((1 : Int32) = (0 : Int32)))).1 ?_
                  show Steps p.tables e below (T191.setTop (mkF m 61 #[.val (.int x0), .val (.long x1), .second, .val (.long x2), .second, .val (.ref w_GREATER), .val (.ref w_LESS_OR_EQUAL), .val (.int (1 : Int32)), .unset, .unset] [])) _
                  refine XS.iconst X191.here hx rfl (hb hby at_61) ?_
                  show Steps p.tables e below (T191.setTop (mkF m 62 #[.val (.int x0), .val (.long x1), .second, .val (.long x2), .second, .val (.ref w_GREATER), .val (.ref w_LESS_OR_EQUAL), .val (.int (1 : Int32)), .unset, .unset] [(.int (1 : Int32))])) _
                  refine XS.goto X191.here hx rfl (pc0 := 62) (pc' := 66) rfl (hb hby at_62) (by decide) (by decide) ?_
                  show Steps p.tables e below (T191.setTop (mkF m 66 #[.val (.int x0), .val (.long x1), .second, .val (.long x2), .second, .val (.ref w_GREATER), .val (.ref w_LESS_OR_EQUAL), .val (.int (1 : Int32)), .unset, .unset] [(.int (1 : Int32))])) _
                  refine XS.istore X191.here hx rfl (hb hby at_66) rfl (l' := #[.val (.int x0), .val (.long x1), .second, .val (.long x2), .second, .val (.ref w_GREATER), .val (.ref w_LESS_OR_EQUAL), .val (.int (1 : Int32)), .val (.int (1 : Int32)), .unset]) rfl ?_
                  show Steps p.tables e below (T191.setTop (mkF m 68 #[.val (.int x0), .val (.long x1), .second, .val (.long x2), .second, .val (.ref w_GREATER), .val (.ref w_LESS_OR_EQUAL), .val (.int (1 : Int32)), .val (.int (1 : Int32)), .unset] [])) _
                  refine XS.aload X191.here hx rfl (hb hby at_68) rfl rfl ?_
                  show Steps p.tables e below (T191.setTop (mkF m 70 #[.val (.int x0), .val (.long x1), .second, .val (.long x2), .second, .val (.ref w_GREATER), .val (.ref w_LESS_OR_EQUAL), .val (.int (1 : Int32)), .val (.int (1 : Int32)), .unset] [(.ref w_LESS_OR_EQUAL)])) _
                  refine XS.lloadN X191.here hx rfl (hb hby at_70) rfl ?_
                  show Steps p.tables e below (T191.setTop (mkF m 71 #[.val (.int x0), .val (.long x1), .second, .val (.long x2), .second, .val (.ref w_GREATER), .val (.ref w_LESS_OR_EQUAL), .val (.int (1 : Int32)), .val (.int (1 : Int32)), .unset] [(.long x2), (.ref w_LESS_OR_EQUAL)])) _
                  refine XS.lloadN X191.here hx rfl (hb hby at_71) rfl ?_
                  show Steps p.tables e below (T191.setTop (mkF m 72 #[.val (.int x0), .val (.long x1), .second, .val (.long x2), .second, .val (.ref w_GREATER), .val (.ref w_LESS_OR_EQUAL), .val (.int (1 : Int32)), .val (.int (1 : Int32)), .unset] [(.long x1), (.long x2), (.ref w_LESS_OR_EQUAL)])) _
                  refine st192.trans ?_
                  show Steps p.tables e below (T192.setTop (mkF m 75 #[.val (.int x0), .val (.long x1), .second, .val (.long x2), .second, .val (.ref w_GREATER), .val (.ref w_LESS_OR_EQUAL), .val (.int (1 : Int32)), .val (.int (1 : Int32)), .unset] [(.int (1 : Int32))])) _
                  refine XS.aload X192.here hx rfl (hb hby at_75) rfl rfl ?_
                  show Steps p.tables e below (T192.setTop (mkF m 77 #[.val (.int x0), .val (.long x1), .second, .val (.long x2), .second, .val (.ref w_GREATER), .val (.ref w_LESS_OR_EQUAL), .val (.int (1 : Int32)), .val (.int (1 : Int32)), .unset] [(.ref w_GREATER), (.int (1 : Int32))])) _
                  refine XS.lloadN X192.here hx rfl (hb hby at_77) rfl ?_
                  show Steps p.tables e below (T192.setTop (mkF m 78 #[.val (.int x0), .val (.long x1), .second, .val (.long x2), .second, .val (.ref w_GREATER), .val (.ref w_LESS_OR_EQUAL), .val (.int (1 : Int32)), .val (.int (1 : Int32)), .unset] [(.long x2), (.ref w_GREATER), (.int (1 : Int32))])) _
                  refine XS.lloadN X192.here hx rfl (hb hby at_78) rfl ?_
                  show Steps p.tables e below (T192.setTop (mkF m 79 #[.val (.int x0), .val (.long x1), .second, .val (.long x2), .second, .val (.ref w_GREATER), .val (.ref w_LESS_OR_EQUAL), .val (.int (1 : Int32)), .val (.int (1 : Int32)), .unset] [(.long x1), (.long x2), (.ref w_GREATER), (.int (1 : Int32))])) _
                  refine st193.trans ?_
                  show Steps p.tables e below (T193.setTop (mkF m 82 #[.val (.int x0), .val (.long x1), .second, .val (.long x2), .second, .val (.ref w_GREATER), .val (.ref w_LESS_OR_EQUAL), .val (.int (1 : Int32)), .val (.int (1 : Int32)), .unset] [(.int (0 : Int32)), (.int (1 : Int32))])) _
                  refine XS.icmpNo X193.here hx rfl (hb hby at_82) rfl (feq ((by decide) : ¬ ((1 : Int32) = (0 : Int32)))).1 ?_
                  show Steps p.tables e below (T193.setTop (mkF m 85 #[.val (.int x0), .val (.long x1), .second, .val (.long x2), .second, .val (.ref w_GREATER), .val (.ref w_LESS_OR_EQUAL), .val (.int (1 : Int32)), .val (.int (1 : Int32)), .unset] [])) _
                  refine XS.iconst X193.here hx rfl (hb hby at_85) ?_
                  show Steps p.tables e below (T193.setTop (mkF m 86 #[.val (.int x0), .val (.long x1), .second, .val (.long x2), .second, .val (.ref w_GREATER), .val (.ref w_LESS_OR_EQUAL), .val (.int (1 : Int32)), .val (.int (1 : Int32)), .unset] [(.int (1 : Int32))])) _
                  refine XS.goto X193.here hx rfl (pc0 := 86) (pc' := 90) rfl (hb hby at_86) (by decide) (by decide) ?_
                  show Steps p.tables e below (T193.setTop (mkF m 90 #[.val (.int x0), .val (.long x1), .second, .val (.long x2), .second, .val (.ref w_GREATER), .val (.ref w_LESS_OR_EQUAL), .val (.int (1 : Int32)), .val (.int (1 : Int32)), .unset] [(.int (1 : Int32))])) _
                  refine XS.istore X193.here hx rfl (hb hby at_90) rfl (l' := #[.val (.int x0), .val (.long x1), .second, .val (.long x2), .second, .val (.ref w_GREATER), .val (.ref w_LESS_OR_EQUAL), .val (.int (1 : Int32)), .val (.int (1 : Int32)), .val (.int (1 : Int32))]) rfl ?_
                  show Steps p.tables e below (T193.setTop (mkF m 92 #[.val (.int x0), .val (.long x1), .second, .val (.long x2), .second, .val (.ref w_GREATER), .val (.ref w_LESS_OR_EQUAL), .val (.int (1 : Int32)), .val (.int (1 : Int32)), .val (.int (1 : Int32))] [])) _
                  refine XS.iload X193.here hx rfl (hb hby at_92) rfl ?_
                  show Steps p.tables e below (T193.setTop (mkF m 94 #[.val (.int x0), .val (.long x1), .second, .val (.long x2), .second, .val (.ref w_GREATER), .val (.ref w_LESS_OR_EQUAL), .val (.int (1 : Int32)), .val (.int (1 : Int32)), .val (.int (1 : Int32))] [(.int (1 : Int32))])) _
                  refine XS.ifNo X193.here hx rfl (hb hby at_94) rfl ((if0 _ _).trans (feq ((by decide) : ¬ ((1 : Int32) = (0 : Int32)))).1) ?_
                  show Steps p.tables e below (T193.setTop (mkF m 97 #[.val (.int x0), .val (.long x1), .second, .val (.long x2), .second, .val (.ref w_GREATER), .val (.ref w_LESS_OR_EQUAL), .val (.int (1 : Int32)), .val (.int (1 : Int32)), .val (.int (1 : Int32))] [])) _
                  refine XS.iload X193.here hx rfl (hb hby at_97) rfl ?_
                  show Steps p.tables e below (T193.setTop (mkF m 99 #[.val (.int x0), .val (.long x1), .second, .val (.long x2), .second, .val (.ref w_GREATER), .val (.ref w_LESS_OR_EQUAL), .val (.int (1 : Int32)), .val (.int (1 : Int32)), .val (.int (1 : Int32))] [(.int (1 : Int32))])) _
                  refine XS.ifNo X193.here hx rfl (hb hby at_99) rfl ((if0 _ _).trans (feq ((by decide) : ¬ ((1 : Int32) = (0 : Int32)))).1) ?_
                  show Steps p.tables e below (T193.setTop (mkF m 102 #[.val (.int x0), .val (.long x1), .second, .val (.long x2), .second, .val (.ref w_GREATER), .val (.ref w_LESS_OR_EQUAL), .val (.int (1 : Int32)), .val (.int (1 : Int32)), .val (.int (1 : Int32))] [])) _
                  refine XS.iload X193.here hx rfl (hb hby at_102) rfl ?_
                  show Steps p.tables e below (T193.setTop (mkF m 104 #[.val (.int x0), .val (.long x1), .second, .val (.long x2), .second, .val (.ref w_GREATER), .val (.ref w_LESS_OR_EQUAL), .val (.int (1 : Int32)), .val (.int (1 : Int32)), .val (.int (1 : Int32))] [(.int (1 : Int32))])) _
                  refine XS.ifNo X193.here hx rfl (hb hby at_104) rfl ((if0 _ _).trans (feq ((by decide) : ¬ ((1 : Int32) = (0 : Int32)))).1) ?_
                  show Steps p.tables e below (T193.setTop (mkF m 107 #[.val (.int x0), .val (.long x1), .second, .val (.long x2), .second, .val (.ref w_GREATER), .val (.ref w_LESS_OR_EQUAL), .val (.int (1 : Int32)), .val (.int (1 : Int32)), .val (.int (1 : Int32))] [])) _
                  refine XS.iconst X193.here hx rfl (hb hby at_107) ?_
                  show Steps p.tables e below (T193.setTop (mkF m 108 #[.val (.int x0), .val (.long x1), .second, .val (.long x2), .second, .val (.ref w_GREATER), .val (.ref w_LESS_OR_EQUAL), .val (.int (1 : Int32)), .val (.int (1 : Int32)), .val (.int (1 : Int32))] [(.int (1 : Int32))])) _
                  refine XS.goto X193.here hx rfl (pc0 := 108) (pc' := 112) rfl (hb hby at_108) (by decide) (by decide) ?_
                  exact kk)
                obtain ⟨fs, hr, hrun, hended, hW, hsame⟩ := X193.leave (v := some (.int (1 : Int32))) (fun h => by rw [Bd.returns] at h; cases h)
                refine ⟨_, _, pre194 _ ?_, hrun, hended, _, _, rfl, ?_, ⟨_, rfl⟩, hW, hsame.mono (by decide) (by decide)⟩
                · exact retN X193 hx (t := .boolean) Bd.returns (by simp) (hb hby at_112) hr
                · exact ⟨rfl, N193⟩
          ·
            obtain ⟨_, _, ⟨T195, L195, k195, n195⟩, -, X195, ⟨Lc195, hQ195, l195, y195, z195⟩, st195⟩ := Jvm.LawKit.callS X0 hx (y := (⟨"com/example/latticut/latticut/lang/ComparisonNegatedPinLaw", "pick", "(I)Lcom/example/latticut/latticut/lang/Comparison;"⟩ : MethodName)) hown (mvT hZ (hw _ (List.mem_of_getElem? (i := 0) rfl))) (mvT hZ (hw _ (List.mem_of_getElem? (i := 1) rfl))) (mvT hZ (hw _ (List.mem_of_getElem? (i := 2) rfl))) (mvT hZ (hw _ (List.mem_of_getElem? (i := 3) rfl))) (by decide) (backOf (W := 0) (rm29 l Z a0 hw [] x0 w_GREATER_OR_EQUAL h0 n0 Z0 hc60 hc87 hc114 hc141 hc168 S_w_GREATER_OR_EQUAL) hZ (hw _ (List.mem_of_getElem? (i := 3) rfl)) (hw _ (List.mem_of_getElem? (i := 2) rfl)) (by decide) (by decide)) (g := (mkF m 1 #[.val (.int x0), .val (.long x1), .second, .val (.long x2), .second, .unset, .unset, .unset, .unset, .unset] [(.int x0)])) rfl (by rw [hml]; rfl) (argsL := [(.int x0)]) (rest := []) (lenOf pd_0 rfl) rfl (by show 2 * 0 + _ ≤ _; exact Nat.le_of_eq rfl) (hb hby at_1) (fun _ _ => ⟨rfl, e0, (by decide : 0 + 0 ≤ _), (by decide : 0 + 0 ≤ _)⟩)
            dsimp only [Pt.U, Pt.locs, Pt.cells, Pt.slots] at X195 l195 y195 z195 st195 hQ195
            subst l195 y195 z195
            obtain ⟨rfl, N195q, e195⟩ := hQ195
            have N195 := Fr.app N0 N195q
            obtain ⟨cq196, kq196, q196a, q196b, q196c⟩ := isOf hZ e195 E_w_GREATER_OR_EQUAL
            obtain ⟨_, _, ⟨T196, L196, k196, n196⟩, -, X196, ⟨Lc196, hQ196, l196, y196, z196⟩, st196⟩ := X195.virtualBack hx (y := (⟨"com/example/latticut/latticut/lang/Comparison", "negated", "()Lcom/example/latticut/latticut/lang/Comparison;"⟩ : MethodName)) (z := (⟨"com/example/latticut/latticut/lang/Comparison", "negated", "()Lcom/example/latticut/latticut/lang/Comparison;"⟩ : MethodName)) hown (mvT hZ (hw _ (List.mem_of_getElem? (i := 8) rfl))) (mvT hZ (hw _ (List.mem_of_getElem? (i := 9) rfl))) (notFace_of_selects (args := #[]) (mvT hZ (hw _ (List.mem_of_getElem? (i := 11) rfl)))) (mvT hZ (hw _ (List.mem_of_getElem? (i := 11) rfl))) (mvT hZ (hw _ (List.mem_of_getElem? (i := 10) rfl))) (by decide) (backOf (W := 0) (rm30 l Z a0 hw [] w_GREATER_OR_EQUAL w_EQUAL w_NOT_EQUAL w_LESS w_LESS_OR_EQUAL w_GREATER h0 n0 Z0 S_w_EQUAL ((Fld.ne F_whenGreater_w_GREATER_OR_EQUAL F_whenGreater_w_EQUAL (by decide))) S_w_NOT_EQUAL ((Fld.ne F_whenEqual_w_GREATER_OR_EQUAL F_whenEqual_w_NOT_EQUAL (by decide))) S_w_LESS ((Fld.ne F_whenGreater_w_GREATER_OR_EQUAL F_whenGreater_w_LESS (by decide))) S_w_LESS_OR_EQUAL ((Fld.ne F_whenGreater_w_GREATER_OR_EQUAL F_whenGreater_w_LESS_OR_EQUAL (by decide))) S_w_GREATER ((Fld.ne F_whenEqual_w_GREATER_OR_EQUAL F_whenEqual_w_GREATER (by decide)))) hZ (hw _ (List.mem_of_getElem? (i := 12) rfl)) (hw _ (List.mem_of_getElem? (i := 6) rfl)) (by decide) (by decide)) q196a q196c (g := (mkF m 8 #[.val (.int x0), .val (.long x1), .second, .val (.long x2), .second, .val (.ref w_GREATER_OR_EQUAL), .unset, .unset, .unset, .unset] [(.ref w_GREATER_OR_EQUAL)])) rfl (by rw [hml]; rfl) (Steps.refl _) (argsL := []) (rest := []) (lenOf pd_1 rfl) rfl (by show 2 * 0 + _ ≤ _; exact Nat.le_of_eq rfl) (hb hby at_8) (fun _ _ => ⟨rfl, e195, (by decide : 0 + 0 ≤ _), (by decide : 0 + 0 ≤ _)⟩)
            dsimp only [Pt.U, Pt.locs, Pt.cells, Pt.slots] at X196 l196 y196 z196 st196 hQ196
            subst l196 y196 z196
            obtain ⟨rfl, N196q, e196⟩ := hQ196
            have N196 := Fr.app N195 N196q
            have pre197 : ∀ t, Steps p.tables e below (T196.setTop (mkF m 24 #[.val (.int x0), .val (.long x1), .second, .val (.long x2), .second, .val (.ref w_GREATER_OR_EQUAL), .val (.ref w_LESS), .unset, .unset, .unset] [(.long x2), (.long x1), (.ref w_LESS)])) t → Steps p.tables e below (s₁.setTop (entryFrame m #[(.int x0), (.long x1), (.long x2)] maxLocals)) t := fun t kk => pre59 t (by
              show Steps p.tables e below (s₁.setTop (mkF m 1 #[.val (.int x0), .val (.long x1), .second, .val (.long x2), .second, .unset, .unset, .unset, .unset, .unset] [(.int x0)])) _
              refine st195 _ ?_
              show Steps p.tables e below (T195.setTop (mkF m 4 #[.val (.int x0), .val (.long x1), .second, .val (.long x2), .second, .unset, .unset, .unset, .unset, .unset] [(.ref w_GREATER_OR_EQUAL)])) _
              refine XS.astore X195.here hx rfl (hb hby at_4) rfl rfl (l' := #[.val (.int x0), .val (.long x1), .second, .val (.long x2), .second, .val (.ref w_GREATER_OR_EQUAL), .unset, .unset, .unset, .unset]) rfl ?_
              show Steps p.tables e below (T195.setTop (mkF m 6 #[.val (.int x0), .val (.long x1), .second, .val (.long x2), .second, .val (.ref w_GREATER_OR_EQUAL), .unset, .unset, .unset, .unset] [])) _
              refine XS.aload X195.here hx rfl (hb hby at_6) rfl rfl ?_
              show Steps p.tables e below (T195.setTop (mkF m 8 #[.val (.int x0), .val (.long x1), .second, .val (.long x2), .second, .val (.ref w_GREATER_OR_EQUAL), .unset, .unset, .unset, .unset] [(.ref w_GREATER_OR_EQUAL)])) _
              refine st196.trans ?_
              show Steps p.tables e below (T196.setTop (mkF m 11 #[.val (.int x0), .val (.long x1), .second, .val (.long x2), .second, .val (.ref w_GREATER_OR_EQUAL), .unset, .unset, .unset, .unset] [(.ref w_LESS)])) _
              refine XS.astore X196.here hx rfl (hb hby at_11) rfl rfl (l' := #[.val (.int x0), .val (.long x1), .second, .val (.long x2), .second, .val (.ref w_GREATER_OR_EQUAL), .val (.ref w_LESS), .unset, .unset, .unset]) rfl ?_
              show Steps p.tables e below (T196.setTop (mkF m 13 #[.val (.int x0), .val (.long x1), .second, .val (.long x2), .second, .val (.ref w_GREATER_OR_EQUAL), .val (.ref w_LESS), .unset, .unset, .unset] [])) _
              refine XS.aload X196.here hx rfl (hb hby at_13) rfl rfl ?_
              show Steps p.tables e below (T196.setTop (mkF m 15 #[.val (.int x0), .val (.long x1), .second, .val (.long x2), .second, .val (.ref w_GREATER_OR_EQUAL), .val (.ref w_LESS), .unset, .unset, .unset] [(.ref w_LESS)])) _
              refine XS.ifnonnullYes X196.here hx rfl (pc0 := 15) (pc' := 20) rfl (hb hby at_15) rfl (by decide) (by decide) ?_
              show Steps p.tables e below (T196.setTop (mkF m 20 #[.val (.int x0), .val (.long x1), .second, .val (.long x2), .second, .val (.ref w_GREATER_OR_EQUAL), .val (.ref w_LESS), .unset, .unset, .unset] [])) _
              refine XS.aload X196.here hx rfl (hb hby at_20) rfl rfl ?_
              show Steps p.tables e below (T196.setTop (mkF m 22 #[.val (.int x0), .val (.long x1), .second, .val (.long x2), .second, .val (.ref w_GREATER_OR_EQUAL), .val (.ref w_LESS), .unset, .unset, .unset] [(.ref w_LESS)])) _
              refine XS.lloadN X196.here hx rfl (hb hby at_22) rfl ?_
              show Steps p.tables e below (T196.setTop (mkF m 23 #[.val (.int x0), .val (.long x1), .second, .val (.long x2), .second, .val (.ref w_GREATER_OR_EQUAL), .val (.ref w_LESS), .unset, .unset, .unset] [(.long x1), (.ref w_LESS)])) _
              refine XS.lloadN X196.here hx rfl (hb hby at_23) rfl ?_
              exact kk)
            by_cases hc198 : (lcmpW x1 x2) < (0 : Int32)
            ·
              obtain ⟨cq199, kq199, q199a, q199b, q199c⟩ := isOf hZ e196 E_w_LESS
              obtain ⟨_, _, ⟨T199, L199, k199, n199⟩, -, X199, ⟨Lc199, hQ199, l199, y199, z199⟩, st199⟩ := X196.virtualBack hx (y := (⟨"com/example/latticut/latticut/lang/Comparison", "test", "(JJ)Z"⟩ : MethodName)) (z := (⟨"com/example/latticut/latticut/lang/Comparison", "test", "(JJ)Z"⟩ : MethodName)) hown (mvT hZ (hw _ (List.mem_of_getElem? (i := 16) rfl))) (mvT hZ (hw _ (List.mem_of_getElem? (i := 17) rfl))) (notFace_of_selects (args := #[]) (mvT hZ (hw _ (List.mem_of_getElem? (i := 19) rfl)))) (mvT hZ (hw _ (List.mem_of_getElem? (i := 19) rfl))) (mvT hZ (hw _ (List.mem_of_getElem? (i := 18) rfl))) (by decide) (backOf (W := 0) (rm5 l Z a0 hw [] w_LESS x1 x2 h0 n0 Z0 hc198 F_whenLess_w_LESS E_w_LESS) hZ (hw _ (List.mem_of_getElem? (i := 20) rfl)) (hw _ (List.mem_of_getElem? (i := 6) rfl)) (by decide) (by decide)) q199a q199c (g := (mkF m 24 #[.val (.int x0), .val (.long x1), .second, .val (.long x2), .second, .val (.ref w_GREATER_OR_EQUAL), .val (.ref w_LESS), .unset, .unset, .unset] [(.long x2), (.long x1), (.ref w_LESS)])) rfl (by rw [hml]; rfl) (Steps.refl _) (argsL := [(.long x1), (.long x2)]) (rest := []) (lenOf pd_4 rfl) rfl (by show 2 * 0 + _ ≤ _; exact Nat.le_of_eq rfl) (hb hby at_24) (fun _ _ => ⟨rfl, e196, (by decide : 0 + 0 ≤ _), (by decide : 0 + 0 ≤ _)⟩)
              dsimp only [Pt.U, Pt.locs, Pt.cells, Pt.slots] at X199 l199 y199 z199 st199 hQ199
              subst l199 y199 z199
              obtain ⟨rfl, N199q, e199⟩ := hQ199
              have N199 := Fr.app N196 N199q
              obtain ⟨cq200, kq200, q200a, q200b, q200c⟩ := isOf hZ e199 E_w_GREATER_OR_EQUAL
              obtain ⟨_, _, ⟨T200, L200, k200, n200⟩, -, X200, ⟨Lc200, hQ200, l200, y200, z200⟩, st200⟩ := X199.virtualBack hx (y := (⟨"com/example/latticut/latticut/lang/Comparison", "test", "(JJ)Z"⟩ : MethodName)) (z := (⟨"com/example/latticut/latticut/lang/Comparison", "test", "(JJ)Z"⟩ : MethodName)) hown (mvT hZ (hw _ (List.mem_of_getElem? (i := 16) rfl))) (mvT hZ (hw _ (List.mem_of_getElem? (i := 17) rfl))) (notFace_of_selects (args := #[]) (mvT hZ (hw _ (List.mem_of_getElem? (i := 19) rfl)))) (mvT hZ (hw _ (List.mem_of_getElem? (i := 19) rfl))) (mvT hZ (hw _ (List.mem_of_getElem? (i := 18) rfl))) (by decide) (backOf (W := 1) (rm7 l Z a0 hw [] w_GREATER_OR_EQUAL x1 x2 h0 n0 Z0 hc198 F_whenLess_w_GREATER_OR_EQUAL E_w_GREATER_OR_EQUAL) hZ (hw _ (List.mem_of_getElem? (i := 20) rfl)) (hw _ (List.mem_of_getElem? (i := 6) rfl)) (by decide) (by decide)) q200a q200c (g := (mkF m 31 #[.val (.int x0), .val (.long x1), .second, .val (.long x2), .second, .val (.ref w_GREATER_OR_EQUAL), .val (.ref w_LESS), .unset, .unset, .unset] [(.long x2), (.long x1), (.ref w_GREATER_OR_EQUAL), (.int (1 : Int32))])) rfl (by rw [hml]; rfl) (Steps.refl _) (argsL := [(.long x1), (.long x2)]) (rest := [(.int (1 : Int32))]) (lenOf pd_4 rfl) rfl (by show 2 * 0 + _ ≤ _; exact Nat.le_of_eq rfl) (hb hby at_31) (fun _ _ => ⟨rfl, e199, (by decide : 0 + 0 ≤ _), (by decide : 0 + 0 ≤ _)⟩)
              dsimp only [Pt.U, Pt.locs, Pt.cells, Pt.slots] at X200 l200 y200 z200 st200 hQ200
              subst l200 y200 z200
              obtain ⟨rfl, N200q, e200⟩ := hQ200
              have N200 := Fr.app N199 N200q
              obtain ⟨cq201, kq201, q201a, q201b, q201c⟩ := isOf hZ e200 E_w_LESS
              obtain ⟨_, _, ⟨T201, L201, k201, n201⟩, -, X201, ⟨Lc201, hQ201, l201, y201, z201⟩, st201⟩ := X200.virtualBack hx (y := (⟨"com/example/latticut/latticut/lang/Comparison", "test", "(JJ)Z"⟩ : MethodName)) (z := (⟨"com/example/latticut/latticut/lang/Comparison", "test", "(JJ)Z"⟩ : MethodName)) hown (mvT hZ (hw _ (List.mem_of_getElem? (i := 16) rfl))) (mvT hZ (hw _ (List.mem_of_getElem? (i := 17) rfl))) (notFace_of_selects (args := #[]) (mvT hZ (hw _ (List.mem_of_getElem? (i := 19) rfl)))) (mvT hZ (hw _ (List.mem_of_getElem? (i := 19) rfl))) (mvT hZ (hw _ (List.mem_of_getElem? (i := 18) rfl))) (by decide) (backOf (W := 0) (rm10 l Z a0 hw [] w_LESS x1 h0 n0 Z0 ((own_ar0 x1 x2 hc198)) ((own_ar1 x1 x2 hc198)) F_whenEqual_w_LESS E_w_LESS) hZ (hw _ (List.mem_of_getElem? (i := 20) rfl)) (hw _ (List.mem_of_getElem? (i := 6) rfl)) (by decide) (by decide)) q201a q201c (g := (mkF m 48 #[.val (.int x0), .val (.long x1), .second, .val (.long x2), .second, .val (.ref w_GREATER_OR_EQUAL), .val (.ref w_LESS), .val (.int (1 : Int32)), .unset, .unset] [(.long x1), (.long x1), (.ref w_LESS)])) rfl (by rw [hml]; rfl) (Steps.refl _) (argsL := [(.long x1), (.long x1)]) (rest := []) (lenOf pd_4 rfl) rfl (by show 2 * 0 + _ ≤ _; exact Nat.le_of_eq rfl) (hb hby at_48) (fun _ _ => ⟨rfl, e200, (by decide : 0 + 0 ≤ _), (by decide : 0 + 0 ≤ _)⟩)
              dsimp only [Pt.U, Pt.locs, Pt.cells, Pt.slots] at X201 l201 y201 z201 st201 hQ201
              subst l201 y201 z201
              obtain ⟨rfl, N201q, e201⟩ := hQ201
              have N201 := Fr.app N200 N201q
              obtain ⟨cq202, kq202, q202a, q202b, q202c⟩ := isOf hZ e201 E_w_GREATER_OR_EQUAL
              obtain ⟨_, _, ⟨T202, L202, k202, n202⟩, -, X202, ⟨Lc202, hQ202, l202, y202, z202⟩, st202⟩ := X201.virtualBack hx (y := (⟨"com/example/latticut/latticut/lang/Comparison", "test", "(JJ)Z"⟩ : MethodName)) (z := (⟨"com/example/latticut/latticut/lang/Comparison", "test", "(JJ)Z"⟩ : MethodName)) hown (mvT hZ (hw _ (List.mem_of_getElem? (i := 16) rfl))) (mvT hZ (hw _ (List.mem_of_getElem? (i := 17) rfl))) (notFace_of_selects (args := #[]) (mvT hZ (hw _ (List.mem_of_getElem? (i := 19) rfl)))) (mvT hZ (hw _ (List.mem_of_getElem? (i := 19) rfl))) (mvT hZ (hw _ (List.mem_of_getElem? (i := 18) rfl))) (by decide) (backOf (W := 1) (rm12 l Z a0 hw [] w_GREATER_OR_EQUAL x1 h0 n0 Z0 ((own_ar0 x1 x2 hc198)) ((own_ar1 x1 x2 hc198)) F_whenEqual_w_GREATER_OR_EQUAL E_w_GREATER_OR_EQUAL) hZ (hw _ (List.mem_of_getElem? (i := 20) rfl)) (hw _ (List.mem_of_getElem? (i := 6) rfl)) (by decide) (by decide)) q202a q202c (g := (mkF m 55 #[.val (.int x0), .val (.long x1), .second, .val (.long x2), .second, .val (.ref w_GREATER_OR_EQUAL), .val (.ref w_LESS), .val (.int (1 : Int32)), .unset, .unset] [(.long x1), (.long x1), (.ref w_GREATER_OR_EQUAL), (.int (0 : Int32))])) rfl (by rw [hml]; rfl) (Steps.refl _) (argsL := [(.long x1), (.long x1)]) (rest := [(.int (0 : Int32))]) (lenOf pd_4 rfl) rfl (by show 2 * 0 + _ ≤ _; exact Nat.le_of_eq rfl) (hb hby at_55) (fun _ _ => ⟨rfl, e201, (by decide : 0 + 0 ≤ _), (by decide : 0 + 0 ≤ _)⟩)
              dsimp only [Pt.U, Pt.locs, Pt.cells, Pt.slots] at X202 l202 y202 z202 st202 hQ202
              subst l202 y202 z202
              obtain ⟨rfl, N202q, e202⟩ := hQ202
              have N202 := Fr.app N201 N202q
              obtain ⟨cq203, kq203, q203a, q203b, q203c⟩ := isOf hZ e202 E_w_LESS
              obtain ⟨_, _, ⟨T203, L203, k203, n203⟩, -, X203, ⟨Lc203, hQ203, l203, y203, z203⟩, st203⟩ := X202.virtualBack hx (y := (⟨"com/example/latticut/latticut/lang/Comparison", "test", "(JJ)Z"⟩ : MethodName)) (z := (⟨"com/example/latticut/latticut/lang/Comparison", "test", "(JJ)Z"⟩ : MethodName)) hown (mvT hZ (hw _ (List.mem_of_getElem? (i := 16) rfl))) (mvT hZ (hw _ (List.mem_of_getElem? (i := 17) rfl))) (notFace_of_selects (args := #[]) (mvT hZ (hw _ (List.mem_of_getElem? (i := 19) rfl)))) (mvT hZ (hw _ (List.mem_of_getElem? (i := 19) rfl))) (mvT hZ (hw _ (List.mem_of_getElem? (i := 18) rfl))) (by decide) (backOf (W := 0) (rm17 l Z a0 hw [] w_LESS x2 x1 h0 n0 Z0 ((own_ar2 x1 x2 hc198)) ((own_ar3 x1 x2 hc198)) F_whenGreater_w_LESS E_w_LESS) hZ (hw _ (List.mem_of_getElem? (i := 20) rfl)) (hw _ (List.mem_of_getElem? (i := 6) rfl)) (by decide) (by decide)) q203a q203c (g := (mkF m 72 #[.val (.int x0), .val (.long x1), .second, .val (.long x2), .second, .val (.ref w_GREATER_OR_EQUAL), .val (.ref w_LESS), .val (.int (1 : Int32)), .val (.int (1 : Int32)), .unset] [(.long x1), (.long x2), (.ref w_LESS)])) rfl (by rw [hml]; rfl) (Steps.refl _) (argsL := [(.long x2), (.long x1)]) (rest := []) (lenOf pd_4 rfl) rfl (by show 2 * 0 + _ ≤ _; exact Nat.le_of_eq rfl) (hb hby at_72) (fun _ _ => ⟨rfl, e202, (by decide : 0 + 0 ≤ _), (by decide : 0 + 0 ≤ _)⟩)
              dsimp only [Pt.U, Pt.locs, Pt.cells, Pt.slots] at X203 l203 y203 z203 st203 hQ203
              subst l203 y203 z203
              obtain ⟨rfl, N203q, e203⟩ := hQ203
              have N203 := Fr.app N202 N203q
              obtain ⟨cq204, kq204, q204a, q204b, q204c⟩ := isOf hZ e203 E_w_GREATER_OR_EQUAL
              obtain ⟨_, _, ⟨T204, L204, k204, n204⟩, -, X204, ⟨Lc204, hQ204, l204, y204, z204⟩, st204⟩ := X203.virtualBack hx (y := (⟨"com/example/latticut/latticut/lang/Comparison", "test", "(JJ)Z"⟩ : MethodName)) (z := (⟨"com/example/latticut/latticut/lang/Comparison", "test", "(JJ)Z"⟩ : MethodName)) hown (mvT hZ (hw _ (List.mem_of_getElem? (i := 16) rfl))) (mvT hZ (hw _ (List.mem_of_getElem? (i := 17) rfl))) (notFace_of_selects (args := #[]) (mvT hZ (hw _ (List.mem_of_getElem? (i := 19) rfl)))) (mvT hZ (hw _ (List.mem_of_getElem? (i := 19) rfl))) (mvT hZ (hw _ (List.mem_of_getElem? (i := 18) rfl))) (by decide) (backOf (W := 1) (rm15 l Z a0 hw [] w_GREATER_OR_EQUAL x2 x1 h0 n0 Z0 ((own_ar2 x1 x2 hc198)) ((own_ar3 x1 x2 hc198)) F_whenGreater_w_GREATER_OR_EQUAL E_w_GREATER_OR_EQUAL) hZ (hw _ (List.mem_of_getElem? (i := 20) rfl)) (hw _ (List.mem_of_getElem? (i := 6) rfl)) (by decide) (by decide)) q204a q204c (g := (mkF m 79 #[.val (.int x0), .val (.long x1), .second, .val (.long x2), .second, .val (.ref w_GREATER_OR_EQUAL), .val (.ref w_LESS), .val (.int (1 : Int32)), .val (.int (1 : Int32)), .unset] [(.long x1), (.long x2), (.ref w_GREATER_OR_EQUAL), (.int (0 : Int32))])) rfl (by rw [hml]; rfl) (Steps.refl _) (argsL := [(.long x2), (.long x1)]) (rest := [(.int (0 : Int32))]) (lenOf pd_4 rfl) rfl (by show 2 * 0 + _ ≤ _; exact Nat.le_of_eq rfl) (hb hby at_79) (fun _ _ => ⟨rfl, e203, (by decide : 0 + 0 ≤ _), (by decide : 0 + 0 ≤ _)⟩)
              dsimp only [Pt.U, Pt.locs, Pt.cells, Pt.slots] at X204 l204 y204 z204 st204 hQ204
              subst l204 y204 z204
              obtain ⟨rfl, N204q, e204⟩ := hQ204
              have N204 := Fr.app N203 N204q
              have pre205 : ∀ t, Steps p.tables e below (T204.setTop (mkF m 112 #[.val (.int x0), .val (.long x1), .second, .val (.long x2), .second, .val (.ref w_GREATER_OR_EQUAL), .val (.ref w_LESS), .val (.int (1 : Int32)), .val (.int (1 : Int32)), .val (.int (1 : Int32))] [(.int (1 : Int32))])) t → Steps p.tables e below (s₁.setTop (entryFrame m #[(.int x0), (.long x1), (.long x2)] maxLocals)) t := fun t kk => pre197 t (by
                show Steps p.tables e below (T196.setTop (mkF m 24 #[.val (.int x0), .val (.long x1), .second, .val (.long x2), .second, .val (.ref w_GREATER_OR_EQUAL), .val (.ref w_LESS), .unset, .unset, .unset] [(.long x2), (.long x1), (.ref w_LESS)])) _
                refine st199.trans ?_
                show Steps p.tables e below (T199.setTop (mkF m 27 #[.val (.int x0), .val (.long x1), .second, .val (.long x2), .second, .val (.ref w_GREATER_OR_EQUAL), .val (.ref w_LESS), .unset, .unset, .unset] [(.int (1 : Int32))])) _
                refine XS.aload X199.here hx rfl (hb hby at_27) rfl rfl ?_
                show Steps p.tables e below (T199.setTop (mkF m 29 #[.val (.int x0), .val (.long x1), .second, .val (.long x2), .second, .val (.ref w_GREATER_OR_EQUAL), .val (.ref w_LESS), .unset, .unset, .unset] [(.ref w_GREATER_OR_EQUAL), (.int (1 : Int32))])) _
                refine XS.lloadN X199.here hx rfl (hb hby at_29) rfl ?_
                show Steps p.tables e below (T199.setTop (mkF m 30 #[.val (.int x0), .val (.long x1), .second, .val (.long x2), .second, .val (.ref w_GREATER_OR_EQUAL), .val (.ref w_LESS), .unset, .unset, .unset] [(.long x1), (.ref w_GREATER_OR_EQUAL), (.int (1 : Int32))])) _
                refine XS.lloadN X199.here hx rfl (hb hby at_30) rfl ?_
                show Steps p.tables e below (T199.setTop (mkF m 31 #[.val (.int x0), .val (.long x1), .second, .val (.long x2), .second, .val (.ref w_GREATER_OR_EQUAL), .val (.ref w_LESS), .unset, .unset, .unset] [(.long x2), (.long x1), (.ref w_GREATER_OR_EQUAL), (.int (1 : Int32))])) _
                refine st200.trans ?_
                show Steps p.tables e below (T200.setTop (mkF m 34 #[.val (.int x0), .val (.long x1), .second, .val (.long x2), .second, .val (.ref w_GREATER_OR_EQUAL), .val (.ref w_LESS), .unset, .unset, .unset] [(.int (0 : Int32)), (.int (1 : Int32))])) _
                refine XS.icmpNo X200.here hx rfl (hb hby at_34) rfl (feq ((by decide) : ¬ ((1 : Int32) = (0 : Int32)))).1 ?_
                show Steps p.tables e below (T200.setTop (mkF m 37 #[.val (.int x0), .val (.long x1), .second, .val (.long x2), .second, .val (.ref w_GREATER_OR_EQUAL), .val (.ref w_LESS), .unset, .unset, .unset] [])) _
                refine XS.iconst X200.here hx rfl (hb hby at_37) ?_
                show Steps p.tables e below (T200.setTop (mkF m 38 #[.val (.int x0), .val (.long x1), .second, .val (.long x2), .second, .val (.ref w_GREATER_OR_EQUAL), .val (.ref w_LESS), .unset, .unset, .unset] [(.int (1 : Int32))])) _
                refine XS.goto X200.here hx rfl (pc0 := 38) (pc' := 42) rfl (hb hby at_38) (by decide) (by decide) ?_
                show Steps p.tables e below (T200.setTop (mkF m 42 #[.val (.int x0), .val (.long x1), .second, .val (.long x2), .second, .val (.ref w_GREATER_OR_EQUAL), .val (.ref w_LESS), .unset, .unset, .unset] [(.int (1 : Int32))])) _
                refine XS.istore X200.here hx rfl (hb hby at_42) rfl (l' := #[.val (.int x0), .val (.long x1), .second, .val (.long x2), .second, .val (.ref w_GREATER_OR_EQUAL), .val (.ref w_LESS), .val (.int (1 : Int32)), .unset, .unset]) rfl ?_
                show Steps p.tables e below (T200.setTop (mkF m 44 #[.val (.int x0), .val (.long x1), .second, .val (.long x2), .second, .val (.ref w_GREATER_OR_EQUAL), .val (.ref w_LESS), .val (.int (1 : Int32)), .unset, .unset] [])) _
                refine XS.aload X200.here hx rfl (hb hby at_44) rfl rfl ?_
                show Steps p.tables e below (T200.setTop (mkF m 46 #[.val (.int x0), .val (.long x1), .second, .val (.long x2), .second, .val (.ref w_GREATER_OR_EQUAL), .val (.ref w_LESS), .val (.int (1 : Int32)), .unset, .unset] [(.ref w_LESS)])) _
                refine XS.lloadN X200.here hx rfl (hb hby at_46) rfl ?_
                show Steps p.tables e below (T200.setTop (mkF m 47 #[.val (.int x0), .val (.long x1), .second, .val (.long x2), .second, .val (.ref w_GREATER_OR_EQUAL), .val (.ref w_LESS), .val (.int (1 : Int32)), .unset, .unset] [(.long x1), (.ref w_LESS)])) _
                refine XS.lloadN X200.here hx rfl (hb hby at_47) rfl ?_
                show Steps p.tables e below (T200.setTop (mkF m 48 #[.val (.int x0), .val (.long x1), .second, .val (.long x2), .second, .val (.ref w_GREATER_OR_EQUAL), .val (.ref w_LESS), .val (.int (1 : Int32)), .unset, .unset] [(.long x1), (.long x1), (.ref w_LESS)])) _
                refine st201.trans ?_
                show Steps p.tables e below (T201.setTop (mkF m 51 #[.val (.int x0), .val (.long x1), .second, .val (.long x2), .second, .val (.ref w_GREATER_OR_EQUAL), .val (.ref w_LESS), .val (.int (1 : Int32)), .unset, .unset] [(.int (0 : Int32))])) _
                refine XS.aload X201.here hx rfl (hb hby at_51) rfl rfl ?_
                show Steps p.tables e below (T201.setTop (mkF m 53 #[.val (.int x0), .val (.long x1), .second, .val (.long x2), .second, .val (.ref w_GREATER_OR_EQUAL), .val (.ref w_LESS), .val (.int (1 : Int32)), .unset, .unset] [(.ref w_GREATER_OR_EQUAL), (.int (0 : Int32))])) _
                refine XS.lloadN X201.here hx rfl (hb hby at_53) rfl ?_
                show Steps p.tables e below (T201.setTop (mkF m 54 #[.val (.int x0), .val (.long x1), .second, .val (.long x2), .second, .val (.ref w_GREATER_OR_EQUAL), .val (.ref w_LESS), .val (.int (1 : Int32)), .unset, .unset] [(.long x1), (.ref w_GREATER_OR_EQUAL), (.int (0 : Int32))])) _
                refine XS.lloadN X201.here hx rfl (hb hby at_54) rfl ?_
                show Steps p.tables e below (T201.setTop (mkF m 55 #[.val (.int x0), .val (.long x1), .second, .val (.long x2), .second, .val (.ref w_GREATER_OR_EQUAL), .val (.ref w_LESS), .val (.int (1 : Int32)), .unset, .unset] [(.long x1), (.long x1), (.ref w_GREATER_OR_EQUAL), (.int (0 : Int32))])) _
                refine st202.trans ?_
                show Steps p.tables e below (T202.setTop (mkF m 58 #[.val (.int x0), .val (.long x1), .second, .val (.long x2), .second, .val (.ref w_GREATER_OR_EQUAL), .val (.ref w_LESS), .val (.int (1 : Int32)), .unset, .unset] [(.int (1 : Int32)), (.int (0 : Int32))])) _
                refine XS.icmpNo X202.here hx rfl (hb hby at_58) rfl (feq ((by decide) : ¬ ((0 : Int32) = (1 : Int32)))).1 ?_
                show Steps p.tables e below (T202.setTop (mkF m 61 #[.val (.int x0), .val (.long x1), .second, .val (.long x2), .second, .val (.ref w_GREATER_OR_EQUAL), .val (.ref w_LESS), .val (.int (1 : Int32)), .unset, .unset] [])) _
                refine XS.iconst X202.here hx rfl (hb hby at_61) ?_
                show Steps p.tables e below (T202.setTop (mkF m 62 #[.val (.int x0), .val (.long x1), .second, .val (.long x2), .second, .val (.ref w_GREATER_OR_EQUAL), .val (.ref w_LESS), .val (.int (1 : Int32)), .unset, .unset] [(.int (1 : Int32))])) _
                refine XS.goto X202.here hx rfl (pc0 := 62) (pc' := 66) rfl (hb hby at_62) (by decide) (by decide) ?_
                show Steps p.tables e below (T202.setTop (mkF m 66 #[.val (.int x0), .val (.long x1), .second, .val (.long x2), .second, .val (.ref w_GREATER_OR_EQUAL), .val (.ref w_LESS), .val (.int (1 : Int32)), .unset, .unset] [(.int (1 : Int32))])) _
                refine XS.istore X202.here hx rfl (hb hby at_66) rfl (l' := #[.val (.int x0), .val (.long x1), .second, .val (.long x2), .second, .val (.ref w_GREATER_OR_EQUAL), .val (.ref w_LESS), .val (.int (1 : Int32)), .val (.int (1 : Int32)), .unset]) rfl ?_
                show Steps p.tables e below (T202.setTop (mkF m 68 #[.val (.int x0), .val (.long x1), .second, .val (.long x2), .second, .val (.ref w_GREATER_OR_EQUAL), .val (.ref w_LESS), .val (.int (1 : Int32)), .val (.int (1 : Int32)), .unset] [])) _
                refine XS.aload X202.here hx rfl (hb hby at_68) rfl rfl ?_
                show Steps p.tables e below (T202.setTop (mkF m 70 #[.val (.int x0), .val (.long x1), .second, .val (.long x2), .second, .val (.ref w_GREATER_OR_EQUAL), .val (.ref w_LESS), .val (.int (1 : Int32)), .val (.int (1 : Int32)), .unset] [(.ref w_LESS)])) _
                refine XS.lloadN X202.here hx rfl (hb hby at_70) rfl ?_
                show Steps p.tables e below (T202.setTop (mkF m 71 #[.val (.int x0), .val (.long x1), .second, .val (.long x2), .second, .val (.ref w_GREATER_OR_EQUAL), .val (.ref w_LESS), .val (.int (1 : Int32)), .val (.int (1 : Int32)), .unset] [(.long x2), (.ref w_LESS)])) _
                refine XS.lloadN X202.here hx rfl (hb hby at_71) rfl ?_
                show Steps p.tables e below (T202.setTop (mkF m 72 #[.val (.int x0), .val (.long x1), .second, .val (.long x2), .second, .val (.ref w_GREATER_OR_EQUAL), .val (.ref w_LESS), .val (.int (1 : Int32)), .val (.int (1 : Int32)), .unset] [(.long x1), (.long x2), (.ref w_LESS)])) _
                refine st203.trans ?_
                show Steps p.tables e below (T203.setTop (mkF m 75 #[.val (.int x0), .val (.long x1), .second, .val (.long x2), .second, .val (.ref w_GREATER_OR_EQUAL), .val (.ref w_LESS), .val (.int (1 : Int32)), .val (.int (1 : Int32)), .unset] [(.int (0 : Int32))])) _
                refine XS.aload X203.here hx rfl (hb hby at_75) rfl rfl ?_
                show Steps p.tables e below (T203.setTop (mkF m 77 #[.val (.int x0), .val (.long x1), .second, .val (.long x2), .second, .val (.ref w_GREATER_OR_EQUAL), .val (.ref w_LESS), .val (.int (1 : Int32)), .val (.int (1 : Int32)), .unset] [(.ref w_GREATER_OR_EQUAL), (.int (0 : Int32))])) _
                refine XS.lloadN X203.here hx rfl (hb hby at_77) rfl ?_
                show Steps p.tables e below (T203.setTop (mkF m 78 #[.val (.int x0), .val (.long x1), .second, .val (.long x2), .second, .val (.ref w_GREATER_OR_EQUAL), .val (.ref w_LESS), .val (.int (1 : Int32)), .val (.int (1 : Int32)), .unset] [(.long x2), (.ref w_GREATER_OR_EQUAL), (.int (0 : Int32))])) _
                refine XS.lloadN X203.here hx rfl (hb hby at_78) rfl ?_
                show Steps p.tables e below (T203.setTop (mkF m 79 #[.val (.int x0), .val (.long x1), .second, .val (.long x2), .second, .val (.ref w_GREATER_OR_EQUAL), .val (.ref w_LESS), .val (.int (1 : Int32)), .val (.int (1 : Int32)), .unset] [(.long x1), (.long x2), (.ref w_GREATER_OR_EQUAL), (.int (0 : Int32))])) _
                refine st204.trans ?_
                show Steps p.tables e below (T204.setTop (mkF m 82 #[.val (.int x0), .val (.long x1), .second, .val (.long x2), .second, .val (.ref w_GREATER_OR_EQUAL), .val (.ref w_LESS), .val (.int (1 : Int32)), .val (.int (1 : Int32)), .unset] [(.int (1 : Int32)), (.int (0 : Int32))])) _
                refine XS.icmpNo X204.here hx rfl (hb hby at_82) rfl (feq ((by decide) : ¬ ((0 : Int32) = (1 : Int32)))).1 ?_
                show Steps p.tables e below (T204.setTop (mkF m 85 #[.val (.int x0), .val (.long x1), .second, .val (.long x2), .second, .val (.ref w_GREATER_OR_EQUAL), .val (.ref w_LESS), .val (.int (1 : Int32)), .val (.int (1 : Int32)), .unset] [])) _
                refine XS.iconst X204.here hx rfl (hb hby at_85) ?_
                show Steps p.tables e below (T204.setTop (mkF m 86 #[.val (.int x0), .val (.long x1), .second, .val (.long x2), .second, .val (.ref w_GREATER_OR_EQUAL), .val (.ref w_LESS), .val (.int (1 : Int32)), .val (.int (1 : Int32)), .unset] [(.int (1 : Int32))])) _
                refine XS.goto X204.here hx rfl (pc0 := 86) (pc' := 90) rfl (hb hby at_86) (by decide) (by decide) ?_
                show Steps p.tables e below (T204.setTop (mkF m 90 #[.val (.int x0), .val (.long x1), .second, .val (.long x2), .second, .val (.ref w_GREATER_OR_EQUAL), .val (.ref w_LESS), .val (.int (1 : Int32)), .val (.int (1 : Int32)), .unset] [(.int (1 : Int32))])) _
                refine XS.istore X204.here hx rfl (hb hby at_90) rfl (l' := #[.val (.int x0), .val (.long x1), .second, .val (.long x2), .second, .val (.ref w_GREATER_OR_EQUAL), .val (.ref w_LESS), .val (.int (1 : Int32)), .val (.int (1 : Int32)), .val (.int (1 : Int32))]) rfl ?_
                show Steps p.tables e below (T204.setTop (mkF m 92 #[.val (.int x0), .val (.long x1), .second, .val (.long x2), .second, .val (.ref w_GREATER_OR_EQUAL), .val (.ref w_LESS), .val (.int (1 : Int32)), .val (.int (1 : Int32)), .val (.int (1 : Int32))] [])) _
                refine XS.iload X204.here hx rfl (hb hby at_92) rfl ?_
                show Steps p.tables e below (T204.setTop (mkF m 94 #[.val (.int x0), .val (.long x1), .second, .val (.long x2), .second, .val (.ref w_GREATER_OR_EQUAL), .val (.ref w_LESS), .val (.int (1 : Int32)), .val (.int (1 : Int32)), .val (.int (1 : Int32))] [(.int (1 : Int32))])) _
                refine XS.ifNo X204.here hx rfl (hb hby at_94) rfl ((if0 _ _).trans (feq ((by decide) : ¬ ((1 : Int32) = (0 : Int32)))).1) ?_
                show Steps p.tables e below (T204.setTop (mkF m 97 #[.val (.int x0), .val (.long x1), .second, .val (.long x2), .second, .val (.ref w_GREATER_OR_EQUAL), .val (.ref w_LESS), .val (.int (1 : Int32)), .val (.int (1 : Int32)), .val (.int (1 : Int32))] [])) _
                refine XS.iload X204.here hx rfl (hb hby at_97) rfl ?_
                show Steps p.tables e below (T204.setTop (mkF m 99 #[.val (.int x0), .val (.long x1), .second, .val (.long x2), .second, .val (.ref w_GREATER_OR_EQUAL), .val (.ref w_LESS), .val (.int (1 : Int32)), .val (.int (1 : Int32)), .val (.int (1 : Int32))] [(.int (1 : Int32))])) _
                refine XS.ifNo X204.here hx rfl (hb hby at_99) rfl ((if0 _ _).trans (feq ((by decide) : ¬ ((1 : Int32) = (0 : Int32)))).1) ?_
                show Steps p.tables e below (T204.setTop (mkF m 102 #[.val (.int x0), .val (.long x1), .second, .val (.long x2), .second, .val (.ref w_GREATER_OR_EQUAL), .val (.ref w_LESS), .val (.int (1 : Int32)), .val (.int (1 : Int32)), .val (.int (1 : Int32))] [])) _
                refine XS.iload X204.here hx rfl (hb hby at_102) rfl ?_
                show Steps p.tables e below (T204.setTop (mkF m 104 #[.val (.int x0), .val (.long x1), .second, .val (.long x2), .second, .val (.ref w_GREATER_OR_EQUAL), .val (.ref w_LESS), .val (.int (1 : Int32)), .val (.int (1 : Int32)), .val (.int (1 : Int32))] [(.int (1 : Int32))])) _
                refine XS.ifNo X204.here hx rfl (hb hby at_104) rfl ((if0 _ _).trans (feq ((by decide) : ¬ ((1 : Int32) = (0 : Int32)))).1) ?_
                show Steps p.tables e below (T204.setTop (mkF m 107 #[.val (.int x0), .val (.long x1), .second, .val (.long x2), .second, .val (.ref w_GREATER_OR_EQUAL), .val (.ref w_LESS), .val (.int (1 : Int32)), .val (.int (1 : Int32)), .val (.int (1 : Int32))] [])) _
                refine XS.iconst X204.here hx rfl (hb hby at_107) ?_
                show Steps p.tables e below (T204.setTop (mkF m 108 #[.val (.int x0), .val (.long x1), .second, .val (.long x2), .second, .val (.ref w_GREATER_OR_EQUAL), .val (.ref w_LESS), .val (.int (1 : Int32)), .val (.int (1 : Int32)), .val (.int (1 : Int32))] [(.int (1 : Int32))])) _
                refine XS.goto X204.here hx rfl (pc0 := 108) (pc' := 112) rfl (hb hby at_108) (by decide) (by decide) ?_
                exact kk)
              obtain ⟨fs, hr, hrun, hended, hW, hsame⟩ := X204.leave (v := some (.int (1 : Int32))) (fun h => by rw [Bd.returns] at h; cases h)
              refine ⟨_, _, pre205 _ ?_, hrun, hended, _, _, rfl, ?_, ⟨_, rfl⟩, hW, hsame.mono (by decide) (by decide)⟩
              · exact retN X204 hx (t := .boolean) Bd.returns (by simp) (hb hby at_112) hr
              · exact ⟨rfl, N204⟩
            ·
              by_cases hc206 : (lcmpW x1 x2) = (0 : Int32)
              ·
                obtain ⟨cq207, kq207, q207a, q207b, q207c⟩ := isOf hZ e196 E_w_LESS
                obtain ⟨_, _, ⟨T207, L207, k207, n207⟩, -, X207, ⟨Lc207, hQ207, l207, y207, z207⟩, st207⟩ := X196.virtualBack hx (y := (⟨"com/example/latticut/latticut/lang/Comparison", "test", "(JJ)Z"⟩ : MethodName)) (z := (⟨"com/example/latticut/latticut/lang/Comparison", "test", "(JJ)Z"⟩ : MethodName)) hown (mvT hZ (hw _ (List.mem_of_getElem? (i := 16) rfl))) (mvT hZ (hw _ (List.mem_of_getElem? (i := 17) rfl))) (notFace_of_selects (args := #[]) (mvT hZ (hw _ (List.mem_of_getElem? (i := 19) rfl)))) (mvT hZ (hw _ (List.mem_of_getElem? (i := 19) rfl))) (mvT hZ (hw _ (List.mem_of_getElem? (i := 18) rfl))) (by decide) (backOf (W := 0) (rm19 l Z a0 hw [] w_LESS x1 x2 h0 n0 Z0 hc198 hc206 F_whenEqual_w_LESS E_w_LESS) hZ (hw _ (List.mem_of_getElem? (i := 20) rfl)) (hw _ (List.mem_of_getElem? (i := 6) rfl)) (by decide) (by decide)) q207a q207c (g := (mkF m 24 #[.val (.int x0), .val (.long x1), .second, .val (.long x2), .second, .val (.ref w_GREATER_OR_EQUAL), .val (.ref w_LESS), .unset, .unset, .unset] [(.long x2), (.long x1), (.ref w_LESS)])) rfl (by rw [hml]; rfl) (Steps.refl _) (argsL := [(.long x1), (.long x2)]) (rest := []) (lenOf pd_4 rfl) rfl (by show 2 * 0 + _ ≤ _; exact Nat.le_of_eq rfl) (hb hby at_24) (fun _ _ => ⟨rfl, e196, (by decide : 0 + 0 ≤ _), (by decide : 0 + 0 ≤ _)⟩)
                dsimp only [Pt.U, Pt.locs, Pt.cells, Pt.slots] at X207 l207 y207 z207 st207 hQ207
                subst l207 y207 z207
                obtain ⟨rfl, N207q, e207⟩ := hQ207
                have N207 := Fr.app N196 N207q
                obtain ⟨cq208, kq208, q208a, q208b, q208c⟩ := isOf hZ e207 E_w_GREATER_OR_EQUAL
                obtain ⟨_, _, ⟨T208, L208, k208, n208⟩, -, X208, ⟨Lc208, hQ208, l208, y208, z208⟩, st208⟩ := X207.virtualBack hx (y := (⟨"com/example/latticut/latticut/lang/Comparison", "test", "(JJ)Z"⟩ : MethodName)) (z := (⟨"com/example/latticut/latticut/lang/Comparison", "test", "(JJ)Z"⟩ : MethodName)) hown (mvT hZ (hw _ (List.mem_of_getElem? (i := 16) rfl))) (mvT hZ (hw _ (List.mem_of_getElem? (i := 17) rfl))) (notFace_of_selects (args := #[]) (mvT hZ (hw _ (List.mem_of_getElem? (i := 19) rfl)))) (mvT hZ (hw _ (List.mem_of_getElem? (i := 19) rfl))) (mvT hZ (hw _ (List.mem_of_getElem? (i := 18) rfl))) (by decide) (backOf (W := 1) (rm20 l Z a0 hw [] w_GREATER_OR_EQUAL x1 x2 h0 n0 Z0 hc198 hc206 F_whenEqual_w_GREATER_OR_EQUAL E_w_GREATER_OR_EQUAL) hZ (hw _ (List.mem_of_getElem? (i := 20) rfl)) (hw _ (List.mem_of_getElem? (i := 6) rfl)) (by decide) (by decide)) q208a q208c (g := (mkF m 31 #[.val (.int x0), .val (.long x1), .second, .val (.long x2), .second, .val (.ref w_GREATER_OR_EQUAL), .val (.ref w_LESS), .unset, .unset, .unset] [(.long x2), (.long x1), (.ref w_GREATER_OR_EQUAL), (.int (0 : Int32))])) rfl (by rw [hml]; rfl) (Steps.refl _) (argsL := [(.long x1), (.long x2)]) (rest := [(.int (0 : Int32))]) (lenOf pd_4 rfl) rfl (by show 2 * 0 + _ ≤ _; exact Nat.le_of_eq rfl) (hb hby at_31) (fun _ _ => ⟨rfl, e207, (by decide : 0 + 0 ≤ _), (by decide : 0 + 0 ≤ _)⟩)
                dsimp only [Pt.U, Pt.locs, Pt.cells, Pt.slots] at X208 l208 y208 z208 st208 hQ208
                subst l208 y208 z208
                obtain ⟨rfl, N208q, e208⟩ := hQ208
                have N208 := Fr.app N207 N208q
                obtain ⟨cq209, kq209, q209a, q209b, q209c⟩ := isOf hZ e208 E_w_LESS
                obtain ⟨_, _, ⟨T209, L209, k209, n209⟩, -, X209, ⟨Lc209, hQ209, l209, y209, z209⟩, st209⟩ := X208.virtualBack hx (y := (⟨"com/example/latticut/latticut/lang/Comparison", "test", "(JJ)Z"⟩ : MethodName)) (z := (⟨"com/example/latticut/latticut/lang/Comparison", "test", "(JJ)Z"⟩ : MethodName)) hown (mvT hZ (hw _ (List.mem_of_getElem? (i := 16) rfl))) (mvT hZ (hw _ (List.mem_of_getElem? (i := 17) rfl))) (notFace_of_selects (args := #[]) (mvT hZ (hw _ (List.mem_of_getElem? (i := 19) rfl)))) (mvT hZ (hw _ (List.mem_of_getElem? (i := 19) rfl))) (mvT hZ (hw _ (List.mem_of_getElem? (i := 18) rfl))) (by decide) (backOf (W := 0) (rm10 l Z a0 hw [] w_LESS x1 h0 n0 Z0 ((own_ar4 x1 x2 hc198 hc206)) ((own_ar5 x1 x2 hc198 hc206)) F_whenEqual_w_LESS E_w_LESS) hZ (hw _ (List.mem_of_getElem? (i := 20) rfl)) (hw _ (List.mem_of_getElem? (i := 6) rfl)) (by decide) (by decide)) q209a q209c (g := (mkF m 48 #[.val (.int x0), .val (.long x1), .second, .val (.long x2), .second, .val (.ref w_GREATER_OR_EQUAL), .val (.ref w_LESS), .val (.int (1 : Int32)), .unset, .unset] [(.long x1), (.long x1), (.ref w_LESS)])) rfl (by rw [hml]; rfl) (Steps.refl _) (argsL := [(.long x1), (.long x1)]) (rest := []) (lenOf pd_4 rfl) rfl (by show 2 * 0 + _ ≤ _; exact Nat.le_of_eq rfl) (hb hby at_48) (fun _ _ => ⟨rfl, e208, (by decide : 0 + 0 ≤ _), (by decide : 0 + 0 ≤ _)⟩)
                dsimp only [Pt.U, Pt.locs, Pt.cells, Pt.slots] at X209 l209 y209 z209 st209 hQ209
                subst l209 y209 z209
                obtain ⟨rfl, N209q, e209⟩ := hQ209
                have N209 := Fr.app N208 N209q
                obtain ⟨cq210, kq210, q210a, q210b, q210c⟩ := isOf hZ e209 E_w_GREATER_OR_EQUAL
                obtain ⟨_, _, ⟨T210, L210, k210, n210⟩, -, X210, ⟨Lc210, hQ210, l210, y210, z210⟩, st210⟩ := X209.virtualBack hx (y := (⟨"com/example/latticut/latticut/lang/Comparison", "test", "(JJ)Z"⟩ : MethodName)) (z := (⟨"com/example/latticut/latticut/lang/Comparison", "test", "(JJ)Z"⟩ : MethodName)) hown (mvT hZ (hw _ (List.mem_of_getElem? (i := 16) rfl))) (mvT hZ (hw _ (List.mem_of_getElem? (i := 17) rfl))) (notFace_of_selects (args := #[]) (mvT hZ (hw _ (List.mem_of_getElem? (i := 19) rfl)))) (mvT hZ (hw _ (List.mem_of_getElem? (i := 19) rfl))) (mvT hZ (hw _ (List.mem_of_getElem? (i := 18) rfl))) (by decide) (backOf (W := 1) (rm12 l Z a0 hw [] w_GREATER_OR_EQUAL x1 h0 n0 Z0 ((own_ar4 x1 x2 hc198 hc206)) ((own_ar5 x1 x2 hc198 hc206)) F_whenEqual_w_GREATER_OR_EQUAL E_w_GREATER_OR_EQUAL) hZ (hw _ (List.mem_of_getElem? (i := 20) rfl)) (hw _ (List.mem_of_getElem? (i := 6) rfl)) (by decide) (by decide)) q210a q210c (g := (mkF m 55 #[.val (.int x0), .val (.long x1), .second, .val (.long x2), .second, .val (.ref w_GREATER_OR_EQUAL), .val (.ref w_LESS), .val (.int (1 : Int32)), .unset, .unset] [(.long x1), (.long x1), (.ref w_GREATER_OR_EQUAL), (.int (0 : Int32))])) rfl (by rw [hml]; rfl) (Steps.refl _) (argsL := [(.long x1), (.long x1)]) (rest := [(.int (0 : Int32))]) (lenOf pd_4 rfl) rfl (by show 2 * 0 + _ ≤ _; exact Nat.le_of_eq rfl) (hb hby at_55) (fun _ _ => ⟨rfl, e209, (by decide : 0 + 0 ≤ _), (by decide : 0 + 0 ≤ _)⟩)
                dsimp only [Pt.U, Pt.locs, Pt.cells, Pt.slots] at X210 l210 y210 z210 st210 hQ210
                subst l210 y210 z210
                obtain ⟨rfl, N210q, e210⟩ := hQ210
                have N210 := Fr.app N209 N210q
                obtain ⟨cq211, kq211, q211a, q211b, q211c⟩ := isOf hZ e210 E_w_LESS
                obtain ⟨_, _, ⟨T211, L211, k211, n211⟩, -, X211, ⟨Lc211, hQ211, l211, y211, z211⟩, st211⟩ := X210.virtualBack hx (y := (⟨"com/example/latticut/latticut/lang/Comparison", "test", "(JJ)Z"⟩ : MethodName)) (z := (⟨"com/example/latticut/latticut/lang/Comparison", "test", "(JJ)Z"⟩ : MethodName)) hown (mvT hZ (hw _ (List.mem_of_getElem? (i := 16) rfl))) (mvT hZ (hw _ (List.mem_of_getElem? (i := 17) rfl))) (notFace_of_selects (args := #[]) (mvT hZ (hw _ (List.mem_of_getElem? (i := 19) rfl)))) (mvT hZ (hw _ (List.mem_of_getElem? (i := 19) rfl))) (mvT hZ (hw _ (List.mem_of_getElem? (i := 18) rfl))) (by decide) (backOf (W := 0) (rm19 l Z a0 hw [] w_LESS x2 x1 h0 n0 Z0 ((own_ar6 x1 x2 hc198 hc206)) ((own_ar7 x1 x2 hc198 hc206)) F_whenEqual_w_LESS E_w_LESS) hZ (hw _ (List.mem_of_getElem? (i := 20) rfl)) (hw _ (List.mem_of_getElem? (i := 6) rfl)) (by decide) (by decide)) q211a q211c (g := (mkF m 72 #[.val (.int x0), .val (.long x1), .second, .val (.long x2), .second, .val (.ref w_GREATER_OR_EQUAL), .val (.ref w_LESS), .val (.int (1 : Int32)), .val (.int (1 : Int32)), .unset] [(.long x1), (.long x2), (.ref w_LESS)])) rfl (by rw [hml]; rfl) (Steps.refl _) (argsL := [(.long x2), (.long x1)]) (rest := []) (lenOf pd_4 rfl) rfl (by show 2 * 0 + _ ≤ _; exact Nat.le_of_eq rfl) (hb hby at_72) (fun _ _ => ⟨rfl, e210, (by decide : 0 + 0 ≤ _), (by decide : 0 + 0 ≤ _)⟩)
                dsimp only [Pt.U, Pt.locs, Pt.cells, Pt.slots] at X211 l211 y211 z211 st211 hQ211
                subst l211 y211 z211
                obtain ⟨rfl, N211q, e211⟩ := hQ211
                have N211 := Fr.app N210 N211q
                obtain ⟨cq212, kq212, q212a, q212b, q212c⟩ := isOf hZ e211 E_w_GREATER_OR_EQUAL
                obtain ⟨_, _, ⟨T212, L212, k212, n212⟩, -, X212, ⟨Lc212, hQ212, l212, y212, z212⟩, st212⟩ := X211.virtualBack hx (y := (⟨"com/example/latticut/latticut/lang/Comparison", "test", "(JJ)Z"⟩ : MethodName)) (z := (⟨"com/example/latticut/latticut/lang/Comparison", "test", "(JJ)Z"⟩ : MethodName)) hown (mvT hZ (hw _ (List.mem_of_getElem? (i := 16) rfl))) (mvT hZ (hw _ (List.mem_of_getElem? (i := 17) rfl))) (notFace_of_selects (args := #[]) (mvT hZ (hw _ (List.mem_of_getElem? (i := 19) rfl)))) (mvT hZ (hw _ (List.mem_of_getElem? (i := 19) rfl))) (mvT hZ (hw _ (List.mem_of_getElem? (i := 18) rfl))) (by decide) (backOf (W := 1) (rm20 l Z a0 hw [] w_GREATER_OR_EQUAL x2 x1 h0 n0 Z0 ((own_ar6 x1 x2 hc198 hc206)) ((own_ar7 x1 x2 hc198 hc206)) F_whenEqual_w_GREATER_OR_EQUAL E_w_GREATER_OR_EQUAL) hZ (hw _ (List.mem_of_getElem? (i := 20) rfl)) (hw _ (List.mem_of_getElem? (i := 6) rfl)) (by decide) (by decide)) q212a q212c (g := (mkF m 79 #[.val (.int x0), .val (.long x1), .second, .val (.long x2), .second, .val (.ref w_GREATER_OR_EQUAL), .val (.ref w_LESS), .val (.int (1 : Int32)), .val (.int (1 : Int32)), .unset] [(.long x1), (.long x2), (.ref w_GREATER_OR_EQUAL), (.int (0 : Int32))])) rfl (by rw [hml]; rfl) (Steps.refl _) (argsL := [(.long x2), (.long x1)]) (rest := [(.int (0 : Int32))]) (lenOf pd_4 rfl) rfl (by show 2 * 0 + _ ≤ _; exact Nat.le_of_eq rfl) (hb hby at_79) (fun _ _ => ⟨rfl, e211, (by decide : 0 + 0 ≤ _), (by decide : 0 + 0 ≤ _)⟩)
                dsimp only [Pt.U, Pt.locs, Pt.cells, Pt.slots] at X212 l212 y212 z212 st212 hQ212
                subst l212 y212 z212
                obtain ⟨rfl, N212q, e212⟩ := hQ212
                have N212 := Fr.app N211 N212q
                have pre213 : ∀ t, Steps p.tables e below (T212.setTop (mkF m 112 #[.val (.int x0), .val (.long x1), .second, .val (.long x2), .second, .val (.ref w_GREATER_OR_EQUAL), .val (.ref w_LESS), .val (.int (1 : Int32)), .val (.int (1 : Int32)), .val (.int (1 : Int32))] [(.int (1 : Int32))])) t → Steps p.tables e below (s₁.setTop (entryFrame m #[(.int x0), (.long x1), (.long x2)] maxLocals)) t := fun t kk => pre197 t (by
                  show Steps p.tables e below (T196.setTop (mkF m 24 #[.val (.int x0), .val (.long x1), .second, .val (.long x2), .second, .val (.ref w_GREATER_OR_EQUAL), .val (.ref w_LESS), .unset, .unset, .unset] [(.long x2), (.long x1), (.ref w_LESS)])) _
                  refine st207.trans ?_
                  show Steps p.tables e below (T207.setTop (mkF m 27 #[.val (.int x0), .val (.long x1), .second, .val (.long x2), .second, .val (.ref w_GREATER_OR_EQUAL), .val (.ref w_LESS), .unset, .unset, .unset] [(.int (0 : Int32))])) _
                  refine XS.aload X207.here hx rfl (hb hby at_27) rfl rfl ?_
                  show Steps p.tables e below (T207.setTop (mkF m 29 #[.val (.int x0), .val (.long x1), .second, .val (.long x2), .second, .val (.ref w_GREATER_OR_EQUAL), .val (.ref w_LESS), .unset, .unset, .unset] [(.ref w_GREATER_OR_EQUAL), (.int (0 : Int32))])) _
                  refine XS.lloadN X207.here hx rfl (hb hby at_29) rfl ?_
                  show Steps p.tables e below (T207.setTop (mkF m 30 #[.val (.int x0), .val (.long x1), .second, .val (.long x2), .second, .val (.ref w_GREATER_OR_EQUAL), .val (.ref w_LESS), .unset, .unset, .unset] [(.long x1), (.ref w_GREATER_OR_EQUAL), (.int (0 : Int32))])) _
                  refine XS.lloadN X207.here hx rfl (hb hby at_30) rfl ?_
                  show Steps p.tables e below (T207.setTop (mkF m 31 #[.val (.int x0), .val (.long x1), .second, .val (.long x2), .second, .val (.ref w_GREATER_OR_EQUAL), .val (.ref w_LESS), .unset, .unset, .unset] [(.long x2), (.long x1), (.ref w_GREATER_OR_EQUAL), (.int (0 : Int32))])) _
                  refine st208.trans ?_
                  show Steps p.tables e below (T208.setTop (mkF m 34 #[.val (.int x0), .val (.long x1), .second, .val (.long x2), .second, .val (.ref w_GREATER_OR_EQUAL), .val (.ref w_LESS), .unset, .unset, .unset] [(.int (1 : Int32)), (.int (0 : Int32))])) _
                  refine XS.icmpNo X208.here hx rfl (hb hby at_34) rfl (feq ((by decide) : ¬ ((0 : Int32) = (1 : Int32)))).1 ?_
                  show Steps p.tables e below (T208.setTop (mkF m 37 #[.val (.int x0), .val (.long x1), .second, .val (.long x2), .second, .val (.ref w_GREATER_OR_EQUAL), .val (.ref w_LESS), .unset, .unset, .unset] [])) _
                  refine XS.iconst X208.here hx rfl (hb hby at_37) ?_
                  show Steps p.tables e below (T208.setTop (mkF m 38 #[.val (.int x0), .val (.long x1), .second, .val (.long x2), .second, .val (.ref w_GREATER_OR_EQUAL), .val (.ref w_LESS), .unset, .unset, .unset] [(.int (1 : Int32))])) _
                  refine XS.goto X208.here hx rfl (pc0 := 38) (pc' := 42) rfl (hb hby at_38) (by decide) (by decide) ?_
                  show Steps p.tables e below (T208.setTop (mkF m 42 #[.val (.int x0), .val (.long x1), .second, .val (.long x2), .second, .val (.ref w_GREATER_OR_EQUAL), .val (.ref w_LESS), .unset, .unset, .unset] [(.int (1 : Int32))])) _
                  refine XS.istore X208.here hx rfl (hb hby at_42) rfl (l' := #[.val (.int x0), .val (.long x1), .second, .val (.long x2), .second, .val (.ref w_GREATER_OR_EQUAL), .val (.ref w_LESS), .val (.int (1 : Int32)), .unset, .unset]) rfl ?_
                  show Steps p.tables e below (T208.setTop (mkF m 44 #[.val (.int x0), .val (.long x1), .second, .val (.long x2), .second, .val (.ref w_GREATER_OR_EQUAL), .val (.ref w_LESS), .val (.int (1 : Int32)), .unset, .unset] [])) _
                  refine XS.aload X208.here hx rfl (hb hby at_44) rfl rfl ?_
                  show Steps p.tables e below (T208.setTop (mkF m 46 #[.val (.int x0), .val (.long x1), .second, .val (.long x2), .second, .val (.ref w_GREATER_OR_EQUAL), .val (.ref w_LESS), .val (.int (1 : Int32)), .unset, .unset] [(.ref w_LESS)])) _
                  refine XS.lloadN X208.here hx rfl (hb hby at_46) rfl ?_
                  show Steps p.tables e below (T208.setTop (mkF m 47 #[.val (.int x0), .val (.long x1), .second, .val (.long x2), .second, .val (.ref w_GREATER_OR_EQUAL), .val (.ref w_LESS), .val (.int (1 : Int32)), .unset, .unset] [(.long x1), (.ref w_LESS)])) _
                  refine XS.lloadN X208.here hx rfl (hb hby at_47) rfl ?_
                  show Steps p.tables e below (T208.setTop (mkF m 48 #[.val (.int x0), .val (.long x1), .second, .val (.long x2), .second, .val (.ref w_GREATER_OR_EQUAL), .val (.ref w_LESS), .val (.int (1 : Int32)), .unset, .unset] [(.long x1), (.long x1), (.ref w_LESS)])) _
                  refine st209.trans ?_
                  show Steps p.tables e below (T209.setTop (mkF m 51 #[.val (.int x0), .val (.long x1), .second, .val (.long x2), .second, .val (.ref w_GREATER_OR_EQUAL), .val (.ref w_LESS), .val (.int (1 : Int32)), .unset, .unset] [(.int (0 : Int32))])) _
                  refine XS.aload X209.here hx rfl (hb hby at_51) rfl rfl ?_
                  show Steps p.tables e below (T209.setTop (mkF m 53 #[.val (.int x0), .val (.long x1), .second, .val (.long x2), .second, .val (.ref w_GREATER_OR_EQUAL), .val (.ref w_LESS), .val (.int (1 : Int32)), .unset, .unset] [(.ref w_GREATER_OR_EQUAL), (.int (0 : Int32))])) _
                  refine XS.lloadN X209.here hx rfl (hb hby at_53) rfl ?_
                  show Steps p.tables e below (T209.setTop (mkF m 54 #[.val (.int x0), .val (.long x1), .second, .val (.long x2), .second, .val (.ref w_GREATER_OR_EQUAL), .val (.ref w_LESS), .val (.int (1 : Int32)), .unset, .unset] [(.long x1), (.ref w_GREATER_OR_EQUAL), (.int (0 : Int32))])) _
                  refine XS.lloadN X209.here hx rfl (hb hby at_54) rfl ?_
                  show Steps p.tables e below (T209.setTop (mkF m 55 #[.val (.int x0), .val (.long x1), .second, .val (.long x2), .second, .val (.ref w_GREATER_OR_EQUAL), .val (.ref w_LESS), .val (.int (1 : Int32)), .unset, .unset] [(.long x1), (.long x1), (.ref w_GREATER_OR_EQUAL), (.int (0 : Int32))])) _
                  refine st210.trans ?_
                  show Steps p.tables e below (T210.setTop (mkF m 58 #[.val (.int x0), .val (.long x1), .second, .val (.long x2), .second, .val (.ref w_GREATER_OR_EQUAL), .val (.ref w_LESS), .val (.int (1 : Int32)), .unset, .unset] [(.int (1 : Int32)), (.int (0 : Int32))])) _
                  refine XS.icmpNo X210.here hx rfl (hb hby at_58) rfl (feq ((by decide) : ¬ ((0 : Int32) = (1 : Int32)))).1 ?_
                  show Steps p.tables e below (T210.setTop (mkF m 61 #[.val (.int x0), .val (.long x1), .second, .val (.long x2), .second, .val (.ref w_GREATER_OR_EQUAL), .val (.ref w_LESS), .val (.int (1 : Int32)), .unset, .unset] [])) _
                  refine XS.iconst X210.here hx rfl (hb hby at_61) ?_
                  show Steps p.tables e below (T210.setTop (mkF m 62 #[.val (.int x0), .val (.long x1), .second, .val (.long x2), .second, .val (.ref w_GREATER_OR_EQUAL), .val (.ref w_LESS), .val (.int (1 : Int32)), .unset, .unset] [(.int (1 : Int32))])) _
                  refine XS.goto X210.here hx rfl (pc0 := 62) (pc' := 66) rfl (hb hby at_62) (by decide) (by decide) ?_
                  show Steps p.tables e below (T210.setTop (mkF m 66 #[.val (.int x0), .val (.long x1), .second, .val (.long x2), .second, .val (.ref w_GREATER_OR_EQUAL), .val (.ref w_LESS), .val (.int (1 : Int32)), .unset, .unset] [(.int (1 : Int32))])) _
                  refine XS.istore X210.here hx rfl (hb hby at_66) rfl (l' := #[.val (.int x0), .val (.long x1), .second, .val (.long x2), .second, .val (.ref w_GREATER_OR_EQUAL), .val (.ref w_LESS), .val (.int (1 : Int32)), .val (.int (1 : Int32)), .unset]) rfl ?_
                  show Steps p.tables e below (T210.setTop (mkF m 68 #[.val (.int x0), .val (.long x1), .second, .val (.long x2), .second, .val (.ref w_GREATER_OR_EQUAL), .val (.ref w_LESS), .val (.int (1 : Int32)), .val (.int (1 : Int32)), .unset] [])) _
                  refine XS.aload X210.here hx rfl (hb hby at_68) rfl rfl ?_
                  show Steps p.tables e below (T210.setTop (mkF m 70 #[.val (.int x0), .val (.long x1), .second, .val (.long x2), .second, .val (.ref w_GREATER_OR_EQUAL), .val (.ref w_LESS), .val (.int (1 : Int32)), .val (.int (1 : Int32)), .unset] [(.ref w_LESS)])) _
                  refine XS.lloadN X210.here hx rfl (hb hby at_70) rfl ?_
                  show Steps p.tables e below (T210.setTop (mkF m 71 #[.val (.int x0), .val (.long x1), .second, .val (.long x2), .second, .val (.ref w_GREATER_OR_EQUAL), .val (.ref w_LESS), .val (.int (1 : Int32)), .val (.int (1 : Int32)), .unset] [(.long x2), (.ref w_LESS)])) _
                  refine XS.lloadN X210.here hx rfl (hb hby at_71) rfl ?_
                  show Steps p.tables e below (T210.setTop (mkF m 72 #[.val (.int x0), .val (.long x1), .second, .val (.long x2), .second, .val (.ref w_GREATER_OR_EQUAL), .val (.ref w_LESS), .val (.int (1 : Int32)), .val (.int (1 : Int32)), .unset] [(.long x1), (.long x2), (.ref w_LESS)])) _
                  refine st211.trans ?_
                  show Steps p.tables e below (T211.setTop (mkF m 75 #[.val (.int x0), .val (.long x1), .second, .val (.long x2), .second, .val (.ref w_GREATER_OR_EQUAL), .val (.ref w_LESS), .val (.int (1 : Int32)), .val (.int (1 : Int32)), .unset] [(.int (0 : Int32))])) _
                  refine XS.aload X211.here hx rfl (hb hby at_75) rfl rfl ?_
                  show Steps p.tables e below (T211.setTop (mkF m 77 #[.val (.int x0), .val (.long x1), .second, .val (.long x2), .second, .val (.ref w_GREATER_OR_EQUAL), .val (.ref w_LESS), .val (.int (1 : Int32)), .val (.int (1 : Int32)), .unset] [(.ref w_GREATER_OR_EQUAL), (.int (0 : Int32))])) _
                  refine XS.lloadN X211.here hx rfl (hb hby at_77) rfl ?_
                  show Steps p.tables e below (T211.setTop (mkF m 78 #[.val (.int x0), .val (.long x1), .second, .val (.long x2), .second, .val (.ref w_GREATER_OR_EQUAL), .val (.ref w_LESS), .val (.int (1 : Int32)), .val (.int (1 : Int32)), .unset] [(.long x2), (.ref w_GREATER_OR_EQUAL), (.int (0 : Int32))])) _
                  refine XS.lloadN X211.here hx rfl (hb hby at_78) rfl ?_
                  show Steps p.tables e below (T211.setTop (mkF m 79 #[.val (.int x0), .val (.long x1), .second, .val (.long x2), .second, .val (.ref w_GREATER_OR_EQUAL), .val (.ref w_LESS), .val (.int (1 : Int32)), .val (.int (1 : Int32)), .unset] [(.long x1), (.long x2), (.ref w_GREATER_OR_EQUAL), (.int (0 : Int32))])) _
                  refine st212.trans ?_
                  show Steps p.tables e below (T212.setTop (mkF m 82 #[.val (.int x0), .val (.long x1), .second, .val (.long x2), .second, .val (.ref w_GREATER_OR_EQUAL), .val (.ref w_LESS), .val (.int (1 : Int32)), .val (.int (1 : Int32)), .unset] [(.int (1 : Int32)), (.int (0 : Int32))])) _
                  refine XS.icmpNo X212.here hx rfl (hb hby at_82) rfl (feq ((by decide) : ¬ ((0 : Int32) = (1 : Int32)))).1 ?_
                  show Steps p.tables e below (T212.setTop (mkF m 85 #[.val (.int x0), .val (.long x1), .second, .val (.long x2), .second, .val (.ref w_GREATER_OR_EQUAL), .val (.ref w_LESS), .val (.int (1 : Int32)), .val (.int (1 : Int32)), .unset] [])) _
                  refine XS.iconst X212.here hx rfl (hb hby at_85) ?_
                  show Steps p.tables e below (T212.setTop (mkF m 86 #[.val (.int x0), .val (.long x1), .second, .val (.long x2), .second, .val (.ref w_GREATER_OR_EQUAL), .val (.ref w_LESS), .val (.int (1 : Int32)), .val (.int (1 : Int32)), .unset] [(.int (1 : Int32))])) _
                  refine XS.goto X212.here hx rfl (pc0 := 86) (pc' := 90) rfl (hb hby at_86) (by decide) (by decide) ?_
                  show Steps p.tables e below (T212.setTop (mkF m 90 #[.val (.int x0), .val (.long x1), .second, .val (.long x2), .second, .val (.ref w_GREATER_OR_EQUAL), .val (.ref w_LESS), .val (.int (1 : Int32)), .val (.int (1 : Int32)), .unset] [(.int (1 : Int32))])) _
                  refine XS.istore X212.here hx rfl (hb hby at_90) rfl (l' := #[.val (.int x0), .val (.long x1), .second, .val (.long x2), .second, .val (.ref w_GREATER_OR_EQUAL), .val (.ref w_LESS), .val (.int (1 : Int32)), .val (.int (1 : Int32)), .val (.int (1 : Int32))]) rfl ?_
                  show Steps p.tables e below (T212.setTop (mkF m 92 #[.val (.int x0), .val (.long x1), .second, .val (.long x2), .second, .val (.ref w_GREATER_OR_EQUAL), .val (.ref w_LESS), .val (.int (1 : Int32)), .val (.int (1 : Int32)), .val (.int (1 : Int32))] [])) _
                  refine XS.iload X212.here hx rfl (hb hby at_92) rfl ?_
                  show Steps p.tables e below (T212.setTop (mkF m 94 #[.val (.int x0), .val (.long x1), .second, .val (.long x2), .second, .val (.ref w_GREATER_OR_EQUAL), .val (.ref w_LESS), .val (.int (1 : Int32)), .val (.int (1 : Int32)), .val (.int (1 : Int32))] [(.int (1 : Int32))])) _
                  refine XS.ifNo X212.here hx rfl (hb hby at_94) rfl ((if0 _ _).trans (feq ((by decide) : ¬ ((1 : Int32) = (0 : Int32)))).1) ?_
                  show Steps p.tables e below (T212.setTop (mkF m 97 #[.val (.int x0), .val (.long x1), .second, .val (.long x2), .second, .val (.ref w_GREATER_OR_EQUAL), .val (.ref w_LESS), .val (.int (1 : Int32)), .val (.int (1 : Int32)), .val (.int (1 : Int32))] [])) _
                  refine XS.iload X212.here hx rfl (hb hby at_97) rfl ?_
                  show Steps p.tables e below (T212.setTop (mkF m 99 #[.val (.int x0), .val (.long x1), .second, .val (.long x2), .second, .val (.ref w_GREATER_OR_EQUAL), .val (.ref w_LESS), .val (.int (1 : Int32)), .val (.int (1 : Int32)), .val (.int (1 : Int32))] [(.int (1 : Int32))])) _
                  refine XS.ifNo X212.here hx rfl (hb hby at_99) rfl ((if0 _ _).trans (feq ((by decide) : ¬ ((1 : Int32) = (0 : Int32)))).1) ?_
                  show Steps p.tables e below (T212.setTop (mkF m 102 #[.val (.int x0), .val (.long x1), .second, .val (.long x2), .second, .val (.ref w_GREATER_OR_EQUAL), .val (.ref w_LESS), .val (.int (1 : Int32)), .val (.int (1 : Int32)), .val (.int (1 : Int32))] [])) _
                  refine XS.iload X212.here hx rfl (hb hby at_102) rfl ?_
                  show Steps p.tables e below (T212.setTop (mkF m 104 #[.val (.int x0), .val (.long x1), .second, .val (.long x2), .second, .val (.ref w_GREATER_OR_EQUAL), .val (.ref w_LESS), .val (.int (1 : Int32)), .val (.int (1 : Int32)), .val (.int (1 : Int32))] [(.int (1 : Int32))])) _
                  refine XS.ifNo X212.here hx rfl (hb hby at_104) rfl ((if0 _ _).trans (feq ((by decide) : ¬ ((1 : Int32) = (0 : Int32)))).1) ?_
                  show Steps p.tables e below (T212.setTop (mkF m 107 #[.val (.int x0), .val (.long x1), .second, .val (.long x2), .second, .val (.ref w_GREATER_OR_EQUAL), .val (.ref w_LESS), .val (.int (1 : Int32)), .val (.int (1 : Int32)), .val (.int (1 : Int32))] [])) _
                  refine XS.iconst X212.here hx rfl (hb hby at_107) ?_
                  show Steps p.tables e below (T212.setTop (mkF m 108 #[.val (.int x0), .val (.long x1), .second, .val (.long x2), .second, .val (.ref w_GREATER_OR_EQUAL), .val (.ref w_LESS), .val (.int (1 : Int32)), .val (.int (1 : Int32)), .val (.int (1 : Int32))] [(.int (1 : Int32))])) _
                  refine XS.goto X212.here hx rfl (pc0 := 108) (pc' := 112) rfl (hb hby at_108) (by decide) (by decide) ?_
                  exact kk)
                obtain ⟨fs, hr, hrun, hended, hW, hsame⟩ := X212.leave (v := some (.int (1 : Int32))) (fun h => by rw [Bd.returns] at h; cases h)
                refine ⟨_, _, pre213 _ ?_, hrun, hended, _, _, rfl, ?_, ⟨_, rfl⟩, hW, hsame.mono (by decide) (by decide)⟩
                · exact retN X212 hx (t := .boolean) Bd.returns (by simp) (hb hby at_112) hr
                · exact ⟨rfl, N212⟩
              ·
                obtain ⟨cq214, kq214, q214a, q214b, q214c⟩ := isOf hZ e196 E_w_LESS
                obtain ⟨_, _, ⟨T214, L214, k214, n214⟩, -, X214, ⟨Lc214, hQ214, l214, y214, z214⟩, st214⟩ := X196.virtualBack hx (y := (⟨"com/example/latticut/latticut/lang/Comparison", "test", "(JJ)Z"⟩ : MethodName)) (z := (⟨"com/example/latticut/latticut/lang/Comparison", "test", "(JJ)Z"⟩ : MethodName)) hown (mvT hZ (hw _ (List.mem_of_getElem? (i := 16) rfl))) (mvT hZ (hw _ (List.mem_of_getElem? (i := 17) rfl))) (notFace_of_selects (args := #[]) (mvT hZ (hw _ (List.mem_of_getElem? (i := 19) rfl)))) (mvT hZ (hw _ (List.mem_of_getElem? (i := 19) rfl))) (mvT hZ (hw _ (List.mem_of_getElem? (i := 18) rfl))) (by decide) (backOf (W := 0) (rm17 l Z a0 hw [] w_LESS x1 x2 h0 n0 Z0 hc198 hc206 F_whenGreater_w_LESS E_w_LESS) hZ (hw _ (List.mem_of_getElem? (i := 20) rfl)) (hw _ (List.mem_of_getElem? (i := 6) rfl)) (by decide) (by decide)) q214a q214c (g := (mkF m 24 #[.val (.int x0), .val (.long x1), .second, .val (.long x2), .second, .val (.ref w_GREATER_OR_EQUAL), .val (.ref w_LESS), .unset, .unset, .unset] [(.long x2), (.long x1), (.ref w_LESS)])) rfl (by rw [hml]; rfl) (Steps.refl _) (argsL := [(.long x1), (.long x2)]) (rest := []) (lenOf pd_4 rfl) rfl (by show 2 * 0 + _ ≤ _; exact Nat.le_of_eq rfl) (hb hby at_24) (fun _ _ => ⟨rfl, e196, (by decide : 0 + 0 ≤ _), (by decide : 0 + 0 ≤ _)⟩)
                dsimp only [Pt.U, Pt.locs, Pt.cells, Pt.slots] at X214 l214 y214 z214 st214 hQ214
                subst l214 y214 z214
                obtain ⟨rfl, N214q, e214⟩ := hQ214
                have N214 := Fr.app N196 N214q
                obtain ⟨cq215, kq215, q215a, q215b, q215c⟩ := isOf hZ e214 E_w_GREATER_OR_EQUAL
                obtain ⟨_, _, ⟨T215, L215, k215, n215⟩, -, X215, ⟨Lc215, hQ215, l215, y215, z215⟩, st215⟩ := X214.virtualBack hx (y := (⟨"com/example/latticut/latticut/lang/Comparison", "test", "(JJ)Z"⟩ : MethodName)) (z := (⟨"com/example/latticut/latticut/lang/Comparison", "test", "(JJ)Z"⟩ : MethodName)) hown (mvT hZ (hw _ (List.mem_of_getElem? (i := 16) rfl))) (mvT hZ (hw _ (List.mem_of_getElem? (i := 17) rfl))) (notFace_of_selects (args := #[]) (mvT hZ (hw _ (List.mem_of_getElem? (i := 19) rfl)))) (mvT hZ (hw _ (List.mem_of_getElem? (i := 19) rfl))) (mvT hZ (hw _ (List.mem_of_getElem? (i := 18) rfl))) (by decide) (backOf (W := 1) (rm15 l Z a0 hw [] w_GREATER_OR_EQUAL x1 x2 h0 n0 Z0 hc198 hc206 F_whenGreater_w_GREATER_OR_EQUAL E_w_GREATER_OR_EQUAL) hZ (hw _ (List.mem_of_getElem? (i := 20) rfl)) (hw _ (List.mem_of_getElem? (i := 6) rfl)) (by decide) (by decide)) q215a q215c (g := (mkF m 31 #[.val (.int x0), .val (.long x1), .second, .val (.long x2), .second, .val (.ref w_GREATER_OR_EQUAL), .val (.ref w_LESS), .unset, .unset, .unset] [(.long x2), (.long x1), (.ref w_GREATER_OR_EQUAL), (.int (0 : Int32))])) rfl (by rw [hml]; rfl) (Steps.refl _) (argsL := [(.long x1), (.long x2)]) (rest := [(.int (0 : Int32))]) (lenOf pd_4 rfl) rfl (by show 2 * 0 + _ ≤ _; exact Nat.le_of_eq rfl) (hb hby at_31) (fun _ _ => ⟨rfl, e214, (by decide : 0 + 0 ≤ _), (by decide : 0 + 0 ≤ _)⟩)
                dsimp only [Pt.U, Pt.locs, Pt.cells, Pt.slots] at X215 l215 y215 z215 st215 hQ215
                subst l215 y215 z215
                obtain ⟨rfl, N215q, e215⟩ := hQ215
                have N215 := Fr.app N214 N215q
                obtain ⟨cq216, kq216, q216a, q216b, q216c⟩ := isOf hZ e215 E_w_LESS
                obtain ⟨_, _, ⟨T216, L216, k216, n216⟩, -, X216, ⟨Lc216, hQ216, l216, y216, z216⟩, st216⟩ := X215.virtualBack hx (y := (⟨"com/example/latticut/latticut/lang/Comparison", "test", "(JJ)Z"⟩ : MethodName)) (z := (⟨"com/example/latticut/latticut/lang/Comparison", "test", "(JJ)Z"⟩ : MethodName)) hown (mvT hZ (hw _ (List.mem_of_getElem? (i := 16) rfl))) (mvT hZ (hw _ (List.mem_of_getElem? (i := 17) rfl))) (notFace_of_selects (args := #[]) (mvT hZ (hw _ (List.mem_of_getElem? (i := 19) rfl)))) (mvT hZ (hw _ (List.mem_of_getElem? (i := 19) rfl))) (mvT hZ (hw _ (List.mem_of_getElem? (i := 18) rfl))) (by decide) (backOf (W := 0) (rm10 l Z a0 hw [] w_LESS x1 h0 n0 Z0 ((own_ar8 x1 x2 hc198 hc206)) ((own_ar9 x1 x2 hc198 hc206)) F_whenEqual_w_LESS E_w_LESS) hZ (hw _ (List.mem_of_getElem? (i := 20) rfl)) (hw _ (List.mem_of_getElem? (i := 6) rfl)) (by decide) (by decide)) q216a q216c (g := (mkF m 48 #[.val (.int x0), .val (.long x1), .second, .val (.long x2), .second, .val (.ref w_GREATER_OR_EQUAL), .val (.ref w_LESS), .val (.int (1 : Int32)), .unset, .unset] [(.long x1), (.long x1), (.ref w_LESS)])) rfl (by rw [hml]; rfl) (Steps.refl _) (argsL := [(.long x1), (.long x1)]) (rest := []) (lenOf pd_4 rfl) rfl (by show 2 * 0 + _ ≤ _; exact Nat.le_of_eq rfl) (hb hby at_48) (fun _ _ => ⟨rfl, e215, (by decide : 0 + 0 ≤ _), (by decide : 0 + 0 ≤ _)⟩)
                dsimp only [Pt.U, Pt.locs, Pt.cells, Pt.slots] at X216 l216 y216 z216 st216 hQ216
                subst l216 y216 z216
                obtain ⟨rfl, N216q, e216⟩ := hQ216
                have N216 := Fr.app N215 N216q
                obtain ⟨cq217, kq217, q217a, q217b, q217c⟩ := isOf hZ e216 E_w_GREATER_OR_EQUAL
                obtain ⟨_, _, ⟨T217, L217, k217, n217⟩, -, X217, ⟨Lc217, hQ217, l217, y217, z217⟩, st217⟩ := X216.virtualBack hx (y := (⟨"com/example/latticut/latticut/lang/Comparison", "test", "(JJ)Z"⟩ : MethodName)) (z := (⟨"com/example/latticut/latticut/lang/Comparison", "test", "(JJ)Z"⟩ : MethodName)) hown (mvT hZ (hw _ (List.mem_of_getElem? (i := 16) rfl))) (mvT hZ (hw _ (List.mem_of_getElem? (i := 17) rfl))) (notFace_of_selects (args := #[]) (mvT hZ (hw _ (List.mem_of_getElem? (i := 19) rfl)))) (mvT hZ (hw _ (List.mem_of_getElem? (i := 19) rfl))) (mvT hZ (hw _ (List.mem_of_getElem? (i := 18) rfl))) (by decide) (backOf (W := 1) (rm12 l Z a0 hw [] w_GREATER_OR_EQUAL x1 h0 n0 Z0 ((own_ar8 x1 x2 hc198 hc206)) ((own_ar9 x1 x2 hc198 hc206)) F_whenEqual_w_GREATER_OR_EQUAL E_w_GREATER_OR_EQUAL) hZ (hw _ (List.mem_of_getElem? (i := 20) rfl)) (hw _ (List.mem_of_getElem? (i := 6) rfl)) (by decide) (by decide)) q217a q217c (g := (mkF m 55 #[.val (.int x0), .val (.long x1), .second, .val (.long x2), .second, .val (.ref w_GREATER_OR_EQUAL), .val (.ref w_LESS), .val (.int (1 : Int32)), .unset, .unset] [(.long x1), (.long x1), (.ref w_GREATER_OR_EQUAL), (.int (0 : Int32))])) rfl (by rw [hml]; rfl) (Steps.refl _) (argsL := [(.long x1), (.long x1)]) (rest := [(.int (0 : Int32))]) (lenOf pd_4 rfl) rfl (by show 2 * 0 + _ ≤ _; exact Nat.le_of_eq rfl) (hb hby at_55) (fun _ _ => ⟨rfl, e216, (by decide : 0 + 0 ≤ _), (by decide : 0 + 0 ≤ _)⟩)
                dsimp only [Pt.U, Pt.locs, Pt.cells, Pt.slots] at X217 l217 y217 z217 st217 hQ217
                subst l217 y217 z217
                obtain ⟨rfl, N217q, e217⟩ := hQ217
                have N217 := Fr.app N216 N217q
                obtain ⟨cq218, kq218, q218a, q218b, q218c⟩ := isOf hZ e217 E_w_LESS
                obtain ⟨_, _, ⟨T218, L218, k218, n218⟩, -, X218, ⟨Lc218, hQ218, l218, y218, z218⟩, st218⟩ := X217.virtualBack hx (y := (⟨"com/example/latticut/latticut/lang/Comparison", "test", "(JJ)Z"⟩ : MethodName)) (z := (⟨"com/example/latticut/latticut/lang/Comparison", "test", "(JJ)Z"⟩ : MethodName)) hown (mvT hZ (hw _ (List.mem_of_getElem? (i := 16) rfl))) (mvT hZ (hw _ (List.mem_of_getElem? (i := 17) rfl))) (notFace_of_selects (args := #[]) (mvT hZ (hw _ (List.mem_of_getElem? (i := 19) rfl)))) (mvT hZ (hw _ (List.mem_of_getElem? (i := 19) rfl))) (mvT hZ (hw _ (List.mem_of_getElem? (i := 18) rfl))) (by decide) (backOf (W := 0) (rm5 l Z a0 hw [] w_LESS x2 x1 h0 n0 Z0 ((own_ar10 x1 x2 hc198 hc206)) F_whenLess_w_LESS E_w_LESS) hZ (hw _ (List.mem_of_getElem? (i := 20) rfl)) (hw _ (List.mem_of_getElem? (i := 6) rfl)) (by decide) (by decide)) q218a q218c (g := (mkF m 72 #[.val (.int x0), .val (.long x1), .second, .val (.long x2), .second, .val (.ref w_GREATER_OR_EQUAL), .val (.ref w_LESS), .val (.int (1 : Int32)), .val (.int (1 : Int32)), .unset] [(.long x1), (.long x2), (.ref w_LESS)])) rfl (by rw [hml]; rfl) (Steps.refl _) (argsL := [(.long x2), (.long x1)]) (rest := []) (lenOf pd_4 rfl) rfl (by show 2 * 0 + _ ≤ _; exact Nat.le_of_eq rfl) (hb hby at_72) (fun _ _ => ⟨rfl, e217, (by decide : 0 + 0 ≤ _), (by decide : 0 + 0 ≤ _)⟩)
                dsimp only [Pt.U, Pt.locs, Pt.cells, Pt.slots] at X218 l218 y218 z218 st218 hQ218
                subst l218 y218 z218
                obtain ⟨rfl, N218q, e218⟩ := hQ218
                have N218 := Fr.app N217 N218q
                obtain ⟨cq219, kq219, q219a, q219b, q219c⟩ := isOf hZ e218 E_w_GREATER_OR_EQUAL
                obtain ⟨_, _, ⟨T219, L219, k219, n219⟩, -, X219, ⟨Lc219, hQ219, l219, y219, z219⟩, st219⟩ := X218.virtualBack hx (y := (⟨"com/example/latticut/latticut/lang/Comparison", "test", "(JJ)Z"⟩ : MethodName)) (z := (⟨"com/example/latticut/latticut/lang/Comparison", "test", "(JJ)Z"⟩ : MethodName)) hown (mvT hZ (hw _ (List.mem_of_getElem? (i := 16) rfl))) (mvT hZ (hw _ (List.mem_of_getElem? (i := 17) rfl))) (notFace_of_selects (args := #[]) (mvT hZ (hw _ (List.mem_of_getElem? (i := 19) rfl)))) (mvT hZ (hw _ (List.mem_of_getElem? (i := 19) rfl))) (mvT hZ (hw _ (List.mem_of_getElem? (i := 18) rfl))) (by decide) (backOf (W := 1) (rm7 l Z a0 hw [] w_GREATER_OR_EQUAL x2 x1 h0 n0 Z0 ((own_ar10 x1 x2 hc198 hc206)) F_whenLess_w_GREATER_OR_EQUAL E_w_GREATER_OR_EQUAL) hZ (hw _ (List.mem_of_getElem? (i := 20) rfl)) (hw _ (List.mem_of_getElem? (i := 6) rfl)) (by decide) (by decide)) q219a q219c (g := (mkF m 79 #[.val (.int x0), .val (.long x1), .second, .val (.long x2), .second, .val (.ref w_GREATER_OR_EQUAL), .val (.ref w_LESS), .val (.int (1 : Int32)), .val (.int (1 : Int32)), .unset] [(.long x1), (.long x2), (.ref w_GREATER_OR_EQUAL), (.int (1 : Int32))])) rfl (by rw [hml]; rfl) (Steps.refl _) (argsL := [(.long x2), (.long x1)]) (rest := [(.int (1 : Int32))]) (lenOf pd_4 rfl) rfl (by show 2 * 0 + _ ≤ _; exact Nat.le_of_eq rfl) (hb hby at_79) (fun _ _ => ⟨rfl, e218, (by decide : 0 + 0 ≤ _), (by decide : 0 + 0 ≤ _)⟩)
                dsimp only [Pt.U, Pt.locs, Pt.cells, Pt.slots] at X219 l219 y219 z219 st219 hQ219
                subst l219 y219 z219
                obtain ⟨rfl, N219q, e219⟩ := hQ219
                have N219 := Fr.app N218 N219q
                have pre220 : ∀ t, Steps p.tables e below (T219.setTop (mkF m 112 #[.val (.int x0), .val (.long x1), .second, .val (.long x2), .second, .val (.ref w_GREATER_OR_EQUAL), .val (.ref w_LESS), .val (.int (1 : Int32)), .val (.int (1 : Int32)), .val (.int (1 : Int32))] [(.int (1 : Int32))])) t → Steps p.tables e below (s₁.setTop (entryFrame m #[(.int x0), (.long x1), (.long x2)] maxLocals)) t := fun t kk => pre197 t (by
                  show Steps p.tables e below (T196.setTop (mkF m 24 #[.val (.int x0), .val (.long x1), .second, .val (.long x2), .second, .val (.ref w_GREATER_OR_EQUAL), .val (.ref w_LESS), .unset, .unset, .unset] [(.long x2), (.long x1), (.ref w_LESS)])) _
                  refine st214.trans ?_
                  show Steps p.tables e below (T214.setTop (mkF m 27 #[.val (.int x0), .val (.long x1), .second, .val (.long x2), .second, .val (.ref w_GREATER_OR_EQUAL), .val (.ref w_LESS), .unset, .unset, .unset] [(.int (0 : Int32))])) _
                  refine XS.aload X214.here hx rfl (hb hby at_27) rfl rfl ?_
                  show Steps p.tables e below (T214.setTop (mkF m 29 #[.val (.int x0), .val (.long x1), .second, .val (.long x2), .second, .val (.ref w_GREATER_OR_EQUAL), .val (.ref w_LESS), .unset, .unset, .unset] [(.ref w_GREATER_OR_EQUAL), (.int (0 : Int32))])) _
                  refine XS.lloadN X214.here hx rfl (hb hby at_29) rfl ?_
                  show Steps p.tables e below (T214.setTop (mkF m 30 #[.val (.int x0), .val (.long x1), .second, .val (.long x2), .second, .val (.ref w_GREATER_OR_EQUAL), .val (.ref w_LESS), .unset, .unset, .unset] [(.long x1), (.ref w_GREATER_OR_EQUAL), (.int (0 : Int32))])) _
                  refine XS.lloadN X214.here hx rfl (hb hby at_30) rfl ?_
                  show Steps p.tables e below (T214.setTop (mkF m 31 #[.val (.int x0), .val (.long x1), .second, .val (.long x2), .second, .val (.ref w_GREATER_OR_EQUAL), .val (.ref w_LESS), .unset, .unset, .unset] [(.long x2), (.long x1), (.ref w_GREATER_OR_EQUAL), (.int (0 : Int32))])) _
                  refine st215.trans ?_
                  show Steps p.tables e below (T215.setTop (mkF m 34 #[.val (.int x0), .val (.long x1), .second, .val (.long x2), .second, .val (.ref w_GREATER_OR_EQUAL), .val (.ref w_LESS), .unset, .unset, .unset] [(.int (1 : Int32)), (.int (0 : Int32))])) _
                  refine XS.icmpNo X215.here hx rfl (hb hby at_34) rfl (feq ((by decide) : ¬ ((0 : Int32) = (1 : Int32)))).1 ?_
                  show Steps p.tables e below (T215.setTop (mkF m 37 #[.val (.int x0), .val (.long x1), .second, .val (.long x2), .second, .val (.ref w_GREATER_OR_EQUAL), .val (.ref w_LESS), .unset, .unset, .unset] [])) _
                  refine XS.iconst X215.here hx rfl (hb hby at_37) ?_
                  show Steps p.tables e below (T215.setTop (mkF m 38 #[.val (.int x0), .val (.long x1), .second, .val (.long x2), .second, .val (.ref w_GREATER_OR_EQUAL), .val (.ref w_LESS), .unset, .unset, .unset] [(.int (1 : Int32))])) _
                  refine XS.goto X215.here hx rfl (pc0 := 38) (pc' := 42) rfl (hb hby at_38) (by decide) (by decide) ?_
                  show Steps p.tables e below (T215.setTop (mkF m 42 #[.val (.int x0), .val (.long x1), .second, .val (.long x2), .second, .val (.ref w_GREATER_OR_EQUAL), .val (.ref w_LESS), .unset, .unset, .unset] [(.int (1 : Int32))])) _
                  refine XS.istore X215.here hx rfl (hb hby at_42) rfl (l' := #[.val (.int x0), .val (.long x1), .second, .val (.long x2), .second, .val (.ref w_GREATER_OR_EQUAL), .val (.ref w_LESS), .val (.int (1 : Int32)), .unset, .unset]) rfl ?_
                  show Steps p.tables e below (T215.setTop (mkF m 44 #[.val (.int x0), .val (.long x1), .second, .val (.long x2), .second, .val (.ref w_GREATER_OR_EQUAL), .val (.ref w_LESS), .val (.int (1 : Int32)), .unset, .unset] [])) _
                  refine XS.aload X215.here hx rfl (hb hby at_44) rfl rfl ?_
                  show Steps p.tables e below (T215.setTop (mkF m 46 #[.val (.int x0), .val (.long x1), .second, .val (.long x2), .second, .val (.ref w_GREATER_OR_EQUAL), .val (.ref w_LESS), .val (.int (1 : Int32)), .unset, .unset] [(.ref w_LESS)])) _
                  refine XS.lloadN X215.here hx rfl (hb hby at_46) rfl ?_
                  show Steps p.tables e below (T215.setTop (mkF m 47 #[.val (.int x0), .val (.long x1), .second, .val (.long x2), .second, .val (.ref w_GREATER_OR_EQUAL), .val (.ref w_LESS), .val (.int (1 : Int32)), .unset, .unset] [(.long x1), (.ref w_LESS)])) _
                  refine XS.lloadN X215.here hx rfl (hb hby at_47) rfl ?_
                  show Steps p.tables e below (T215.setTop (mkF m 48 #[.val (.int x0), .val (.long x1), .second, .val (.long x2), .second, .val (.ref w_GREATER_OR_EQUAL), .val (.ref w_LESS), .val (.int (1 : Int32)), .unset, .unset] [(.long x1), (.long x1), (.ref w_LESS)])) _
                  refine st216.trans ?_
                  show Steps p.tables e below (T216.setTop (mkF m 51 #[.val (.int x0), .val (.long x1), .second, .val (.long x2), .second, .val (.ref w_GREATER_OR_EQUAL), .val (.ref w_LESS), .val (.int (1 : Int32)), .unset, .unset] [(.int (0 : Int32))])) _
                  refine XS.aload X216.here hx rfl (hb hby at_51) rfl rfl ?_
                  show Steps p.tables e below (T216.setTop (mkF m 53 #[.val (.int x0), .val (.long x1), .second, .val (.long x2), .second, .val (.ref w_GREATER_OR_EQUAL), .val (.ref w_LESS), .val (.int (1 : Int32)), .unset, .unset] [(.ref w_GREATER_OR_EQUAL), (.int (0 : Int32))])) _
                  refine XS.lloadN X216.here hx rfl (hb hby at_53) rfl ?_
                  show Steps p.tables e below (T216.setTop (mkF m 54 #[.val (.int x0), .val (.long x1), .second, .val (.long x2), .second, .val (.ref w_GREATER_OR_EQUAL), .val (.ref w_LESS), .val (.int (1 : Int32)), .unset, .unset] [(.long x1), (.ref w_GREATER_OR_EQUAL), (.int (0 : Int32))])) _
                  refine XS.lloadN X216.here hx rfl (hb hby at_54) rfl ?_
                  show Steps p.tables e below (T216.setTop (mkF m 55 #[.val (.int x0), .val (.long x1), .second, .val (.long x2), .second, .val (.ref w_GREATER_OR_EQUAL), .val (.ref w_LESS), .val (.int (1 : Int32)), .unset, .unset] [(.long x1), (.long x1), (.ref w_GREATER_OR_EQUAL), (.int (0 : Int32))])) _
                  refine st217.trans ?_
                  show Steps p.tables e below (T217.setTop (mkF m 58 #[.val (.int x0), .val (.long x1), .second, .val (.long x2), .second, .val (.ref w_GREATER_OR_EQUAL), .val (.ref w_LESS), .val (.int (1 : Int32)), .unset, .unset] [(.int (1 : Int32)), (.int (0 : Int32))])) _
                  refine XS.icmpNo X217.here hx rfl (hb hby at_58) rfl (feq ((by decide) : ¬ ((0 : Int32) = (1 : Int32)))).1 ?_
                  show Steps p.tables e below (T217.setTop (mkF m 61 #[.val (.int x0), .val (.long x1), .second, .val (.long x2), .second, .val (.ref w_GREATER_OR_EQUAL), .val (.ref w_LESS), .val (.int (1 : Int32)), .unset, .unset] [])) _
                  refine XS.iconst X217.here hx rfl (hb hby at_61) ?_
                  show Steps p.tables e below (T217.setTop (mkF m 62 #[.val (.int x0), .val (.long x1), .second, .val (.long x2), .second, .val (.ref w_GREATER_OR_EQUAL), .val (.ref w_LESS), .val (.int (1 : Int32)), .unset, .unset] [(.int (1 : Int32))])) _
                  refine XS.goto X217.here hx rfl (pc0 := 62) (pc' := 66) rfl (hb hby at_62) (by decide) (by decide) ?_
                  show Steps p.tables e below (T217.setTop (mkF m 66 #[.val (.int x0), .val (.long x1), .second, .val (.long x2), .second, .val (.ref w_GREATER_OR_EQUAL), .val (.ref w_LESS), .val (.int (1 : Int32)), .unset, .unset] [(.int (1 : Int32))])) _
                  refine XS.istore X217.here hx rfl (hb hby at_66) rfl (l' := #[.val (.int x0), .val (.long x1), .second, .val (.long x2), .second, .val (.ref w_GREATER_OR_EQUAL), .val (.ref w_LESS), .val (.int (1 : Int32)), .val (.int (1 : Int32)), .unset]) rfl ?_
                  show Steps p.tables e below (T217.setTop (mkF m 68 #[.val (.int x0), .val (.long x1), .second, .val (.long x2), .second, .val (.ref w_GREATER_OR_EQUAL), .val (.ref w_LESS), .val (.int (1 : Int32)), .val (.int (1 : Int32)), .unset] [])) _
                  refine XS.aload X217.here hx rfl (hb hby at_68) rfl rfl ?_
                  show Steps p.tables e below (T217.setTop (mkF m 70 #[.val (.int x0), .val (.long x1), .second, .val (.long x2), .second, .val (.ref w_GREATER_OR_EQUAL), .val (.ref w_LESS), .val (.int (1 : Int32)), .val (.int (1 : Int32)), .unset] [(.ref w_LESS)])) _
                  refine XS.lloadN X217.here hx rfl (hb hby at_70) rfl ?_
                  show Steps p.tables e below (T217.setTop (mkF m 71 #[.val (.int x0), .val (.long x1), .second, .val (.long x2), .second, .val (.ref w_GREATER_OR_EQUAL), .val (.ref w_LESS), .val (.int (1 : Int32)), .val (.int (1 : Int32)), .unset] [(.long x2), (.ref w_LESS)])) _
                  refine XS.lloadN X217.here hx rfl (hb hby at_71) rfl ?_
                  show Steps p.tables e below (T217.setTop (mkF m 72 #[.val (.int x0), .val (.long x1), .second, .val (.long x2), .second, .val (.ref w_GREATER_OR_EQUAL), .val (.ref w_LESS), .val (.int (1 : Int32)), .val (.int (1 : Int32)), .unset] [(.long x1), (.long x2), (.ref w_LESS)])) _
                  refine st218.trans ?_
                  show Steps p.tables e below (T218.setTop (mkF m 75 #[.val (.int x0), .val (.long x1), .second, .val (.long x2), .second, .val (.ref w_GREATER_OR_EQUAL), .val (.ref w_LESS), .val (.int (1 : Int32)), .val (.int (1 : Int32)), .unset] [(.int (1 : Int32))])) _
                  refine XS.aload X218.here hx rfl (hb hby at_75) rfl rfl ?_
                  show Steps p.tables e below (T218.setTop (mkF m 77 #[.val (.int x0), .val (.long x1), .second, .val (.long x2), .second, .val (.ref w_GREATER_OR_EQUAL), .val (.ref w_LESS), .val (.int (1 : Int32)), .val (.int (1 : Int32)), .unset] [(.ref w_GREATER_OR_EQUAL), (.int (1 : Int32))])) _
                  refine XS.lloadN X218.here hx rfl (hb hby at_77) rfl ?_
                  show Steps p.tables e below (T218.setTop (mkF m 78 #[.val (.int x0), .val (.long x1), .second, .val (.long x2), .second, .val (.ref w_GREATER_OR_EQUAL), .val (.ref w_LESS), .val (.int (1 : Int32)), .val (.int (1 : Int32)), .unset] [(.long x2), (.ref w_GREATER_OR_EQUAL), (.int (1 : Int32))])) _
                  refine XS.lloadN X218.here hx rfl (hb hby at_78) rfl ?_
                  show Steps p.tables e below (T218.setTop (mkF m 79 #[.val (.int x0), .val (.long x1), .second, .val (.long x2), .second, .val (.ref w_GREATER_OR_EQUAL), .val (.ref w_LESS), .val (.int (1 : Int32)), .val (.int (1 : Int32)), .unset] [(.long x1), (.long x2), (.ref w_GREATER_OR_EQUAL), (.int (1 : Int32))])) _
                  refine st219.trans ?_
                  show Steps p.tables e below (T219.setTop (mkF m 82 #[.val (.int x0), .val (.long x1), .second, .val (.long x2), .second, .val (.ref w_GREATER_OR_EQUAL), .val (.ref w_LESS), .val (.int (1 : Int32)), .val (.int (1 : Int32)), .unset] [(.int (0 : Int32)), (.int (1 : Int32))])) _
                  refine XS.icmpNo X219.here hx rfl (hb hby at_82) rfl (feq ((by decide) : ¬ ((1 : Int32) = (0 : Int32)))).1 ?_
                  show Steps p.tables e below (T219.setTop (mkF m 85 #[.val (.int x0), .val (.long x1), .second, .val (.long x2), .second, .val (.ref w_GREATER_OR_EQUAL), .val (.ref w_LESS), .val (.int (1 : Int32)), .val (.int (1 : Int32)), .unset] [])) _
                  refine XS.iconst X219.here hx rfl (hb hby at_85) ?_
                  show Steps p.tables e below (T219.setTop (mkF m 86 #[.val (.int x0), .val (.long x1), .second, .val (.long x2), .second, .val (.ref w_GREATER_OR_EQUAL), .val (.ref w_LESS), .val (.int (1 : Int32)), .val (.int (1 : Int32)), .unset] [(.int (1 : Int32))])) _
                  refine XS.goto X219.here hx rfl (pc0 := 86) (pc' := 90) rfl (hb hby at_86) (by decide) (by decide) ?_
                  show Steps p.tables e below (T219.setTop (mkF m 90 #[.val (.int x0), .val (.long x1), .second, .val (.long x2), .second, .val (.ref w_GREATER_OR_EQUAL), .val (.ref w_LESS), .val (.int (1 : Int32)), .val (.int (1 : Int32)), .unset] [(.int (1 : Int32))])) _
                  refine XS.istore X219.here hx rfl (hb hby at_90) rfl (l' := #[.val (.int x0), .val (.long x1), .second, .val (.long x2), .second, .val (.ref w_GREATER_OR_EQUAL), .val (.ref w_LESS), .val (.int (1 : Int32)), .val (.int (1 : Int32)), .val (.int (1 : Int32))]) rfl ?_
                  show Steps p.tables e below (T219.setTop (mkF m 92 #[.val (.int x0), .val (.long x1), .second, .val (.long x2), .second, .val (.ref w_GREATER_OR_EQUAL), .val (.ref w_LESS), .val (.int (1 : Int32)), .val (.int (1 : Int32)), .val (.int (1 : Int32))] [])) _
                  refine XS.iload X219.here hx rfl (hb hby at_92) rfl ?_
                  show Steps p.tables e below (T219.setTop (mkF m 94 #[.val (.int x0), .val (.long x1), .second, .val (.long x2), .second, .val (.ref w_GREATER_OR_EQUAL), .val (.ref w_LESS), .val (.int (1 : Int32)), .val (.int (1 : Int32)), .val (.int (1 : Int32))] [(.int (1 : Int32))])) _
                  refine XS.ifNo X219.here hx rfl (hb hby at_94) rfl ((if0 _ _).trans (feq ((by decide) : ¬ ((1 : Int32) = (0 : Int32)))).1) ?_
                  show Steps p.tables e below (T219.setTop (mkF m 97 #[.val (.int x0), .val (.long x1), .second, .val (.long x2), .second, .val (.ref w_GREATER_OR_EQUAL), .val (.ref w_LESS), .val (.int (1 : Int32)), .val (.int (1 : Int32)), .val (.int (1 : Int32))] [])) _
                  refine XS.iload X219.here hx rfl (hb hby at_97) rfl ?_
                  show Steps p.tables e below (T219.setTop (mkF m 99 #[.val (.int x0), .val (.long x1), .second, .val (.long x2), .second, .val (.ref w_GREATER_OR_EQUAL), .val (.ref w_LESS), .val (.int (1 : Int32)), .val (.int (1 : Int32)), .val (.int (1 : Int32))] [(.int (1 : Int32))])) _
                  refine XS.ifNo X219.here hx rfl (hb hby at_99) rfl ((if0 _ _).trans (feq ((by decide) : ¬ ((1 : Int32) = (0 : Int32)))).1) ?_
                  show Steps p.tables e below (T219.setTop (mkF m 102 #[.val (.int x0), .val (.long x1), .second, .val (.long x2), .second, .val (.ref w_GREATER_OR_EQUAL), .val (.ref w_LESS), .val (.int (1 : Int32)), .val (.int (1 : Int32)), .val (.int (1 : Int32))] [])) _
                  refine XS.iload X219.here hx rfl (hb hby at_102) rfl ?_
                  show Steps p.tables e below (T219.setTop (mkF m 104 #[.val (.int x0), .val (.long x1), .second, .val (.long x2), .second, .val (.ref w_GREATER_OR_EQUAL), .val (.ref w_LESS), .val (.int (1 : Int32)), .val (.int (1 : Int32)), .val (.int (1 : Int32))] [(.int (1 : Int32))])) _
                  refine XS.ifNo X219.here hx rfl (hb hby at_104) rfl ((if0 _ _).trans (feq ((by decide) : ¬ ((1 : Int32) = (0 : Int32)))).1) ?_
                  show Steps p.tables e below (T219.setTop (mkF m 107 #[.val (.int x0), .val (.long x1), .second, .val (.long x2), .second, .val (.ref w_GREATER_OR_EQUAL), .val (.ref w_LESS), .val (.int (1 : Int32)), .val (.int (1 : Int32)), .val (.int (1 : Int32))] [])) _
                  refine XS.iconst X219.here hx rfl (hb hby at_107) ?_
                  show Steps p.tables e below (T219.setTop (mkF m 108 #[.val (.int x0), .val (.long x1), .second, .val (.long x2), .second, .val (.ref w_GREATER_OR_EQUAL), .val (.ref w_LESS), .val (.int (1 : Int32)), .val (.int (1 : Int32)), .val (.int (1 : Int32))] [(.int (1 : Int32))])) _
                  refine XS.goto X219.here hx rfl (pc0 := 108) (pc' := 112) rfl (hb hby at_108) (by decide) (by decide) ?_
                  exact kk)
                obtain ⟨fs, hr, hrun, hended, hW, hsame⟩ := X219.leave (v := some (.int (1 : Int32))) (fun h => by rw [Bd.returns] at h; cases h)
                refine ⟨_, _, pre220 _ ?_, hrun, hended, _, _, rfl, ?_, ⟨_, rfl⟩, hW, hsame.mono (by decide) (by decide)⟩
                · exact retN X219 hx (t := .boolean) Bd.returns (by simp) (hb hby at_112) hr
                · exact ⟨rfl, N219⟩
set_option maxRecDepth 65536 in
set_option maxHeartbeats 40000000 in
theorem comes_1 {Post : Tables → Env → Array Value → State → Outcome → State → Prop} (hpost : ∀ tb e args s v u, (limb_1_1.after args s (.returned v) u = true ∧ limb_1_2.after args s (.returned v) u = true ∧ True) → FrameEnd s (.returned v) u (Jvm.fieldLocs frame_1_writes args s ++ Jvm.arrayLocs frame_1_arrays args s ++ Jvm.staticLocs frame_1_statics s) 0 0 → Post tb e args s (.returned v) u) :
    ArmFor flags0 classFile x code maxLocals ret World_1 tables_1 room_1 Calls_1 rest_1 Pre_1 Post := by
  intro l hfl _ _ p e ha hc hk s m args below hf hA hF happ hP
  obtain ⟨hcalls, hrest, hpre⟩ := hP
  obtain ⟨-, -, -, hnamed, -, -, -, hat⟩ := (Spec.applies_iff hf).mp happ
  obtain ⟨hg, hn⟩ := and_e (Cond.before_iff.mp (show (Jvm.Cond.and given_1 narrow_1).before args s = true from hpre))
  obtain ⟨hcount, hgs⟩ := and_e hg
  obtain ⟨hk0, hr0⟩ := and_e hgs
  obtain ⟨hk1, hr1⟩ := and_e hr0
  obtain ⟨v0, v1, v2, rfl⟩ : ∃ v0 v1 v2 : Value, args = #[v0, v1, v2] := by
    have hs : args.size = 3 := by simpa [Cond.value, given_1] using hcount
    obtain ⟨L⟩ := args
    match L, hs with
    | [v0, v1, v2], _ => exact ⟨v0, v1, v2, rfl⟩
  have hw := fun d (hd : d ∈ tables_1) => atoms_spec (ws := Jvm.Cond.code x code maxLocals ret :: tables_1) hat d (List.mem_cons_of_mem _ hd)
  have hfit : Fit s := fun {y c} hc i hi => by
    obtain ⟨ha, rfl⟩ := Array.getElem?_eq_some_iff.mp hc
    have q := List.all_eq_true.mp ((Array.all_eq_true_iff_forall_mem.mp hF) _ (Array.getElem_mem ha)) i (List.mem_range.mpr hi)
    simpa [Array.getElem?_eq_getElem hi] using q
  obtain ⟨i0, ei0⟩ := is_v hk0
  obtain rfl : v0 = (.int i0) := Option.some.inj ei0
  obtain ⟨i1, ei1⟩ := isL_v hk1
  obtain rfl : v1 = (.long i1) := Option.some.inj ei1
  obtain ⟨i2, ei2⟩ := isL_v hr1
  obtain rfl : v2 = (.long i2) := Option.some.inj ei2
  obtain ⟨n1, n2⟩ := and_e hn
  obtain ⟨n3, n4⟩ := and_e n2
  obtain ⟨n5, n6⟩ := and_e n4
  obtain ⟨n7, n8⟩ := and_e n6
  obtain ⟨n9, n10⟩ := and_e n8
  obtain ⟨n11, n12⟩ := and_e n10
  obtain ⟨n13, n14⟩ := and_e n12
  obtain ⟨n15, n16⟩ := and_e n14
  obtain ⟨n17, n18⟩ := and_e n16
  obtain ⟨n19, n20⟩ := and_e n18
  obtain ⟨n21, n22⟩ := and_e n20
  obtain ⟨n23, n24⟩ := and_e n22
  obtain ⟨n25, n26⟩ := and_e n24
  obtain ⟨n27, n28⟩ := and_e n26
  obtain ⟨n29, n30⟩ := and_e n28
  obtain ⟨n31, n32⟩ := and_e n30
  obtain ⟨n33, n34⟩ := and_e n32
  obtain ⟨n35, n36⟩ := and_e n34
  obtain ⟨n37, n38⟩ := and_e n36
  obtain ⟨n39, n40⟩ := and_e n38
  obtain ⟨n41, n42⟩ := and_e n40
  obtain ⟨n43, n44⟩ := and_e n42
  obtain ⟨n45, n46⟩ := and_e n44
  obtain ⟨n47, n48⟩ := and_e n46
  obtain ⟨n49, n50⟩ := and_e n48
  obtain ⟨n51, n52⟩ := and_e n50
  obtain ⟨n53, n54⟩ := and_e n52
  obtain ⟨n55, n56⟩ := and_e n54
  obtain ⟨n57, n58⟩ := and_e n56
  obtain ⟨w_EQUAL, e_w_EQUAL⟩ := exa_v n1
  obtain ⟨w_NOT_EQUAL, e_w_NOT_EQUAL⟩ := exa_v n3
  obtain ⟨w_GREATER, e_w_GREATER⟩ := exa_v n17
  obtain ⟨w_LESS, e_w_LESS⟩ := exa_v n25
  obtain ⟨w_LESS_OR_EQUAL, e_w_LESS_OR_EQUAL⟩ := exa_v n29
  obtain ⟨w_GREATER_OR_EQUAL, e_w_GREATER_OR_EQUAL⟩ := exa_v n45
  have h_S_w_EQUAL := Sta.start e_w_EQUAL (Or.inr ⟨(hw _ (List.mem_of_getElem? (i := 6) rfl)), (hw _ (List.mem_of_getElem? (i := 7) rfl))⟩)
  have h_E_w_EQUAL := Exa.start e_w_EQUAL n1
  have h_S_w_NOT_EQUAL := Sta.start e_w_NOT_EQUAL (Or.inr ⟨(hw _ (List.mem_of_getElem? (i := 6) rfl)), (hw _ (List.mem_of_getElem? (i := 15) rfl))⟩)
  have h_E_w_NOT_EQUAL := Exa.start e_w_NOT_EQUAL n3
  have h_S_w_GREATER := Sta.start e_w_GREATER (Or.inr ⟨(hw _ (List.mem_of_getElem? (i := 6) rfl)), (hw _ (List.mem_of_getElem? (i := 36) rfl))⟩)
  have h_E_w_GREATER := Exa.start e_w_GREATER n17
  have h_S_w_LESS := Sta.start e_w_LESS (Or.inr ⟨(hw _ (List.mem_of_getElem? (i := 6) rfl)), (hw _ (List.mem_of_getElem? (i := 38) rfl))⟩)
  have h_E_w_LESS := Exa.start e_w_LESS n25
  have h_S_w_LESS_OR_EQUAL := Sta.start e_w_LESS_OR_EQUAL (Or.inr ⟨(hw _ (List.mem_of_getElem? (i := 6) rfl)), (hw _ (List.mem_of_getElem? (i := 40) rfl))⟩)
  have h_E_w_LESS_OR_EQUAL := Exa.start e_w_LESS_OR_EQUAL n29
  have h_S_w_GREATER_OR_EQUAL := Sta.start e_w_GREATER_OR_EQUAL (Or.inr ⟨(hw _ (List.mem_of_getElem? (i := 6) rfl)), (hw _ (List.mem_of_getElem? (i := 45) rfl))⟩)
  have h_E_w_GREATER_OR_EQUAL := Exa.start e_w_GREATER_OR_EQUAL n45
  have h_F_whenGreater_w_NOT_EQUAL := own_fld e_w_NOT_EQUAL n5
  have h_F_whenGreater_w_EQUAL := own_fld e_w_EQUAL n7
  have h_F_whenEqual_w_NOT_EQUAL := own_fld e_w_NOT_EQUAL n9
  have h_F_whenEqual_w_EQUAL := own_fld e_w_EQUAL n11
  have h_F_whenLess_w_NOT_EQUAL := own_fld e_w_NOT_EQUAL n13
  have h_F_whenLess_w_EQUAL := own_fld e_w_EQUAL n15
  have h_F_ordinal_w_GREATER := own_fld e_w_GREATER n19
  have h_F_ordinal_w_EQUAL := own_fld e_w_EQUAL n21
  have h_F_ordinal_w_NOT_EQUAL := own_fld e_w_NOT_EQUAL n23
  have h_F_ordinal_w_LESS := own_fld e_w_LESS n27
  have h_F_ordinal_w_LESS_OR_EQUAL := own_fld e_w_LESS_OR_EQUAL n31
  have h_F_whenGreater_w_LESS_OR_EQUAL := own_fld e_w_LESS_OR_EQUAL n33
  have h_F_whenGreater_w_GREATER := own_fld e_w_GREATER n35
  have h_F_whenEqual_w_LESS_OR_EQUAL := own_fld e_w_LESS_OR_EQUAL n37
  have h_F_whenEqual_w_GREATER := own_fld e_w_GREATER n39
  have h_F_whenLess_w_LESS_OR_EQUAL := own_fld e_w_LESS_OR_EQUAL n41
  have h_F_whenLess_w_GREATER := own_fld e_w_GREATER n43
  have h_F_whenGreater_w_GREATER_OR_EQUAL := own_fld e_w_GREATER_OR_EQUAL n47
  have h_F_whenGreater_w_LESS := own_fld e_w_LESS n49
  have h_F_whenEqual_w_GREATER_OR_EQUAL := own_fld e_w_GREATER_OR_EQUAL n51
  have h_F_whenEqual_w_LESS := own_fld e_w_LESS n53
  have h_F_whenLess_w_GREATER_OR_EQUAL := own_fld e_w_GREATER_OR_EQUAL n55
  have h_F_whenLess_w_LESS := own_fld e_w_LESS n57
  have h_F_ordinal_w_GREATER_OR_EQUAL := own_fld e_w_GREATER_OR_EQUAL n58
  obtain ⟨n, o, h1, h2, h3, _, L, rfl, ⟨rfl, N⟩, hq⟩ := rm0 l s _ hw tables_1 i0 i1 i2 w_EQUAL w_NOT_EQUAL w_GREATER w_LESS w_LESS_OR_EQUAL w_GREATER_OR_EQUAL s.heap s.heap.size (Nat.le_refl _) h_S_w_EQUAL h_E_w_EQUAL h_S_w_NOT_EQUAL h_E_w_NOT_EQUAL h_S_w_GREATER h_E_w_GREATER h_S_w_LESS h_E_w_LESS h_S_w_LESS_OR_EQUAL h_E_w_LESS_OR_EQUAL h_S_w_GREATER_OR_EQUAL h_E_w_GREATER_OR_EQUAL h_F_whenGreater_w_NOT_EQUAL h_F_whenGreater_w_EQUAL h_F_whenEqual_w_NOT_EQUAL h_F_whenEqual_w_EQUAL h_F_whenLess_w_NOT_EQUAL h_F_whenLess_w_EQUAL h_F_ordinal_w_GREATER h_F_ordinal_w_EQUAL h_F_ordinal_w_NOT_EQUAL h_F_ordinal_w_LESS h_F_ordinal_w_LESS_OR_EQUAL h_F_whenGreater_w_LESS_OR_EQUAL h_F_whenGreater_w_GREATER h_F_whenEqual_w_LESS_OR_EQUAL h_F_whenEqual_w_GREATER h_F_whenLess_w_LESS_OR_EQUAL h_F_whenLess_w_GREATER h_F_whenGreater_w_GREATER_OR_EQUAL h_F_whenGreater_w_LESS h_F_whenEqual_w_GREATER_OR_EQUAL h_F_whenEqual_w_LESS h_F_whenLess_w_GREATER_OR_EQUAL h_F_whenLess_w_LESS h_F_ordinal_w_GREATER_OR_EQUAL p e ha hc hk s m _ below hf ((Spec.applies_iff_loose hf).mp happ).1 ⟨rfl, State.Warmed39.refl s, rfl⟩ trivial
  exact ⟨n, _, h1, h2, h3, hpost _ _ _ _ _ _ ⟨Cond.after_iff.mpr rfl, Cond.after_iff.mpr (eq_i res_at (Term.int_eval (1)) rfl), trivial⟩ ⟨hq.1, hq.2.1, (hq.2.2.sift fun y hy => Or.inr (N y hy)).mono (by decide) (by decide)⟩⟩
theorem main_1_1 : Claimed_1_1 := comes_1 fun _ _ _ _ _ _ h hF => ⟨h.1, hF⟩
theorem main_1_2 : Claimed_1_2 := comes_1 fun _ _ _ _ _ _ h hF => ⟨h.2.1, hF⟩
end Jvm.Pilot.@@N@@
namespace Jvm.Pilot.@@N@@
open Jvm Jvm.ClassFile Sem Op Lib Jvm.Free Jvm.Stand Jvm.Pilot.@@N@@.Jvm.D
/-! MADE BY PROGRAM (witnessworld.py) out of the Statement's table words and the real class files: 15 classes; the members and pool entries that the words name. The judged class is class 1, her method 2. -/
namespace start1
open Jvm.ClassFile
def u (s : String) : CpInfo := .utf8 (stringToUtf16 s)
/-- a pool by its gaps: so many unusable entries, then the entry; so many at the end -/
def gap : Nat → List CpInfo → List CpInfo
  | 0, r => r
  | n + 1, r => .unusable :: gap n r
def poolList (es : List (Nat × CpInfo)) (last : Nat) : List CpInfo := es.foldr (fun e r => gap e.1 (e.2 :: r)) (gap last [])
def pool (es : List (Nat × CpInfo)) (last : Nat) : Array CpInfo := ⟨poolList es last⟩
def fileOf (pool : Array CpInfo) (this : Nat) (attrs : Array Attribute := #[]) (ms : Array MethodInfo := #[]) (fl : Nat := 33) (sup : Nat := 0) (ifs : Array Nat := #[]) (fds : Array FieldInfo := #[]) : ClassFile where
  minorVersion := 0
  majorVersion := 65
  constantPool := pool
  accessFlags := fl
  thisClass := this
  superClass := sup
  interfaces := ifs
  fields := fds
  methods := ms
  attributes := attrs
def plain (name : String) (sup : Option ClassId) : Class where
  name := name
  kind := .ordinary
  loader := none
  accessFlags := 33
  super := sup
  interfaces := #[]
  cf := none
  fields := #[]
  methods := #[]
  instanceTypes := #[]
  staticTypes := #[]
  resolved := #[]
  callSites := []
  init := .initialized
  statics := none
  mirror := none

def pool0 : Array CpInfo := pool [(5, u "<init>"), (0, u "()V"), (1, .class_ 10), (1, u "java/lang/Object")] 113

def k0m0 : Method := { name := "<init>", desc := "()V", sig := { parameters := [], returnType := none }, accessFlags := 1, code := none }
/-- java/lang/Object -/
def k0 : Class := { plain "java/lang/Object" none with
  accessFlags := 33
  interfaces := #[]
  cf := some (fileOf pool0 8 #[] #[{ accessFlags := 1, nameIndex := 5, descriptorIndex := 6, attributes := #[] }] 33 0 #[] #[])
  fields := #[]
  methods := #[k0m0]
  instanceTypes := #[]
  staticTypes := #[]
  resolved := Array.replicate 124 none
  statics := none }

def pool1 : Array CpInfo := pool [(2, .class_ 4), (1, u "java/lang/Object"), (0, u "<init>"), (0, u "()V"), (0, .integer 2147483647), (0, .fieldref 9 10), (0, .class_ 11), (0, .nameAndType 12 13), (0, u "com/example/latticut/latticut/lang/Comparison"), (0, u "EQUAL"), (0, u "Lcom/example/latticut/latticut/lang/Comparison;"), (0, .fieldref 9 15), (0, .nameAndType 16 13), (0, u "NOT_EQUAL"), (0, .fieldref 9 18), (0, .nameAndType 19 13), (0, u "LESS"), (0, .fieldref 9 21), (0, .nameAndType 22 13), (0, u "LESS_OR_EQUAL"), (0, .fieldref 9 24), (0, .nameAndType 25 13), (0, u "GREATER"), (0, .fieldref 9 27), (0, .nameAndType 28 13), (0, u "GREATER_OR_EQUAL"), (0, .methodref 30 31), (0, .class_ 32), (0, .nameAndType 33 34), (0, u "com/example/latticut/latticut/lang/ComparisonNegatedPinLaw"), (0, u "pick"), (0, u "(I)Lcom/example/latticut/latticut/lang/Comparison;"), (0, .methodref 9 36), (0, .nameAndType 37 38), (0, u "negated"), (0, u "()Lcom/example/latticut/latticut/lang/Comparison;"), (0, .methodref 9 40), (0, .nameAndType 41 42), (0, u "test"), (0, u "(JJ)Z"), (3, u "law"), (0, u "(IJJ)Z")] 2

def k1m0 : Method := { name := "<init>", desc := "()V", sig := { parameters := [], returnType := none }, accessFlags := 1, code := none }
def k1c1 : Code := { maxStack := 2, maxLocals := 2, code := method_2_code, exceptionTable := #[], attributes := #[] }
def k1m1 : Method := { name := "pick", desc := "(I)Lcom/example/latticut/latticut/lang/Comparison;", sig := { parameters := [.int], returnType := some (.object "com/example/latticut/latticut/lang/Comparison") }, accessFlags := 10, code := some k1c1 }
def k1c2 : Code := { maxStack := 6, maxLocals := 10, code := code, exceptionTable := #[], attributes := #[] }
def k1m2 : Method := { name := "law", desc := "(IJJ)Z", sig := { parameters := [.int, .long, .long], returnType := some .boolean }, accessFlags := 9, code := some k1c2 }
/-- com/example/latticut/latticut/lang/ComparisonNegatedPinLaw -/
def k1 : Class := { plain "com/example/latticut/latticut/lang/ComparisonNegatedPinLaw" (some 0) with
  accessFlags := 49
  interfaces := #[]
  cf := some (fileOf pool1 30 #[] #[{ accessFlags := 1, nameIndex := 5, descriptorIndex := 6, attributes := #[] }, { accessFlags := 10, nameIndex := 33, descriptorIndex := 34, attributes := #[] }, { accessFlags := 9, nameIndex := 46, descriptorIndex := 47, attributes := #[] }] 49 2 #[] #[])
  fields := #[]
  methods := #[k1m0, k1m1, k1m2]
  instanceTypes := #[]
  staticTypes := #[]
  resolved := Array.replicate 50 none
  statics := none }

def pool2 : Array CpInfo := pool [(1, .class_ 2), (0, u "java/lang/constant/Constable"), (0, .class_ 4), (0, u "java/lang/Object")] 6

/-- java/lang/constant/Constable -/
def k2 : Class := { plain "java/lang/constant/Constable" (some 0) with
  accessFlags := 1537
  interfaces := #[]
  cf := some (fileOf pool2 1 #[] #[] 1537 3 #[] #[])
  fields := #[]
  methods := #[]
  instanceTypes := #[]
  staticTypes := #[]
  resolved := Array.replicate 11 none
  statics := none }

def pool3 : Array CpInfo := pool [(1, .class_ 2), (0, u "java/lang/Comparable"), (0, .class_ 4), (0, u "java/lang/Object")] 7

/-- java/lang/Comparable -/
def k3 : Class := { plain "java/lang/Comparable" (some 0) with
  accessFlags := 1537
  interfaces := #[]
  cf := some (fileOf pool3 1 #[] #[] 1537 3 #[] #[])
  fields := #[]
  methods := #[]
  instanceTypes := #[]
  staticTypes := #[]
  resolved := Array.replicate 12 none
  statics := none }

def pool4 : Array CpInfo := pool [(1, .class_ 2), (0, u "java/io/Serializable"), (0, .class_ 4), (0, u "java/lang/Object")] 2

/-- java/io/Serializable -/
def k4 : Class := { plain "java/io/Serializable" (some 0) with
  accessFlags := 1537
  interfaces := #[]
  cf := some (fileOf pool4 1 #[] #[] 1537 3 #[] #[])
  fields := #[]
  methods := #[]
  instanceTypes := #[]
  staticTypes := #[]
  resolved := Array.replicate 7 none
  statics := none }

def pool5 : Array CpInfo := pool [(2, .class_ 4), (1, u "java/lang/Enum"), (0, u "name"), (0, u "Ljava/lang/String;"), (2, u "ordinal"), (0, u "I"), (1, .class_ 14), (1, u "java/lang/Object"), (4, u "hash"), (86, .class_ 108), (1, u "java/lang/Enum$EnumDesc"), (2, .class_ 112), (0, u "java/lang/constant/Constable"), (0, .class_ 114), (0, u "java/lang/Comparable"), (0, .class_ 116), (0, u "java/io/Serializable")] 87

/-- java/lang/Enum -/
def k5 : Class := { plain "java/lang/Enum" (some 0) with
  accessFlags := 1057
  interfaces := #[2, 3, 4]
  cf := some (fileOf pool5 2 #[.nestMembers #[106]] #[] 1057 12 #[111, 113, 115] #[{ accessFlags := 18, nameIndex := 5, descriptorIndex := 6, attributes := #[] }, { accessFlags := 18, nameIndex := 9, descriptorIndex := 10, attributes := #[] }, { accessFlags := 2, nameIndex := 19, descriptorIndex := 10, attributes := #[] }])
  fields := #[{ name := "name", type := (.object "java/lang/String"), accessFlags := 18, slot := 0, constantValue := 0 }, { name := "ordinal", type := .int, accessFlags := 18, slot := 1, constantValue := 0 }, { name := "hash", type := .int, accessFlags := 2, slot := 2, constantValue := 0 }]
  methods := #[]
  instanceTypes := #[(.object "java/lang/String"), .int, .int]
  staticTypes := #[]
  resolved := Array.replicate 204 none
  statics := none }

def pool6 : Array CpInfo := pool [(1, .class_ 2), (0, u "com/example/latticut/latticut/lang/Comparison"), (0, .fieldref 1 4), (0, .nameAndType 5 6), (0, u "EQUAL"), (0, u "Lcom/example/latticut/latticut/lang/Comparison;"), (0, .fieldref 1 8), (0, .nameAndType 9 6), (0, u "NOT_EQUAL"), (0, .fieldref 1 11), (0, .nameAndType 12 6), (0, u "LESS"), (0, .fieldref 1 14), (0, .nameAndType 15 6), (0, u "LESS_OR_EQUAL"), (0, .fieldref 1 17), (0, .nameAndType 18 6), (0, u "GREATER"), (0, .fieldref 1 20), (0, .nameAndType 21 6), (0, u "GREATER_OR_EQUAL"), (2, u "$VALUES"), (0, u "[Lcom/example/latticut/latticut/lang/Comparison;"), (6, .class_ 34), (1, u "java/lang/Enum"), (8, u "symbol"), (0, u "Ljava/lang/String;"), (0, .fieldref 1 46), (0, .nameAndType 47 48), (0, u "whenLess"), (0, u "Z"), (0, .fieldref 1 50), (0, .nameAndType 51 48), (0, u "whenEqual"), (0, .fieldref 1 53), (0, .nameAndType 54 48), (0, u "whenGreater"), (8, u "test"), (0, u "(JJ)Z"), (7, .methodref 73 74), (0, .class_ 75), (0, .nameAndType 76 77), (0, u "java/lang/Long"), (0, u "compare"), (0, u "(JJ)I"), (0, .methodref 1 79), (0, .nameAndType 80 81), (0, u "holds"), (0, u "(I)Z"), (37, u "negated"), (0, u "()Lcom/example/latticut/latticut/lang/Comparison;")] 7

def k6c0 : Code := { maxStack := 5, maxLocals := 5, code := prog_137_method_6_code, exceptionTable := #[], attributes := #[] }
def k6m0 : Method := { name := "test", desc := "(JJ)Z", sig := { parameters := [.long, .long], returnType := some .boolean }, accessFlags := 1, code := some k6c0 }
def k6c1 : Code := { maxStack := 2, maxLocals := 2, code := prog_137_method_8_code, exceptionTable := #[], attributes := #[] }
def k6m1 : Method := { name := "negated", desc := "()Lcom/example/latticut/latticut/lang/Comparison;", sig := { parameters := [], returnType := some (.object "com/example/latticut/latticut/lang/Comparison") }, accessFlags := 1, code := some k6c1 }
def k6c2 : Code := { maxStack := 1, maxLocals := 2, code := prog_137_method_9_code, exceptionTable := #[], attributes := #[] }
def k6m2 : Method := { name := "holds", desc := "(I)Z", sig := { parameters := [.int], returnType := some .boolean }, accessFlags := 2, code := some k6c2 }
/-- com/example/latticut/latticut/lang/Comparison -/
def k6 : Class := { plain "com/example/latticut/latticut/lang/Comparison" (some 5) with
  accessFlags := 16433
  interfaces := #[]
  cf := some (fileOf pool6 1 #[] #[{ accessFlags := 1, nameIndex := 63, descriptorIndex := 64, attributes := #[] }, { accessFlags := 1, nameIndex := 119, descriptorIndex := 120, attributes := #[] }, { accessFlags := 2, nameIndex := 80, descriptorIndex := 81, attributes := #[] }] 16433 32 #[] #[{ accessFlags := 16409, nameIndex := 5, descriptorIndex := 6, attributes := #[] }, { accessFlags := 16409, nameIndex := 9, descriptorIndex := 6, attributes := #[] }, { accessFlags := 16409, nameIndex := 12, descriptorIndex := 6, attributes := #[] }, { accessFlags := 16409, nameIndex := 15, descriptorIndex := 6, attributes := #[] }, { accessFlags := 16409, nameIndex := 18, descriptorIndex := 6, attributes := #[] }, { accessFlags := 16409, nameIndex := 21, descriptorIndex := 6, attributes := #[] }, { accessFlags := 18, nameIndex := 43, descriptorIndex := 44, attributes := #[] }, { accessFlags := 18, nameIndex := 47, descriptorIndex := 48, attributes := #[] }, { accessFlags := 18, nameIndex := 51, descriptorIndex := 48, attributes := #[] }, { accessFlags := 18, nameIndex := 54, descriptorIndex := 48, attributes := #[] }, { accessFlags := 4122, nameIndex := 24, descriptorIndex := 25, attributes := #[] }])
  fields := #[{ name := "EQUAL", type := (.object "com/example/latticut/latticut/lang/Comparison"), accessFlags := 16409, slot := 0, constantValue := 0 }, { name := "NOT_EQUAL", type := (.object "com/example/latticut/latticut/lang/Comparison"), accessFlags := 16409, slot := 1, constantValue := 0 }, { name := "LESS", type := (.object "com/example/latticut/latticut/lang/Comparison"), accessFlags := 16409, slot := 2, constantValue := 0 }, { name := "LESS_OR_EQUAL", type := (.object "com/example/latticut/latticut/lang/Comparison"), accessFlags := 16409, slot := 3, constantValue := 0 }, { name := "GREATER", type := (.object "com/example/latticut/latticut/lang/Comparison"), accessFlags := 16409, slot := 4, constantValue := 0 }, { name := "GREATER_OR_EQUAL", type := (.object "com/example/latticut/latticut/lang/Comparison"), accessFlags := 16409, slot := 5, constantValue := 0 }, { name := "symbol", type := (.object "java/lang/String"), accessFlags := 18, slot := 3, constantValue := 0 }, { name := "whenLess", type := .boolean, accessFlags := 18, slot := 4, constantValue := 0 }, { name := "whenEqual", type := .boolean, accessFlags := 18, slot := 5, constantValue := 0 }, { name := "whenGreater", type := .boolean, accessFlags := 18, slot := 6, constantValue := 0 }, { name := "$VALUES", type := (.array (.object "com/example/latticut/latticut/lang/Comparison")), accessFlags := 4122, slot := 6, constantValue := 0 }]
  methods := #[k6m0, k6m1, k6m2]
  instanceTypes := #[(.object "java/lang/String"), .int, .int, (.object "java/lang/String"), .boolean, .boolean, .boolean]
  staticTypes := #[(.object "com/example/latticut/latticut/lang/Comparison"), (.object "com/example/latticut/latticut/lang/Comparison"), (.object "com/example/latticut/latticut/lang/Comparison"), (.object "com/example/latticut/latticut/lang/Comparison"), (.object "com/example/latticut/latticut/lang/Comparison"), (.object "com/example/latticut/latticut/lang/Comparison"), (.array (.object "com/example/latticut/latticut/lang/Comparison"))]
  resolved := Array.replicate 128 none
  statics := some 0 }

def pool7 : Array CpInfo := pool [(2, .class_ 4), (1, u "java/lang/Object"), (0, u "<init>"), (0, u "()V"), (1, .class_ 10), (1, u "java/lang/Number"), (2, .class_ 14), (0, u "java/io/Serializable"), (0, u "serialVersionUID"), (0, u "J")] 20

def k7m0 : Method := { name := "<init>", desc := "()V", sig := { parameters := [], returnType := none }, accessFlags := 1, code := none }
/-- java/lang/Number -/
def k7 : Class := { plain "java/lang/Number" (some 0) with
  accessFlags := 1057
  interfaces := #[4]
  cf := some (fileOf pool7 8 #[] #[{ accessFlags := 1, nameIndex := 5, descriptorIndex := 6, attributes := #[] }] 1057 2 #[13] #[{ accessFlags := 26, nameIndex := 15, descriptorIndex := 16, attributes := #[] }])
  fields := #[{ name := "serialVersionUID", type := .long, accessFlags := 26, slot := 0, constantValue := 0 }]
  methods := #[k7m0]
  instanceTypes := #[]
  staticTypes := #[.long]
  resolved := Array.replicate 37 none
  statics := none }

def pool8 : Array CpInfo := pool [(1, .class_ 2), (0, u "java/lang/constant/ConstantDesc"), (0, .class_ 4), (0, u "java/lang/Object")] 32

/-- java/lang/constant/ConstantDesc -/
def k8 : Class := { plain "java/lang/constant/ConstantDesc" (some 0) with
  accessFlags := 1537
  interfaces := #[]
  cf := some (fileOf pool8 1 #[] #[] 1537 3 #[] #[])
  fields := #[]
  methods := #[]
  instanceTypes := #[]
  staticTypes := #[]
  resolved := Array.replicate 37 none
  statics := none }

def pool9 : Array CpInfo := pool [(1, .class_ 2), (0, u "java/lang/Long"), (232, .class_ 237), (1, u "java/lang/Long$LongCache"), (33, .class_ 272), (0, u "java/lang/Number"), (2, u "value"), (0, u "J"), (27, u "compare"), (0, u "(JJ)I"), (55, u "TYPE"), (0, u "Ljava/lang/Class;"), (0, .class_ 364), (0, u "java/lang/Comparable"), (0, .class_ 366), (0, u "java/lang/constant/Constable"), (0, .class_ 368), (0, u "java/lang/constant/ConstantDesc"), (0, u "MIN_VALUE"), (1, u "MAX_VALUE"), (4, u "SIZE"), (0, u "I"), (1, u "BYTES"), (1, u "serialVersionUID")] 142

def k9c0 : Code := { maxStack := 4, maxLocals := 4, code := jdk_35_method_42_code, exceptionTable := #[], attributes := #[] }
def k9m0 : Method := { name := "compare", desc := "(JJ)I", sig := { parameters := [.long, .long], returnType := some .int }, accessFlags := 9, code := some k9c0 }
/-- java/lang/Long -/
def k9 : Class := { plain "java/lang/Long" (some 7) with
  accessFlags := 49
  interfaces := #[3, 2, 8]
  cf := some (fileOf pool9 1 #[.nestMembers #[235]] #[{ accessFlags := 9, nameIndex := 304, descriptorIndex := 305, attributes := #[] }] 49 271 #[363, 365, 367] #[{ accessFlags := 25, nameIndex := 369, descriptorIndex := 276, attributes := #[] }, { accessFlags := 25, nameIndex := 371, descriptorIndex := 276, attributes := #[] }, { accessFlags := 25, nameIndex := 361, descriptorIndex := 362, attributes := #[] }, { accessFlags := 18, nameIndex := 275, descriptorIndex := 276, attributes := #[] }, { accessFlags := 25, nameIndex := 376, descriptorIndex := 377, attributes := #[] }, { accessFlags := 25, nameIndex := 379, descriptorIndex := 377, attributes := #[] }, { accessFlags := 26, nameIndex := 381, descriptorIndex := 276, attributes := #[] }])
  fields := #[{ name := "MIN_VALUE", type := .long, accessFlags := 25, slot := 0, constantValue := 0 }, { name := "MAX_VALUE", type := .long, accessFlags := 25, slot := 1, constantValue := 0 }, { name := "TYPE", type := (.object "java/lang/Class"), accessFlags := 25, slot := 2, constantValue := 0 }, { name := "value", type := .long, accessFlags := 18, slot := 0, constantValue := 0 }, { name := "SIZE", type := .int, accessFlags := 25, slot := 3, constantValue := 0 }, { name := "BYTES", type := .int, accessFlags := 25, slot := 4, constantValue := 0 }, { name := "serialVersionUID", type := .long, accessFlags := 26, slot := 5, constantValue := 0 }]
  methods := #[k9m0]
  instanceTypes := #[.long]
  staticTypes := #[.long, .long, (.object "java/lang/Class"), .int, .int, .long]
  resolved := Array.replicate 524 none
  statics := none }

def pool10 : Array CpInfo := pool [(1, u "java/lang/Cloneable"), (0, .class_ 1), (0, u "java/lang/Object"), (0, .class_ 3)] 3

/-- java/lang/Cloneable -/
def k10 : Class := { plain "java/lang/Cloneable" (some 0) with
  accessFlags := 1537
  interfaces := #[]
  cf := some (fileOf pool10 2 #[] #[] 1537 4 #[] #[])
  fields := #[]
  methods := #[]
  instanceTypes := #[]
  staticTypes := #[]
  resolved := Array.replicate 8 none
  statics := none }

/-- the primitive byte -/
def k11 : Class := { plain "byte" none with kind := .primitive 'B', accessFlags := 0x411 }
/-- [B -/
def k12 : Class := { plain "[B" (some 0) with kind := .array 11 .byte, interfaces := #[10, 4], accessFlags := 1041 }

/-- the primitive int -/
def k13 : Class := { plain "int" none with kind := .primitive 'I', accessFlags := 0x411 }
/-- [I -/
def k14 : Class := { plain "[I" (some 0) with kind := .array 13 .int, interfaces := #[10, 4], accessFlags := 1041 }

def heap : Heap := #[{ cls := 6, slots := #[.ref 1, .ref 2, .ref 4, .ref 5, .ref 3, .ref 6, .null], vm := .statics 6 },
  { cls := 6, slots := #[.null, .int 0, .int 0, .null, .int 0, .int 1, .int 0], vm := .none },
  { cls := 6, slots := #[.null, .int 1, .int 0, .null, .int 1, .int 0, .int 1], vm := .none },
  { cls := 6, slots := #[.null, .int 4, .int 0, .null, .int 0, .int 0, .int 1], vm := .none },
  { cls := 6, slots := #[.null, .int 2, .int 0, .null, .int 1, .int 0, .int 0], vm := .none },
  { cls := 6, slots := #[.null, .int 3, .int 0, .null, .int 1, .int 1, .int 0], vm := .none },
  { cls := 6, slots := #[.null, .int 5, .int 0, .null, .int 0, .int 1, .int 1], vm := .none }]
def classes : Array Class := #[k0, k1, k2, k3, k4, k5, k6, k7, k8, k9, k10, k11, k12, k13, k14]
def interned : List (Array UInt16 × Addr) := []
def slotsUsed : Nat := 49
def theMethod : MethodId := ⟨1, 2⟩
def args0 : Array Value := #[.int 5, .long 6, .long 7]
def aboutOver (below : List Frame) : State where
  vm := { classes := classes, interned := interned.toArray }
  heap := heap
  slotsUsed := slotsUsed
  threads := #[{ frames := .invoking theMethod args0 :: below }]
def below0 : List Frame := [.native { method := ⟨0, 0⟩, args := #[] }]
def about1 : State := aboutOver below0
def p0 : Program := .bare "" "" ""
def e0 : Env := launch0.env 0 0 0
theorem w_frames : about1.frames = Frame.invoking theMethod args0 :: below0 := rfl
set_option maxRecDepth 65536 in
theorem w_args : argsFit about1.vm theMethod args0 = true := by decide +kernel
set_option maxRecDepth 65536 in
theorem w_heap : heapFits about1 = true := by decide +kernel
set_option maxRecDepth 65536 in
theorem w_runnable : about1.curStatus? = some .runnable := by decide +kernel
set_option maxRecDepth 65536 in
theorem w_alone : about1.alone = true := by decide +kernel
set_option maxRecDepth 65536 in
theorem w_named : about1.methodNamed? x = some theMethod := by decide +kernel
set_option maxRecDepth 65536 in
theorem w_hears : about1.hears theMethod below0 = true := by decide +kernel
set_option maxRecDepth 65536 in
theorem w_ripe : about1.ripe theMethod args0 below0 = true := by decide +kernel
theorem w_running : about1.status = .running := rfl
set_option maxRecDepth 65536 in
theorem w_room : about1.hasRoom e0.platform room_1 = true :=
  launch0.hasRoom_least _ room_1 (by decide +kernel) (by decide +kernel) (by decide +kernel) (by decide +kernel) (by decide +kernel) (by decide +kernel)
theorem allAtoms_all (ts : List Jvm.Cond) (a : Array Jvm.Value) (st : Jvm.State) : (allAtoms ts).before a st = ts.all (fun c => c.before a st) := by
  induction ts with
  | nil => rfl
  | cons c t ih =>
    show (Jvm.Cond.and c (allAtoms t)).before a st = _
    rw [Jvm.Cond.before_and, ih, List.all_cons]
def words1 : List Jvm.Cond := Jvm.Cond.code x code maxLocals ret :: tables_1
/-- a 'code' word, met by the world's own term for the bytes: nothing is compared byte by byte -/
theorem code_word {y : MethodName} {bytes : ByteArray} {mx : Nat} {rt : Option FieldType} {a : Array Value} {s : State} {m : MethodId} {meth : Method} {c : Code} (h1 : s.methodNamed? y = some m) (h2 : s.vm.method? m = some meth) (h3 : meth.code = some c) (h4 : c.code = bytes)
    (h5 : (c.maxLocals == mx && c.exceptionTable.isEmpty && decide (c.maxStack ≤ mostOperands) && decide (meth.sig.returnType = rt) && !meth.locks && decide (parseMethodDescriptor y.desc = some meth.sig)) = true) : (Jvm.Cond.code y bytes mx rt).before a s = true := by
  simp only [Bool.and_eq_true, beq_iff_eq, Bool.not_eq_true', decide_eq_true_eq] at h5
  obtain ⟨⟨⟨⟨⟨g1, g2⟩, g3⟩, g4⟩, g5⟩, g6⟩ := h5
  simp [Cond.before, Cond.holds, Cond.value, h1, h2, h3, h4, g1, g2, g3, g4, g5, g6]
def isCode : Jvm.Cond → Bool
  | .code _ _ _ _ => true
  | _ => false
theorem all_split {L : List Jvm.Cond} {P : Jvm.Cond → Bool} (h1 : L.all (fun c => isCode c || P c) = true) (h2 : ∀ c ∈ L.filter isCode, P c = true) : L.all P = true := by
  refine List.all_eq_true.mpr fun c hc => ?_
  have h := List.all_eq_true.mp h1 c hc
  rcases Bool.eq_false_or_eq_true (isCode c) with hi | hi
  · exact h2 c (List.mem_filter.mpr ⟨hc, hi⟩)
  · simpa [hi] using h
set_option maxRecDepth 65536 in
theorem w_c0 : (Jvm.Cond.code x code maxLocals ret).before args0 about1 = true := code_word (m := ⟨1, 2⟩) (meth := k1m2) (c := k1c2) (by decide +kernel) rfl rfl rfl (by decide +kernel)
set_option maxRecDepth 65536 in
theorem w_c1 : (Jvm.Cond.code ({ cls := "com/example/latticut/latticut/lang/ComparisonNegatedPinLaw", name := "pick", desc := "(I)Lcom/example/latticut/latticut/lang/Comparison;" } : Jvm.MethodName) method_2_code (2 : Nat) (Option.some (Jvm.ClassFile.FieldType.object "com/example/latticut/latticut/lang/Comparison"))).before args0 about1 = true := code_word (m := ⟨1, 1⟩) (meth := k1m1) (c := k1c1) (by decide +kernel) rfl rfl rfl (by decide +kernel)
set_option maxRecDepth 65536 in
theorem w_c2 : (Jvm.Cond.code ({ cls := "com/example/latticut/latticut/lang/Comparison", name := "negated", desc := "()Lcom/example/latticut/latticut/lang/Comparison;" } : Jvm.MethodName) prog_137_method_8_code (2 : Nat) (Option.some (Jvm.ClassFile.FieldType.object "com/example/latticut/latticut/lang/Comparison"))).before args0 about1 = true := code_word (m := ⟨6, 1⟩) (meth := k6m1) (c := k6c1) (by decide +kernel) rfl rfl rfl (by decide +kernel)
set_option maxRecDepth 65536 in
theorem w_c3 : (Jvm.Cond.code ({ cls := "com/example/latticut/latticut/lang/Comparison", name := "test", desc := "(JJ)Z" } : Jvm.MethodName) prog_137_method_6_code (5 : Nat) (Option.some Jvm.ClassFile.FieldType.boolean)).before args0 about1 = true := code_word (m := ⟨6, 0⟩) (meth := k6m0) (c := k6c0) (by decide +kernel) rfl rfl rfl (by decide +kernel)
set_option maxRecDepth 65536 in
theorem w_c4 : (Jvm.Cond.code ({ cls := "java/lang/Long", name := "compare", desc := "(JJ)I" } : Jvm.MethodName) jdk_35_method_42_code (4 : Nat) (Option.some Jvm.ClassFile.FieldType.int)).before args0 about1 = true := code_word (m := ⟨9, 0⟩) (meth := k9m0) (c := k9c0) (by decide +kernel) rfl rfl rfl (by decide +kernel)
set_option maxRecDepth 65536 in
theorem w_c5 : (Jvm.Cond.code ({ cls := "com/example/latticut/latticut/lang/Comparison", name := "holds", desc := "(I)Z" } : Jvm.MethodName) prog_137_method_9_code (2 : Nat) (Option.some Jvm.ClassFile.FieldType.boolean)).before args0 about1 = true := code_word (m := ⟨6, 2⟩) (meth := k6m2) (c := k6c2) (by decide +kernel) rfl rfl rfl (by decide +kernel)
def codes1 : List Jvm.Cond := [Jvm.Cond.code x code maxLocals ret, Jvm.Cond.code ({ cls := "com/example/latticut/latticut/lang/ComparisonNegatedPinLaw", name := "pick", desc := "(I)Lcom/example/latticut/latticut/lang/Comparison;" } : Jvm.MethodName) method_2_code (2 : Nat) (Option.some (Jvm.ClassFile.FieldType.object "com/example/latticut/latticut/lang/Comparison")), Jvm.Cond.code ({ cls := "com/example/latticut/latticut/lang/Comparison", name := "negated", desc := "()Lcom/example/latticut/latticut/lang/Comparison;" } : Jvm.MethodName) prog_137_method_8_code (2 : Nat) (Option.some (Jvm.ClassFile.FieldType.object "com/example/latticut/latticut/lang/Comparison")), Jvm.Cond.code ({ cls := "com/example/latticut/latticut/lang/Comparison", name := "test", desc := "(JJ)Z" } : Jvm.MethodName) prog_137_method_6_code (5 : Nat) (Option.some Jvm.ClassFile.FieldType.boolean), Jvm.Cond.code ({ cls := "java/lang/Long", name := "compare", desc := "(JJ)I" } : Jvm.MethodName) jdk_35_method_42_code (4 : Nat) (Option.some Jvm.ClassFile.FieldType.int), Jvm.Cond.code ({ cls := "com/example/latticut/latticut/lang/Comparison", name := "holds", desc := "(I)Z" } : Jvm.MethodName) prog_137_method_9_code (2 : Nat) (Option.some Jvm.ClassFile.FieldType.boolean)]
set_option maxRecDepth 65536 in
theorem codes_eq : words1.filter isCode = codes1 := rfl
theorem w_codes : ∀ c ∈ words1.filter isCode, c.before args0 about1 = true := by
  rw [codes_eq]
  intro c hc
  simp only [codes1, List.mem_cons, List.not_mem_nil, or_false] at hc
  rcases hc with rfl | rfl | rfl | rfl | rfl | rfl
  · exact w_c0
  · exact w_c1
  · exact w_c2
  · exact w_c3
  · exact w_c4
  · exact w_c5
set_option maxRecDepth 65536 in
theorem w_t1 : (words1.take 24).all (fun c => isCode c || c.before args0 about1) = true := by decide +kernel
set_option maxRecDepth 65536 in
theorem w_t2 : ((words1.drop 24).take 24).all (fun c => isCode c || c.before args0 about1) = true := by decide +kernel
set_option maxRecDepth 65536 in
theorem w_t3 : ((words1.drop 24).drop 24).all (fun c => isCode c || c.before args0 about1) = true := by decide +kernel
theorem w_tables : (allAtoms (Jvm.Cond.code x code maxLocals ret :: tables_1)).before args0 about1 = true := by
  rw [allAtoms_all]
  show words1.all (fun c => c.before args0 about1) = true
  refine all_split ?_ w_codes
  rw [← List.take_append_drop 24 words1, List.all_append, w_t1, ← List.take_append_drop 24 (words1.drop 24), List.all_append, w_t2, w_t3]
  rfl
set_option maxRecDepth 65536 in
theorem w_case : (Jvm.Cond.and given_1 narrow_1).before args0 about1 = true := by decide +kernel
theorem w_applies : (headSpec (Jvm.Cond.code x code maxLocals ret :: tables_1) room_1).applies x e0.platform about1 = true :=
  (Spec.applies_iff w_frames).mpr ⟨w_running, w_runnable, w_alone, w_named, w_hears, w_ripe, w_room, w_tables⟩
theorem atStart : AtStart classFile x code maxLocals ret World_1 tables_1 room_1 Calls_1 rest_1 Pre_1 launch0 p0 e0 about1 theMethod args0 below0 :=
  ⟨lists_1, trivial, launch0.admits_env _ _ _, launch0.least_env, fairChoices_fair.cas, fairChoices_fair.clock, w_frames, w_args, w_heap, w_applies, trivial, trivial, w_case⟩
end start1
theorem witness_1 : WitnessClaimed_1 := ⟨start1.p0, start1.e0, start1.about1, start1.theMethod, start1.args0, start1.below0, start1.atStart⟩
end Jvm.Pilot.@@N@@
