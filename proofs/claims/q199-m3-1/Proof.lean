import JvmDerived
import JvmDerived.Pilot.@@N@@Statement
import JvmDerived.Pilot.@@N@@Code
set_option linter.unusedVariables false
set_option linter.unusedSimpArgs false
namespace Jvm.RoadKit
open Sem ClassFile Op Lib Jvm.Stand Jvm.Free Jvm.LawKit
section New
variable {p : Program} {l : Launch} {e : Env} {R : Room} {s : State} {m : MethodId} {args : Array Value} {below : List Frame} {meth : Method} {c : Code} {T : State} {locs : List Loc} {cells slots : Nat}
theorem retI (X : Stand p l e R s m args below meth c T locs cells slots) (hx : p.tables.exec = Jvm.exec) {pc : Nat} {Ls : Array Slot} {z : Int32} {rest : List Value} (hret : meth.sig.returnType = some .int) (hd : decode c.code pc = .ok (.ireturn, 1)) {fs : List Frame}
    (hl : ∀ (f : JFrame) (acts : List Action), f.method = m → f.locked = none → f.entered = [] → (doReturn e (T.setTop f) acts (some (.int z))).1 = T.setFrames fs) : Steps p.tables e below (T.setTop (mkF m pc Ls (.int z :: rest))) (T.setFrames fs) := by
  have hm' : T.vm.method? m = some meth := X.method'
  have hn : narrow .int (.int z) = .int z := rfl
  show Steps p.tables e below (T.setTop { method := m, pc := pc, locals := Ls, stack := _ :: rest, locked := none }) _
  jvm_step X.here [X.here.top, hx, hd, hm', hret, hn]
  first | (intro acts; rw [hl _ acts rfl rfl rfl]) | rw [hl _ _ rfl rfl rfl]
  exact Steps.refl _
end New
end Jvm.RoadKit
namespace Jvm.Pilot.@@N@@
open Jvm Jvm.ClassFile Sem Op Lib Jvm.Free Jvm.Stand Jvm.LawKit Jvm.RoadKit Bundle Jvm.Pilot.@@N@@.Jvm.D
theorem own_fld {Z : State} {args : Array Value} {t : Term} {C n d : String} {k : Int32} {x : Addr} (ht : t.eval args Z none [] Z = some (.ref x)) (h : (Jvm.Cond.eq (Term.field t C n d) (Term.int k)).value args Z none Z [] = some true) : Fld Z Z.heap x C n d (.int k) := by
  refine Fld.start ?_
  have e := fld_at (C := C) (n := n) (dd := d) ht
  obtain ⟨u, w, e1, e2, -, -⟩ := cmp_v (Or.inl h)
  rw [e] at e1
  have e3 : (Term.int k).eval args Z none [] Z = some (.int k) := Term.int_eval k
  cases e3.symm.trans e2
  have e4 : (Term.field t C n d).eval args Z none [] Z = some u := e.trans e1
  have h' := h
  cases u <;> simp [Jvm.Cond.value, e4, e3] at h'
  subst h'
  exact e1
theorem own_eqI {Z : State} {args : Array Value} {t : Term} {k : Int32} (h : (Jvm.Cond.eq t (Term.int k)).value args Z none Z [] = some true) : t.eval args Z none [] Z = some (.int k) := by
  obtain ⟨u, w, e1, e2, -, -⟩ := cmp_v (Or.inl h)
  have e3 : (Term.int k).eval args Z none [] Z = some (.int k) := Term.int_eval k
  cases e3.symm.trans e2
  have h' := h
  cases u <;> simp [Jvm.Cond.value, e1, e3] at h'
  subst h'
  exact e1
theorem own_maskHi (x m : Int32) (k : Nat) (hk : k ≤ 31) (hm : m.toBitVec.toNat = 2 ^ k - 1) : (x &&& m).toInt < ((2 ^ k : Nat) : Int) := by
  rw [c_mask x m k hk hm]; exact Int.emod_lt_of_pos _ (Int.natCast_pos.mpr (Nat.two_pow_pos k))
theorem own_maskLo (x m : Int32) (k : Nat) (hk : k ≤ 31) (hm : m.toBitVec.toNat = 2 ^ k - 1) : 0 ≤ (x &&& m).toInt := by
  rw [c_mask x m k hk hm]; exact Int.emod_nonneg _ (Int.natCast_ne_zero.mpr (Nat.ne_of_gt (Nat.two_pow_pos k)))
theorem own_remLo (x y : Int32) (hx : 0 ≤ x.toInt) (hy : 0 < y.toInt) : 0 ≤ (x % y).toInt := ((c_iremV x y).1 hx hy).1
theorem own_remHi (x y : Int32) (hx : 0 ≤ x.toInt) (hy : 0 < y.toInt) : (x % y).toInt < y.toInt := ((c_iremV x y).1 hx hy).2.1
theorem own_nf {s : State} {args : Array Value} {C : String} {z y : MethodName} (hsel : (Jvm.Cond.selects C z z).before args s = true) (e : z.cls = y.cls) : NotFace s y := fun r0 h0 => by
  obtain ⟨c2, r2, m2, -, -, q3, -, kP, hkP, hkPi⟩ := Cond.selects_spec hsel
  have a := findClass_of_methodNamed q3
  rw [e] at a
  have b : m2.cls = r0.cls := Option.some.inj (a.symm.trans (findClass_of_methodNamed h0))
  exact ⟨kP, b ▸ hkP, hkPi⟩
theorem own_privateBack {p : Program} {l : Launch} {e : Env} {R : Room} {s : State} {m : MethodId} {args : Array Value} {below : List Frame} {meth : Method} {c : Code} {T : State} {locs : List Loc} {cells slots : Nat} (X : Stand p l e R s m args below meth c T locs cells slots) (hexec : p.tables.exec = Jvm.exec) {own : String} {index : Nat} {y : MethodName} {bytes : ByteArray} {maxL : Nat} {ret : Option FieldType}
    (hown : s.vm.findClass own = some m.cls) (hlink : (Jvm.Cond.methodLink own index y).before args s = true) (hinst : (Jvm.Cond.instanceMethod y).before args s = true) (hnf : NotFace s y)
    (hpriv : s.PrivateAt y) (hcode : (Jvm.Cond.code y bytes maxL ret).before args s = true) (hy : y.cls ≠ "java/lang/invoke/MethodHandle" ∧ y.cls ≠ "java/lang/invoke/VarHandle")
    {W : Nat} {Pre : Pt → Array Value → Prop} {Post : Pt → Array Value → Option Value → Pt → Prop} (hK : Back l R p e below s args y 3 W Pre Post)
    {g : JFrame} (hg : g.method = m) (hsize : g.locals.size = c.maxLocals) {s₀ : State} (hcome : Steps p.tables e below s₀ (T.setTop g)) {a : Addr} {cell : Cell} (hcell : T.heap[a]? = some cell) (hobj : ∀ q, cell.vm ≠ .statics q)
    {argsL rest : List Value} (hlen : ∀ sig, parseMethodDescriptor y.desc = some sig → argsL.length = sig.parameters.length)
    (hstack : g.stack = argsL.reverse ++ .ref a :: rest) (hW : 2 * g.monitorRoom + (rest.map fun v => v.category).sum ≤ W) (hdg : decode c.code g.pc = .ok (.invokevirtual index, 3))
    (hpre : ∀ vm₁, s.WarmedH vm₁ → Pre ⟨T.setVm vm₁, locs, cells, slots⟩ (.ref a :: argsL).toArray) :
    ∃ (v : Option Value) (vm₁ : Vm) (B : Pt), s.WarmedH vm₁ ∧ Stand p l e R s m args below meth c B.U B.locs B.cells B.slots ∧ Post ⟨T.setVm vm₁, locs, cells, slots⟩ (.ref a :: argsL).toArray v B ∧
      Steps p.tables e below s₀ (B.U.setTop { g with pc := g.pc + 3, stack := v.toList ++ rest }) := by
  obtain ⟨mk, methM, hnamed, hmethM, hstM, habM⟩ := Cond.instanceMethod_spec hinst
  obtain ⟨_, _, hmeth2, -, -, -, -, -, -, hsigM⟩ := Cond.code_spec hnamed hcode
  cases hmethM.symm.trans hmeth2
  obtain ⟨kP, hkP, hkPi⟩ := hnf mk hnamed
  have hselP : selectMethod e.platform s.vm cell.cls mk = .method mk := selectMethod_private hmethM (hpriv mk methM hnamed hmethM)
  obtain ⟨vm₁, X₁, hstep₁⟩ := X.invokevirtual hexec hown hlink hnamed hmethM hstM hkP hkPi hy (a := a) (cell := cell) hcell hobj hselP hmethM habM hkP hkPi (g := g) hg (argsL := argsL) (rest := rest) (hlen _ hsigM) hstack hdg
  obtain ⟨v, B, X2, hpost, hsteps⟩ := hK m meth c ⟨T.setVm vm₁, locs, cells, slots⟩ { g with stack := rest } (.invokevirtual index) mk (.ref a :: argsL).toArray X₁ hg hsize hdg hW (X₁.named hnamed) (hpre vm₁ X₁.warmed)
  exact ⟨v, vm₁, B, X₁.warmed, X2, hpost, (hcome.trans (hstep₁ _ fun acts => by rw [doInvoke_state]; exact Steps.refl _)).trans hsteps⟩
theorem own_staKeep {Z : State} {h h' : Heap} {C n d : String} {v : Value} {ws : List Addr} (F : Sta Z h C n d v) (K : Keep h h' ws) (hn : ∀ x ∈ ws, ∀ cell : Cell, h[x]? = some cell → cell.vm.isStatics = false) : Sta Z h' C n d v := by
  obtain ⟨cf, i, k, f, st, cell, h1, h2, h3, h4, h5, h6, h7⟩ := F
  exact ⟨cf, i, k, f, st, cell, h1, h2, h3, h4, K.2.1 _ _ h5 (fun q => by rw [hn st q cell h5] at h6; cases h6), h6, h7⟩
theorem ef_0 (m : MethodId) (x0 : Int32) : entryFrame m #[(.int x0)] maxLocals = mkF m 0 #[.val (.int x0), .unset, .unset, .unset, .unset, .unset] [] := by first | (simp [entryFrame, mkF, argsToLocals, Value.category, maxLocals]; done) | rfl
theorem pn_0 : plainName "com/example/grantd/grantd/account/RoleChangesAnyClientPinLaw" = true := by first | (simp [plainName, overriddenIn]; done) | decide +kernel
theorem own_lt3 (e : Int32) (h0 : 0 ≤ e.toInt) (h1 : e.toInt < 3) : e = (0 : Int32) ∨ e = (1 : Int32) ∨ e = (2 : Int32) := by
  have h2 : e.toInt = 0 ∨ e.toInt = 1 ∨ e.toInt = 2 := by omega
  rcases h2 with h | h | h
  · exact (Or.inl (Int32.toInt_inj.mp (h.trans (by decide))))
  · exact (Or.inr (Or.inl (Int32.toInt_inj.mp (h.trans (by decide)))))
  · exact (Or.inr (Or.inr (Int32.toInt_inj.mp (h.trans (by decide)))))
theorem d_prog_5_method_7_0 : decode prog_5_method_7_code 0 = .ok (.aload_n 0, 1) := by decide +kernel
theorem d_prog_5_method_7_1 : decode prog_5_method_7_code 1 = .ok (.getstatic 10, 3) := by decide +kernel
theorem d_prog_5_method_7_4 : decode prog_5_method_7_code 4 = .ok (.if_acmp .ne 7, 3) := by decide +kernel
theorem d_prog_5_method_7_11 : decode prog_5_method_7_code 11 = .ok (.iconst 0, 1) := by decide +kernel
theorem d_prog_5_method_7_12 : decode prog_5_method_7_code 12 = .ok (.ireturn, 1) := by decide +kernel
theorem ef_1 (m : MethodId) (x0 : Addr) : entryFrame m #[(.ref x0)] 1 = mkF m 0 #[.val (.ref x0)] [] := by first | (simp [entryFrame, mkF, argsToLocals, Value.category, maxLocals]; done) | rfl
theorem pn_1 : plainName "com/example/grantd/grantd/account/Role" = true := by first | (simp [plainName, overriddenIn]; done) | decide +kernel
def Q1 (Z : State) (a1 : Addr) (a2 : Addr) (h0 : Heap) (n0 : Nat) (v : Option Value) (h : Heap) (L : List Loc) : Prop := v = some (.int (0 : Int32)) ∧ Fr n0 L ∧ h = h0
set_option maxRecDepth 65536 in
set_option maxHeartbeats 40000000 in
theorem rm1 (l : Launch) (Z : State) (a0 : Array Value) (hw : ∀ d ∈ tables_1, d.before a0 Z = true) (ws : List Jvm.Cond) (a1 : Addr) (a2 : Addr) (h0 : Heap) (n0 : Nat) (Z0 : n0 ≤ h0.size) (S_ADMIN : Sta Z h0 "com/example/grantd/grantd/account/Role" "ADMIN" "Lcom/example/grantd/grantd/account/Role;" (.ref a2)) (ne_a1_a2 : a1 ≠ a2) :
    MetFree l (⟨"com/example/grantd/grantd/account/Role", "changesAnyClient", "()Z"⟩ : MethodName) (head1 (Jvm.Cond.code (⟨"com/example/grantd/grantd/account/Role", "changesAnyClient", "()Z"⟩ : MethodName) prog_5_method_7_code 1 (some .boolean) :: ws) ({ frames := 0, cells := 0, slots := 0, locals := 0 } : Room)) (fun a U => a = #[(.ref a1)] ∧ Z.Warmed39 U.vm ∧ U.heap = h0) (fun _ _ _ _ _ => True) (fun _ U o U' => ∃ v L, o = .returned v ∧ Q1 Z a1 a2 h0 n0 v U'.heap L ∧ FrameEnd U o U' L ({ frames := 0, cells := 0, slots := 0, locals := 0 } : Room).cells ({ frames := 0, cells := 0, slots := 0, locals := 0 } : Room).slots) := by
  refine MetFree.of_bodySF (plainFor_of_name pn_1) hisR ?_
  intro p e s m args below meth c s₁ Bd hml0 hP hK
  obtain ⟨rfl, hZ, hh⟩ := hP
  have hx := Bd.exec
  have hby := Bd.bytes
  have hml : c.maxLocals = 1 := hml0
  have hown : s.vm.findClass "com/example/grantd/grantd/account/Role" = some m.cls := findClass_of_methodNamed Bd.named
  have hnm := (name_of_methodNamed Bd.named Bd.method).1
  have X0 : Stand p l e ({ frames := 0, cells := 0, slots := 0, locals := 0 } : Room) s m #[(.ref a1)] below meth c s₁ [] 0 0 := Stand.of_body Bd
  have e0 : s₁.heap = h0 := by rw [← hh, Bd.state]; rfl
  have N0 := Fr.nil n0
  have pre0 : ∀ t, Steps p.tables e below (s₁.setTop (mkF m 0 #[.val (.ref a1)] [])) t → Steps p.tables e below (s₁.setTop (entryFrame m #[(.ref a1)] 1)) t := fun t k => castTop (ef_1 m a1) k
  obtain ⟨T3, X3, e3, st3⟩ := getS2 X0 hx hZ hown (host := "") (Or.inl (hw _ (List.mem_of_getElem? (i := 16) rfl))) Via.refl e0 S_ADMIN (g := (mkF m 1 #[.val (.ref a1)] [(.ref a1)])) rfl (hb hby d_prog_5_method_7_1)
  have pre4 : ∀ t, Steps p.tables e below (T3.setTop (mkF m 12 #[.val (.ref a1)] [(.int (0 : Int32))])) t → Steps p.tables e below (s₁.setTop (entryFrame m #[(.ref a1)] 1)) t := fun t kk => pre0 t (by
    show Steps p.tables e below (s₁.setTop (mkF m 0 #[.val (.ref a1)] [])) _
    refine XS.aloadN X0.here hx rfl (hb hby d_prog_5_method_7_0) rfl rfl ?_
    show Steps p.tables e below (s₁.setTop (mkF m 1 #[.val (.ref a1)] [(.ref a1)])) _
    refine st3 _ ?_
    show Steps p.tables e below (T3.setTop (mkF m 4 #[.val (.ref a1)] [(.ref a2), (.ref a1)])) _
    refine Jvm.RoadKit.acmp (g := (mkF m 4 #[.val (.ref a1)] [(.ref a2), (.ref a1)])) X3 hx rfl rfl rfl (pc0 := 4) (pc' := 11) (same := false) rfl (hb hby d_prog_5_method_7_4) rfl (decide_eq_false fun q => ne_a1_a2 (Value.ref.inj q)) (by decide) (by decide) ?_
    show Steps p.tables e below (T3.setTop (mkF m 11 #[.val (.ref a1)] [])) _
    refine XS.iconst X3.here hx rfl (hb hby d_prog_5_method_7_11) ?_
    exact kk)
  obtain ⟨fs, hr, hrun, hended, hW, hsame⟩ := X3.leave (v := some (.int (0 : Int32))) (fun h => by rw [Bd.returns] at h; cases h)
  refine ⟨_, _, pre4 _ ?_, hrun, hended, _, _, rfl, ?_, ⟨_, rfl⟩, hW, hsame.mono (by decide) (by decide)⟩
  · exact retN X3 hx (t := .boolean) Bd.returns (by simp) (hb hby d_prog_5_method_7_12) hr
  · show Q1 Z a1 a2 h0 n0 _ T3.heap _
    rw [e3]
    exact ⟨rfl, N0, rfl⟩
theorem pd_0 : parseMethodDescriptor "()Z" = some ⟨[], some .boolean⟩ := by decide +kernel
theorem d_prog_5_method_7_7 : decode prog_5_method_7_code 7 = .ok (.iconst 1, 1) := by decide +kernel
theorem d_prog_5_method_7_8 : decode prog_5_method_7_code 8 = .ok (.goto 4, 3) := by decide +kernel
def Q2 (Z : State) (a1 : Addr) (h0 : Heap) (n0 : Nat) (v : Option Value) (h : Heap) (L : List Loc) : Prop := v = some (.int (1 : Int32)) ∧ Fr n0 L ∧ h = h0
set_option maxRecDepth 65536 in
set_option maxHeartbeats 40000000 in
theorem rm2 (l : Launch) (Z : State) (a0 : Array Value) (hw : ∀ d ∈ tables_1, d.before a0 Z = true) (ws : List Jvm.Cond) (a1 : Addr) (h0 : Heap) (n0 : Nat) (Z0 : n0 ≤ h0.size) (S_ADMIN : Sta Z h0 "com/example/grantd/grantd/account/Role" "ADMIN" "Lcom/example/grantd/grantd/account/Role;" (.ref a1)) :
    MetFree l (⟨"com/example/grantd/grantd/account/Role", "changesAnyClient", "()Z"⟩ : MethodName) (head1 (Jvm.Cond.code (⟨"com/example/grantd/grantd/account/Role", "changesAnyClient", "()Z"⟩ : MethodName) prog_5_method_7_code 1 (some .boolean) :: ws) ({ frames := 0, cells := 0, slots := 0, locals := 0 } : Room)) (fun a U => a = #[(.ref a1)] ∧ Z.Warmed39 U.vm ∧ U.heap = h0) (fun _ _ _ _ _ => True) (fun _ U o U' => ∃ v L, o = .returned v ∧ Q2 Z a1 h0 n0 v U'.heap L ∧ FrameEnd U o U' L ({ frames := 0, cells := 0, slots := 0, locals := 0 } : Room).cells ({ frames := 0, cells := 0, slots := 0, locals := 0 } : Room).slots) := by
  refine MetFree.of_bodySF (plainFor_of_name pn_1) hisR ?_
  intro p e s m args below meth c s₁ Bd hml0 hP hK
  obtain ⟨rfl, hZ, hh⟩ := hP
  have hx := Bd.exec
  have hby := Bd.bytes
  have hml : c.maxLocals = 1 := hml0
  have hown : s.vm.findClass "com/example/grantd/grantd/account/Role" = some m.cls := findClass_of_methodNamed Bd.named
  have hnm := (name_of_methodNamed Bd.named Bd.method).1
  have X0 : Stand p l e ({ frames := 0, cells := 0, slots := 0, locals := 0 } : Room) s m #[(.ref a1)] below meth c s₁ [] 0 0 := Stand.of_body Bd
  have e0 : s₁.heap = h0 := by rw [← hh, Bd.state]; rfl
  have N0 := Fr.nil n0
  have pre0 : ∀ t, Steps p.tables e below (s₁.setTop (mkF m 0 #[.val (.ref a1)] [])) t → Steps p.tables e below (s₁.setTop (entryFrame m #[(.ref a1)] 1)) t := fun t k => castTop (ef_1 m a1) k
  obtain ⟨T2, X2, e2, st2⟩ := getS2 X0 hx hZ hown (host := "") (Or.inl (hw _ (List.mem_of_getElem? (i := 16) rfl))) Via.refl e0 S_ADMIN (g := (mkF m 1 #[.val (.ref a1)] [(.ref a1)])) rfl (hb hby d_prog_5_method_7_1)
  have pre3 : ∀ t, Steps p.tables e below (T2.setTop (mkF m 12 #[.val (.ref a1)] [(.int (1 : Int32))])) t → Steps p.tables e below (s₁.setTop (entryFrame m #[(.ref a1)] 1)) t := fun t kk => pre0 t (by
    show Steps p.tables e below (s₁.setTop (mkF m 0 #[.val (.ref a1)] [])) _
    refine XS.aloadN X0.here hx rfl (hb hby d_prog_5_method_7_0) rfl rfl ?_
    show Steps p.tables e below (s₁.setTop (mkF m 1 #[.val (.ref a1)] [(.ref a1)])) _
    refine st2 _ ?_
    show Steps p.tables e below (T2.setTop (mkF m 4 #[.val (.ref a1)] [(.ref a1), (.ref a1)])) _
    refine Jvm.RoadKit.acmp (g := (mkF m 4 #[.val (.ref a1)] [(.ref a1), (.ref a1)])) X2 hx rfl rfl rfl (pc0 := 4) (pc' := 7) (same := true) rfl (hb hby d_prog_5_method_7_4) rfl (decide_eq_true rfl) (by decide) (by decide) ?_
    show Steps p.tables e below (T2.setTop (mkF m 7 #[.val (.ref a1)] [])) _
    refine XS.iconst X2.here hx rfl (hb hby d_prog_5_method_7_7) ?_
    show Steps p.tables e below (T2.setTop (mkF m 8 #[.val (.ref a1)] [(.int (1 : Int32))])) _
    refine XS.goto X2.here hx rfl (pc0 := 8) (pc' := 12) rfl (hb hby d_prog_5_method_7_8) (by decide) (by decide) ?_
    exact kk)
  obtain ⟨fs, hr, hrun, hended, hW, hsame⟩ := X2.leave (v := some (.int (1 : Int32))) (fun h => by rw [Bd.returns] at h; cases h)
  refine ⟨_, _, pre3 _ ?_, hrun, hended, _, _, rfl, ?_, ⟨_, rfl⟩, hW, hsame.mono (by decide) (by decide)⟩
  · exact retN X2 hx (t := .boolean) Bd.returns (by simp) (hb hby d_prog_5_method_7_12) hr
  · show Q2 Z a1 h0 n0 _ T2.heap _
    rw [e2]
    exact ⟨rfl, N0, rfl⟩
theorem d_prog_5_method_6_0 : decode prog_5_method_6_code 0 = .ok (.aload_n 0, 1) := by decide +kernel
theorem d_prog_5_method_6_1 : decode prog_5_method_6_code 1 = .ok (.getstatic 7, 3) := by decide +kernel
theorem d_prog_5_method_6_4 : decode prog_5_method_6_code 4 = .ok (.if_acmp .eq 10, 3) := by decide +kernel
theorem d_prog_5_method_6_7 : decode prog_5_method_6_code 7 = .ok (.aload_n 0, 1) := by decide +kernel
theorem d_prog_5_method_6_8 : decode prog_5_method_6_code 8 = .ok (.getstatic 10, 3) := by decide +kernel
theorem d_prog_5_method_6_11 : decode prog_5_method_6_code 11 = .ok (.if_acmp .ne 7, 3) := by decide +kernel
theorem d_prog_5_method_6_14 : decode prog_5_method_6_code 14 = .ok (.iconst 1, 1) := by decide +kernel
theorem d_prog_5_method_6_15 : decode prog_5_method_6_code 15 = .ok (.goto 4, 3) := by decide +kernel
theorem d_prog_5_method_6_19 : decode prog_5_method_6_code 19 = .ok (.ireturn, 1) := by decide +kernel
def Q3 (Z : State) (a1 : Addr) (a2 : Addr) (h0 : Heap) (n0 : Nat) (v : Option Value) (h : Heap) (L : List Loc) : Prop := v = some (.int (1 : Int32)) ∧ Fr n0 L ∧ h = h0
set_option maxRecDepth 65536 in
set_option maxHeartbeats 40000000 in
theorem rm3 (l : Launch) (Z : State) (a0 : Array Value) (hw : ∀ d ∈ tables_1, d.before a0 Z = true) (ws : List Jvm.Cond) (a1 : Addr) (a2 : Addr) (h0 : Heap) (n0 : Nat) (Z0 : n0 ≤ h0.size) (S_REVIEWER : Sta Z h0 "com/example/grantd/grantd/account/Role" "REVIEWER" "Lcom/example/grantd/grantd/account/Role;" (.ref a2)) (ne_a1_a2 : a1 ≠ a2) (S_ADMIN : Sta Z h0 "com/example/grantd/grantd/account/Role" "ADMIN" "Lcom/example/grantd/grantd/account/Role;" (.ref a1)) :
    MetFree l (⟨"com/example/grantd/grantd/account/Role", "reviewsClients", "()Z"⟩ : MethodName) (head1 (Jvm.Cond.code (⟨"com/example/grantd/grantd/account/Role", "reviewsClients", "()Z"⟩ : MethodName) prog_5_method_6_code 1 (some .boolean) :: ws) ({ frames := 0, cells := 0, slots := 0, locals := 0 } : Room)) (fun a U => a = #[(.ref a1)] ∧ Z.Warmed39 U.vm ∧ U.heap = h0) (fun _ _ _ _ _ => True) (fun _ U o U' => ∃ v L, o = .returned v ∧ Q3 Z a1 a2 h0 n0 v U'.heap L ∧ FrameEnd U o U' L ({ frames := 0, cells := 0, slots := 0, locals := 0 } : Room).cells ({ frames := 0, cells := 0, slots := 0, locals := 0 } : Room).slots) := by
  refine MetFree.of_bodySF (plainFor_of_name pn_1) hisR ?_
  intro p e s m args below meth c s₁ Bd hml0 hP hK
  obtain ⟨rfl, hZ, hh⟩ := hP
  have hx := Bd.exec
  have hby := Bd.bytes
  have hml : c.maxLocals = 1 := hml0
  have hown : s.vm.findClass "com/example/grantd/grantd/account/Role" = some m.cls := findClass_of_methodNamed Bd.named
  have hnm := (name_of_methodNamed Bd.named Bd.method).1
  have X0 : Stand p l e ({ frames := 0, cells := 0, slots := 0, locals := 0 } : Room) s m #[(.ref a1)] below meth c s₁ [] 0 0 := Stand.of_body Bd
  have e0 : s₁.heap = h0 := by rw [← hh, Bd.state]; rfl
  have N0 := Fr.nil n0
  have pre0 : ∀ t, Steps p.tables e below (s₁.setTop (mkF m 0 #[.val (.ref a1)] [])) t → Steps p.tables e below (s₁.setTop (entryFrame m #[(.ref a1)] 1)) t := fun t k => castTop (ef_1 m a1) k
  obtain ⟨T3, X3, e3, st3⟩ := getS2 X0 hx hZ hown (host := "") (Or.inl (hw _ (List.mem_of_getElem? (i := 22) rfl))) Via.refl e0 S_REVIEWER (g := (mkF m 1 #[.val (.ref a1)] [(.ref a1)])) rfl (hb hby d_prog_5_method_6_1)
  obtain ⟨T4, X4, e4, st4⟩ := getS2 X3 hx hZ hown (host := "") (Or.inl (hw _ (List.mem_of_getElem? (i := 16) rfl))) Via.refl e3 S_ADMIN (g := (mkF m 8 #[.val (.ref a1)] [(.ref a1)])) rfl (hb hby d_prog_5_method_6_8)
  have pre5 : ∀ t, Steps p.tables e below (T4.setTop (mkF m 19 #[.val (.ref a1)] [(.int (1 : Int32))])) t → Steps p.tables e below (s₁.setTop (entryFrame m #[(.ref a1)] 1)) t := fun t kk => pre0 t (by
    show Steps p.tables e below (s₁.setTop (mkF m 0 #[.val (.ref a1)] [])) _
    refine XS.aloadN X0.here hx rfl (hb hby d_prog_5_method_6_0) rfl rfl ?_
    show Steps p.tables e below (s₁.setTop (mkF m 1 #[.val (.ref a1)] [(.ref a1)])) _
    refine st3 _ ?_
    show Steps p.tables e below (T3.setTop (mkF m 4 #[.val (.ref a1)] [(.ref a2), (.ref a1)])) _
    refine Jvm.RoadKit.acmp (g := (mkF m 4 #[.val (.ref a1)] [(.ref a2), (.ref a1)])) X3 hx rfl rfl rfl (pc0 := 4) (pc' := 7) (same := false) rfl (hb hby d_prog_5_method_6_4) rfl (decide_eq_false fun q => ne_a1_a2 (Value.ref.inj q)) (by decide) (by decide) ?_
    show Steps p.tables e below (T3.setTop (mkF m 7 #[.val (.ref a1)] [])) _
    refine XS.aloadN X3.here hx rfl (hb hby d_prog_5_method_6_7) rfl rfl ?_
    show Steps p.tables e below (T3.setTop (mkF m 8 #[.val (.ref a1)] [(.ref a1)])) _
    refine st4 _ ?_
    show Steps p.tables e below (T4.setTop (mkF m 11 #[.val (.ref a1)] [(.ref a1), (.ref a1)])) _
    refine Jvm.RoadKit.acmp (g := (mkF m 11 #[.val (.ref a1)] [(.ref a1), (.ref a1)])) X4 hx rfl rfl rfl (pc0 := 11) (pc' := 14) (same := true) rfl (hb hby d_prog_5_method_6_11) rfl (decide_eq_true rfl) (by decide) (by decide) ?_
    show Steps p.tables e below (T4.setTop (mkF m 14 #[.val (.ref a1)] [])) _
    refine XS.iconst X4.here hx rfl (hb hby d_prog_5_method_6_14) ?_
    show Steps p.tables e below (T4.setTop (mkF m 15 #[.val (.ref a1)] [(.int (1 : Int32))])) _
    refine XS.goto X4.here hx rfl (pc0 := 15) (pc' := 19) rfl (hb hby d_prog_5_method_6_15) (by decide) (by decide) ?_
    exact kk)
  obtain ⟨fs, hr, hrun, hended, hW, hsame⟩ := X4.leave (v := some (.int (1 : Int32))) (fun h => by rw [Bd.returns] at h; cases h)
  refine ⟨_, _, pre5 _ ?_, hrun, hended, _, _, rfl, ?_, ⟨_, rfl⟩, hW, hsame.mono (by decide) (by decide)⟩
  · exact retN X4 hx (t := .boolean) Bd.returns (by simp) (hb hby d_prog_5_method_6_19) hr
  · show Q3 Z a1 a2 h0 n0 _ T4.heap _
    rw [e4]
    exact ⟨rfl, N0, rfl⟩
def Q0 (Z : State) (h0 : Heap) (n0 : Nat) (v : Option Value) (h : Heap) (L : List Loc) : Prop := v = some (.int (1 : Int32)) ∧ Fr n0 L
set_option maxRecDepth 65536 in
set_option maxHeartbeats 400000000 in
theorem rm0 (l : Launch) (Z : State) (a0 : Array Value) (hw : ∀ d ∈ tables_1, d.before a0 Z = true) (ws : List Jvm.Cond) (x0 : Int32) (w_USER : Addr) (w_REVIEWER : Addr) (w_ADMIN : Addr) (h0 : Heap) (n0 : Nat) (Z0 : n0 ≤ h0.size) (S_w_USER : Sta Z h0 "com/example/grantd/grantd/account/Role" "USER" "Lcom/example/grantd/grantd/account/Role;" (.ref w_USER)) (E_w_USER : Exa Z h0 w_USER "com/example/grantd/grantd/account/Role") (S_w_REVIEWER : Sta Z h0 "com/example/grantd/grantd/account/Role" "REVIEWER" "Lcom/example/grantd/grantd/account/Role;" (.ref w_REVIEWER)) (E_w_REVIEWER : Exa Z h0 w_REVIEWER "com/example/grantd/grantd/account/Role") (S_w_ADMIN : Sta Z h0 "com/example/grantd/grantd/account/Role" "ADMIN" "Lcom/example/grantd/grantd/account/Role;" (.ref w_ADMIN)) (E_w_ADMIN : Exa Z h0 w_ADMIN "com/example/grantd/grantd/account/Role") (F_ordinal_w_USER : Fld Z h0 w_USER "java/lang/Enum" "ordinal" "I" (.int (0 : Int32))) (F_ordinal_w_ADMIN : Fld Z h0 w_ADMIN "java/lang/Enum" "ordinal" "I" (.int (2 : Int32))) (F_ordinal_w_REVIEWER : Fld Z h0 w_REVIEWER "java/lang/Enum" "ordinal" "I" (.int (1 : Int32))) :
    MetFree l x (head1 (Jvm.Cond.code x code maxLocals ret :: ws) room_1) (fun a U => a = #[(.int x0)] ∧ Z.Warmed39 U.vm ∧ U.heap = h0) (fun _ _ _ _ _ => True) (fun _ U o U' => ∃ v L, o = .returned v ∧ Q0 Z h0 n0 v U'.heap L ∧ FrameEnd U o U' L room_1.cells room_1.slots) := by
  refine MetFree.of_bodySF (plainFor_of_name pn_0) hisR ?_
  intro p e s m args below meth c s₁ Bd hml0 hP hK
  obtain ⟨rfl, hZ, hh⟩ := hP
  have hx := Bd.exec
  have hby := Bd.bytes
  have hml : c.maxLocals = 6 := hml0
  have hown : s.vm.findClass "com/example/grantd/grantd/account/RoleChangesAnyClientPinLaw" = some m.cls := findClass_of_methodNamed Bd.named
  have hnm := (name_of_methodNamed Bd.named Bd.method).1
  have X0 : Stand p l e room_1 s m #[(.int x0)] below meth c s₁ [] 0 0 := Stand.of_body Bd
  have e0 : s₁.heap = h0 := by rw [← hh, Bd.state]; rfl
  have N0 := Fr.nil n0
  have pre0 : ∀ t, Steps p.tables e below (s₁.setTop (mkF m 0 #[.val (.int x0), .unset, .unset, .unset, .unset, .unset] [])) t → Steps p.tables e below (s₁.setTop (entryFrame m #[(.int x0)] maxLocals)) t := fun t k => castTop (ef_0 m (x0)) k
  obtain ⟨T11, h11, k11, X11, e11, E11, A11, O11, st11⟩ := newR X0 hx hZ hown (hw _ (List.mem_of_getElem? (i := 0) rfl)) (hw _ (List.mem_of_getElem? (i := 1) rfl)) e0 (g := (mkF m 1 #[.val (.int x0), .unset, .unset, .unset, .unset, .unset] [(.int (3 : Int32))])) rfl (hb hby at_1) rfl (by decide) (cap := 3) (by decide) (by decide) (by decide) (by decide)
  obtain ⟨b11, g11⟩ : ∃ z, z = h0.size := ⟨_, rfl⟩
  rw [← g11] at A11 st11
  have V11 : Arv Z h11 b11 k11 (.object "com/example/grantd/grantd/account/Role") (3 : Int32) [.null, .null, .null] .null := (Arv.new A11 (by decide)).pad (pad_rep [] .null 3)
  have G11 : n0 ≤ b11 := (Nat.le_trans Z0 (Nat.le_of_eq g11.symm))
  have Z11 : n0 ≤ h11.size := Nat.le_trans Z0 E11.1
  have f12 : Sta Z h11 "com/example/grantd/grantd/account/Role" "USER" "Lcom/example/grantd/grantd/account/Role;" (.ref w_USER) := (S_w_USER.ext E11)
  obtain ⟨T13, X13, e13, st13⟩ := getS2 X11 hx hZ hown (host := "") (Or.inl (hw _ (List.mem_of_getElem? (i := 2) rfl))) Via.refl e11 f12 (g := (mkF m 6 #[.val (.int x0), .unset, .unset, .unset, .unset, .unset] [(.int (0 : Int32)), (.ref b11), (.ref b11)])) rfl (hb hby at_6)
  have f14 : Exa Z h11 w_USER "com/example/grantd/grantd/account/Role" := (E_w_USER.ext E11)
  obtain ⟨clo15, Aro15, qo15, So15, No15', Ho15, Gfo15⟩ := V11
  have hino15 : ¬ ((0 : Int32) < 0 ∨ clo15.slots.size ≤ ((0 : Int32)).toNatClampNeg) := inb_of So15 ⟨by decide, by decide⟩
  obtain ⟨T16, h16, X16, e16, W16, st16⟩ := stR X13 hx hZ e13 Aro15 (j := (0 : Int32)) hino15 rfl (Sto.ofV Aro15 qo15 O11 (Ins.self f14)) (g := (mkF m 9 #[.val (.int x0), .unset, .unset, .unset, .unset, .unset] [(.ref w_USER), (.int (0 : Int32)), (.ref b11), (.ref b11)])) rfl rfl (hb hby at_9)
  have N16 := Fr.snoc X16 N0 G11
  have Z16 : n0 ≤ h16.size := Nat.le_trans Z11 (Nat.le_of_eq W16.size.symm)
  have V16 : Arv Z h16 b11 k11 (.object "com/example/grantd/grantd/account/Role") (3 : Int32) [(.ref w_USER), .null, .null] .null := Arv.set Aro15 qo15 So15 No15' Ho15 Gfo15 rfl W16 0 rfl (Nat.le_of_ble_eq_true rfl)
  have f17 : Sta Z h16 "com/example/grantd/grantd/account/Role" "REVIEWER" "Lcom/example/grantd/grantd/account/Role;" (.ref w_REVIEWER) := ((S_w_REVIEWER.ext E11).wr W16)
  obtain ⟨T18, X18, e18, st18⟩ := getS2 X16 hx hZ hown (host := "") (Or.inl (hw _ (List.mem_of_getElem? (i := 6) rfl))) Via.refl e16 f17 (g := (mkF m 12 #[.val (.int x0), .unset, .unset, .unset, .unset, .unset] [(.int (1 : Int32)), (.ref b11), (.ref b11)])) rfl (hb hby at_12)
  have f19 : Exa Z h16 w_REVIEWER "com/example/grantd/grantd/account/Role" := ((E_w_REVIEWER.ext E11).wr W16)
  obtain ⟨clo20, Aro20, qo20, So20, No20', Ho20, Gfo20⟩ := V16
  have hino20 : ¬ ((1 : Int32) < 0 ∨ clo20.slots.size ≤ ((1 : Int32)).toNatClampNeg) := inb_of So20 ⟨by decide, by decide⟩
  obtain ⟨T21, h21, X21, e21, W21, st21⟩ := stR X18 hx hZ e18 Aro20 (j := (1 : Int32)) hino20 rfl (Sto.ofV Aro20 qo20 O11 (Ins.self f19)) (g := (mkF m 15 #[.val (.int x0), .unset, .unset, .unset, .unset, .unset] [(.ref w_REVIEWER), (.int (1 : Int32)), (.ref b11), (.ref b11)])) rfl rfl (hb hby at_15)
  have N21 := Fr.snoc X21 N16 G11
  have Z21 : n0 ≤ h21.size := Nat.le_trans Z16 (Nat.le_of_eq W21.size.symm)
  have V21 : Arv Z h21 b11 k11 (.object "com/example/grantd/grantd/account/Role") (3 : Int32) [(.ref w_USER), (.ref w_REVIEWER), .null] .null := Arv.set Aro20 qo20 So20 No20' Ho20 Gfo20 rfl W21 1 rfl (Nat.le_of_ble_eq_true rfl)
  have f22 : Sta Z h21 "com/example/grantd/grantd/account/Role" "ADMIN" "Lcom/example/grantd/grantd/account/Role;" (.ref w_ADMIN) := (((S_w_ADMIN.ext E11).wr W16).wr W21)
  obtain ⟨T23, X23, e23, st23⟩ := getS2 X21 hx hZ hown (host := "") (Or.inl (hw _ (List.mem_of_getElem? (i := 8) rfl))) Via.refl e21 f22 (g := (mkF m 18 #[.val (.int x0), .unset, .unset, .unset, .unset, .unset] [(.int (2 : Int32)), (.ref b11), (.ref b11)])) rfl (hb hby at_18)
  have f24 : Exa Z h21 w_ADMIN "com/example/grantd/grantd/account/Role" := (((E_w_ADMIN.ext E11).wr W16).wr W21)
  obtain ⟨clo25, Aro25, qo25, So25, No25', Ho25, Gfo25⟩ := V21
  have hino25 : ¬ ((2 : Int32) < 0 ∨ clo25.slots.size ≤ ((2 : Int32)).toNatClampNeg) := inb_of So25 ⟨by decide, by decide⟩
  obtain ⟨T26, h26, X26, e26, W26, st26⟩ := stR X23 hx hZ e23 Aro25 (j := (2 : Int32)) hino25 rfl (Sto.ofV Aro25 qo25 O11 (Ins.self f24)) (g := (mkF m 21 #[.val (.int x0), .unset, .unset, .unset, .unset, .unset] [(.ref w_ADMIN), (.int (2 : Int32)), (.ref b11), (.ref b11)])) rfl rfl (hb hby at_21)
  have N26 := Fr.snoc X26 N21 G11
  have Z26 : n0 ≤ h26.size := Nat.le_trans Z21 (Nat.le_of_eq W26.size.symm)
  have V26 : Arv Z h26 b11 k11 (.object "com/example/grantd/grantd/account/Role") (3 : Int32) [(.ref w_USER), (.ref w_REVIEWER), (.ref w_ADMIN)] .null := Arv.set Aro25 qo25 So25 No25' Ho25 Gfo25 rfl W26 2 rfl (Nat.le_of_ble_eq_true rfl)
  have pre27 : ∀ t, Steps p.tables e below (T26.setTop (mkF m 29 #[.val (.int x0), .val (.ref b11), .unset, .unset, .unset, .unset] [(.int ((x0 &&& (2147483647 : Int32)) % (3 : Int32)))])) t → Steps p.tables e below (s₁.setTop (entryFrame m #[(.int x0)] maxLocals)) t := fun t kk => pre0 t (by
    show Steps p.tables e below (s₁.setTop (mkF m 0 #[.val (.int x0), .unset, .unset, .unset, .unset, .unset] [])) _
    refine XS.iconst X0.here hx rfl (hb hby at_0) ?_
    show Steps p.tables e below (s₁.setTop (mkF m 1 #[.val (.int x0), .unset, .unset, .unset, .unset, .unset] [(.int (3 : Int32))])) _
    refine st11 _ ?_
    show Steps p.tables e below (T11.setTop (mkF m 4 #[.val (.int x0), .unset, .unset, .unset, .unset, .unset] [(.ref b11)])) _
    refine XS.dup X11.here hx rfl (hb hby at_4) rfl rfl ?_
    show Steps p.tables e below (T11.setTop (mkF m 5 #[.val (.int x0), .unset, .unset, .unset, .unset, .unset] [(.ref b11), (.ref b11)])) _
    refine XS.iconst X11.here hx rfl (hb hby at_5) ?_
    show Steps p.tables e below (T11.setTop (mkF m 6 #[.val (.int x0), .unset, .unset, .unset, .unset, .unset] [(.int (0 : Int32)), (.ref b11), (.ref b11)])) _
    refine st13 _ ?_
    show Steps p.tables e below (T13.setTop (mkF m 9 #[.val (.int x0), .unset, .unset, .unset, .unset, .unset] [(.ref w_USER), (.int (0 : Int32)), (.ref b11), (.ref b11)])) _
    refine st16 _ ?_
    show Steps p.tables e below (T16.setTop (mkF m 10 #[.val (.int x0), .unset, .unset, .unset, .unset, .unset] [(.ref b11)])) _
    refine XS.dup X16.here hx rfl (hb hby at_10) rfl rfl ?_
    show Steps p.tables e below (T16.setTop (mkF m 11 #[.val (.int x0), .unset, .unset, .unset, .unset, .unset] [(.ref b11), (.ref b11)])) _
    refine XS.iconst X16.here hx rfl (hb hby at_11) ?_
    show Steps p.tables e below (T16.setTop (mkF m 12 #[.val (.int x0), .unset, .unset, .unset, .unset, .unset] [(.int (1 : Int32)), (.ref b11), (.ref b11)])) _
    refine st18 _ ?_
    show Steps p.tables e below (T18.setTop (mkF m 15 #[.val (.int x0), .unset, .unset, .unset, .unset, .unset] [(.ref w_REVIEWER), (.int (1 : Int32)), (.ref b11), (.ref b11)])) _
    refine st21 _ ?_
    show Steps p.tables e below (T21.setTop (mkF m 16 #[.val (.int x0), .unset, .unset, .unset, .unset, .unset] [(.ref b11)])) _
    refine XS.dup X21.here hx rfl (hb hby at_16) rfl rfl ?_
    show Steps p.tables e below (T21.setTop (mkF m 17 #[.val (.int x0), .unset, .unset, .unset, .unset, .unset] [(.ref b11), (.ref b11)])) _
    refine XS.iconst X21.here hx rfl (hb hby at_17) ?_
    show Steps p.tables e below (T21.setTop (mkF m 18 #[.val (.int x0), .unset, .unset, .unset, .unset, .unset] [(.int (2 : Int32)), (.ref b11), (.ref b11)])) _
    refine st23 _ ?_
    show Steps p.tables e below (T23.setTop (mkF m 21 #[.val (.int x0), .unset, .unset, .unset, .unset, .unset] [(.ref w_ADMIN), (.int (2 : Int32)), (.ref b11), (.ref b11)])) _
    refine st26 _ ?_
    show Steps p.tables e below (T26.setTop (mkF m 22 #[.val (.int x0), .unset, .unset, .unset, .unset, .unset] [(.ref b11)])) _
    refine XS.astoreN X26.here hx rfl (hb hby at_22) rfl rfl (l' := #[.val (.int x0), .val (.ref b11), .unset, .unset, .unset, .unset]) rfl ?_
    show Steps p.tables e below (T26.setTop (mkF m 23 #[.val (.int x0), .val (.ref b11), .unset, .unset, .unset, .unset] [])) _
    refine XS.iloadN X26.here hx rfl (hb hby at_23) rfl ?_
    show Steps p.tables e below (T26.setTop (mkF m 24 #[.val (.int x0), .val (.ref b11), .unset, .unset, .unset, .unset] [(.int x0)])) _
    refine X26.ldcInt hx hown (mvT hZ (hw _ (List.mem_of_getElem? (i := 10) rfl))) (g := (mkF m 24 #[.val (.int x0), .val (.ref b11), .unset, .unset, .unset, .unset] [(.int x0)])) rfl (hb hby at_24) _ ?_
    show Steps p.tables e below (T26.setTop (mkF m 26 #[.val (.int x0), .val (.ref b11), .unset, .unset, .unset, .unset] [(.int (2147483647 : Int32)), (.int x0)])) _
    refine XS.iand X26.here hx rfl (hb hby at_26) rfl ?_
    show Steps p.tables e below (T26.setTop (mkF m 27 #[.val (.int x0), .val (.ref b11), .unset, .unset, .unset, .unset] [(.int (x0 &&& (2147483647 : Int32)))])) _
    refine XS.iconst X26.here hx rfl (hb hby at_27) ?_
    show Steps p.tables e below (T26.setTop (mkF m 28 #[.val (.int x0), .val (.ref b11), .unset, .unset, .unset, .unset] [(.int (3 : Int32)), (.int (x0 &&& (2147483647 : Int32)))])) _
    refine iremM X26 hx rfl (hb hby at_28) rfl (by decide) ?_
    exact kk)
  rcases own_lt3 ((x0 &&& (2147483647 : Int32)) % (3 : Int32)) (own_remLo (x0 &&& (2147483647 : Int32)) (3 : Int32) (c_and x0 (2147483647 : Int32) (by decide)).1 (by decide)) (own_remHi (x0 &&& (2147483647 : Int32)) (3 : Int32) (c_and x0 (2147483647 : Int32) (by decide)).1 (by decide)) with hv28 | hv28 | hv28
  ·
    have pre29 := pre27
    rw [hv28] at pre29
    obtain ⟨clo30, Aro30, qo30, So30, No30', Ho30, Gfo30⟩ := V26
    have hino30 : ¬ ((0 : Int32) < 0 ∨ clo30.slots.size ≤ ((0 : Int32)).toNatClampNeg) := inb_of So30 ⟨by decide, by decide⟩
    have f31 : Exa Z h26 w_USER "com/example/grantd/grantd/account/Role" := (((f14.wr W16).wr W21).wr W26)
    have f32 : Sta Z h26 "com/example/grantd/grantd/account/Role" "ADMIN" "Lcom/example/grantd/grantd/account/Role;" (.ref w_ADMIN) := (f22.wr W26)
    obtain ⟨cq33, kq33, q33a, q33b, q33c⟩ := isOf hZ e26 f31
    obtain ⟨_, _, ⟨T33, L33, k33, n33⟩, -, X33, ⟨Lc33, hQ33, l33, y33, z33⟩, st33⟩ := X26.virtualBack hx (y := (⟨"com/example/grantd/grantd/account/Role", "changesAnyClient", "()Z"⟩ : MethodName)) (z := (⟨"com/example/grantd/grantd/account/Role", "changesAnyClient", "()Z"⟩ : MethodName)) hown (mvT hZ (hw _ (List.mem_of_getElem? (i := 11) rfl))) (mvT hZ (hw _ (List.mem_of_getElem? (i := 12) rfl))) (notFace_of_selects (args := #[]) (mvT hZ (hw _ (List.mem_of_getElem? (i := 14) rfl)))) (mvT hZ (hw _ (List.mem_of_getElem? (i := 14) rfl))) (mvT hZ (hw _ (List.mem_of_getElem? (i := 13) rfl))) (by decide) (backOf (W := 0) (rm1 l Z a0 hw [] w_USER w_ADMIN h26 n0 Z26 f32 ((Fld.ne F_ordinal_w_USER F_ordinal_w_ADMIN (by decide)))) hZ (hw _ (List.mem_of_getElem? (i := 15) rfl)) (hw _ (List.mem_of_getElem? (i := 3) rfl)) (by decide) (by decide)) q33a q33c (g := (mkF m 35 #[.val (.int x0), .val (.ref b11), .val (.int (0 : Int32)), .val (.ref w_USER), .unset, .unset] [(.ref w_USER)])) rfl (by rw [hml]; rfl) (Steps.refl _) (argsL := []) (rest := []) (lenOf pd_0 rfl) rfl (by show 2 * 0 + _ ≤ _; exact Nat.le_of_eq rfl) (hb hby at_35) (fun _ _ => ⟨rfl, e26, (by decide : 1 + 0 ≤ _), (by decide : 3 + 0 ≤ _)⟩)
    dsimp only [Pt.U, Pt.locs, Pt.cells, Pt.slots] at X33 l33 y33 z33 st33 hQ33
    subst l33 y33 z33
    obtain ⟨rfl, N33q, e33⟩ := hQ33
    have N33 := Fr.app N26 N33q
    have pre34 : ∀ t, Steps p.tables e below (T33.setTop (mkF m 76 #[.val (.int x0), .val (.ref b11), .val (.int (0 : Int32)), .val (.ref w_USER), .val (.int (0 : Int32)), .val (.int (0 : Int32))] [(.int (1 : Int32))])) t → Steps p.tables e below (s₁.setTop (entryFrame m #[(.int x0)] maxLocals)) t := fun t kk => pre29 t (by
      show Steps p.tables e below (T26.setTop (mkF m 29 #[.val (.int x0), .val (.ref b11), .unset, .unset, .unset, .unset] [(.int (0 : Int32))])) _
      refine XS.istoreN X26.here hx rfl (hb hby at_29) rfl (l' := #[.val (.int x0), .val (.ref b11), .val (.int (0 : Int32)), .unset, .unset, .unset]) rfl ?_
      show Steps p.tables e below (T26.setTop (mkF m 30 #[.val (.int x0), .val (.ref b11), .val (.int (0 : Int32)), .unset, .unset, .unset] [])) _
      refine XS.aloadN X26.here hx rfl (hb hby at_30) rfl rfl ?_
      show Steps p.tables e below (T26.setTop (mkF m 31 #[.val (.int x0), .val (.ref b11), .val (.int (0 : Int32)), .unset, .unset, .unset] [(.ref b11)])) _
      refine XS.iloadN X26.here hx rfl (hb hby at_31) rfl ?_
      show Steps p.tables e below (T26.setTop (mkF m 32 #[.val (.int x0), .val (.ref b11), .val (.int (0 : Int32)), .unset, .unset, .unset] [(.int (0 : Int32)), (.ref b11)])) _
      refine X26.aaload hx (j := (0 : Int32)) (v := (.ref w_USER)) (by rw [e26]; exact Aro30.1) (State.isArrayOf_alike hZ.alike Aro30.2.1) rfl Aro30.2.2 hino30 (Ho30.at hino30 rfl) (g := (mkF m 32 #[.val (.int x0), .val (.ref b11), .val (.int (0 : Int32)), .unset, .unset, .unset] [(.int (0 : Int32)), (.ref b11)])) rfl rfl (hb hby at_32) _ ?_
      show Steps p.tables e below (T26.setTop (mkF m 33 #[.val (.int x0), .val (.ref b11), .val (.int (0 : Int32)), .unset, .unset, .unset] [(.ref w_USER)])) _
      refine XS.astoreN X26.here hx rfl (hb hby at_33) rfl rfl (l' := #[.val (.int x0), .val (.ref b11), .val (.int (0 : Int32)), .val (.ref w_USER), .unset, .unset]) rfl ?_
      show Steps p.tables e below (T26.setTop (mkF m 34 #[.val (.int x0), .val (.ref b11), .val (.int (0 : Int32)), .val (.ref w_USER), .unset, .unset] [])) _
      refine XS.aloadN X26.here hx rfl (hb hby at_34) rfl rfl ?_
      show Steps p.tables e below (T26.setTop (mkF m 35 #[.val (.int x0), .val (.ref b11), .val (.int (0 : Int32)), .val (.ref w_USER), .unset, .unset] [(.ref w_USER)])) _
      refine st33.trans ?_
      show Steps p.tables e below (T33.setTop (mkF m 38 #[.val (.int x0), .val (.ref b11), .val (.int (0 : Int32)), .val (.ref w_USER), .unset, .unset] [(.int (0 : Int32))])) _
      refine XS.istore X33.here hx rfl (hb hby at_38) rfl (l' := #[.val (.int x0), .val (.ref b11), .val (.int (0 : Int32)), .val (.ref w_USER), .val (.int (0 : Int32)), .unset]) rfl ?_
      show Steps p.tables e below (T33.setTop (mkF m 40 #[.val (.int x0), .val (.ref b11), .val (.int (0 : Int32)), .val (.ref w_USER), .val (.int (0 : Int32)), .unset] [])) _
      refine XS.iloadN X33.here hx rfl (hb hby at_40) rfl ?_
      show Steps p.tables e below (T33.setTop (mkF m 41 #[.val (.int x0), .val (.ref b11), .val (.int (0 : Int32)), .val (.ref w_USER), .val (.int (0 : Int32)), .unset] [(.int (0 : Int32))])) _
      refine XS.iconst X33.here hx rfl (hb hby at_41) ?_
      show Steps p.tables e below (T33.setTop (mkF m 42 #[.val (.int x0), .val (.ref b11), .val (.int (0 : Int32)), .val (.ref w_USER), .val (.int (0 : Int32)), .unset] [(.int (2 : Int32)), (.int (0 : Int32))])) _
      refine XS.icmpYes X33.here hx rfl (pc0 := 42) (pc' := 49) rfl (hb hby at_42) rfl (feq ((by decide) : ¬ ((0 : Int32) = (2 : Int32)))).2 (by decide) (by decide) ?_
      show Steps p.tables e below (T33.setTop (mkF m 49 #[.val (.int x0), .val (.ref b11), .val (.int (0 : Int32)), .val (.ref w_USER), .val (.int (0 : Int32)), .unset] [])) _
      refine XS.iconst X33.here hx rfl (hb hby at_49) ?_
      show Steps p.tables e below (T33.setTop (mkF m 50 #[.val (.int x0), .val (.ref b11), .val (.int (0 : Int32)), .val (.ref w_USER), .val (.int (0 : Int32)), .unset] [(.int (0 : Int32))])) _
      refine XS.istore X33.here hx rfl (hb hby at_50) rfl (l' := #[.val (.int x0), .val (.ref b11), .val (.int (0 : Int32)), .val (.ref w_USER), .val (.int (0 : Int32)), .val (.int (0 : Int32))]) rfl ?_
      show Steps p.tables e below (T33.setTop (mkF m 52 #[.val (.int x0), .val (.ref b11), .val (.int (0 : Int32)), .val (.ref w_USER), .val (.int (0 : Int32)), .val (.int (0 : Int32))] [])) _
      refine XS.iload X33.here hx rfl (hb hby at_52) rfl ?_
      show Steps p.tables e below (T33.setTop (mkF m 54 #[.val (.int x0), .val (.ref b11), .val (.int (0 : Int32)), .val (.ref w_USER), .val (.int (0 : Int32)), .val (.int (0 : Int32))] [(.int (0 : Int32))])) _
      refine XS.iload X33.here hx rfl (hb hby at_54) rfl ?_
      show Steps p.tables e below (T33.setTop (mkF m 56 #[.val (.int x0), .val (.ref b11), .val (.int (0 : Int32)), .val (.ref w_USER), .val (.int (0 : Int32)), .val (.int (0 : Int32))] [(.int (0 : Int32)), (.int (0 : Int32))])) _
      refine XS.icmpYes X33.here hx rfl (pc0 := 56) (pc' := 61) rfl (hb hby at_56) rfl (teq ((by decide) : (0 : Int32) = (0 : Int32))).1 (by decide) (by decide) ?_
      show Steps p.tables e below (T33.setTop (mkF m 61 #[.val (.int x0), .val (.ref b11), .val (.int (0 : Int32)), .val (.ref w_USER), .val (.int (0 : Int32)), .val (.int (0 : Int32))] [])) _
      refine XS.iload X33.here hx rfl (hb hby at_61) rfl ?_
      show Steps p.tables e below (T33.setTop (mkF m 63 #[.val (.int x0), .val (.ref b11), .val (.int (0 : Int32)), .val (.ref w_USER), .val (.int (0 : Int32)), .val (.int (0 : Int32))] [(.int (0 : Int32))])) _
      refine XS.ifYes X33.here hx rfl (pc0 := 63) (pc' := 75) rfl (hb hby at_63) rfl ((if0 _ _).trans (teq ((by decide) : (0 : Int32) = (0 : Int32))).1) (by decide) (by decide) ?_
      show Steps p.tables e below (T33.setTop (mkF m 75 #[.val (.int x0), .val (.ref b11), .val (.int (0 : Int32)), .val (.ref w_USER), .val (.int (0 : Int32)), .val (.int (0 : Int32))] [])) _
      refine XS.iconst X33.here hx rfl (hb hby at_75) ?_
      exact kk)
    obtain ⟨fs, hr, hrun, hended, hW, hsame⟩ := X33.leave (v := some (.int (1 : Int32))) (fun h => by rw [Bd.returns] at h; cases h)
    refine ⟨_, _, pre34 _ ?_, hrun, hended, _, _, rfl, ?_, ⟨_, rfl⟩, hW, hsame.mono (by decide) (by decide)⟩
    · exact retN X33 hx (t := .boolean) Bd.returns (by simp) (hb hby at_76) hr
    · exact ⟨rfl, N33⟩
  ·
    have pre35 := pre27
    rw [hv28] at pre35
    obtain ⟨clo36, Aro36, qo36, So36, No36', Ho36, Gfo36⟩ := V26
    have hino36 : ¬ ((1 : Int32) < 0 ∨ clo36.slots.size ≤ ((1 : Int32)).toNatClampNeg) := inb_of So36 ⟨by decide, by decide⟩
    have f37 : Exa Z h26 w_REVIEWER "com/example/grantd/grantd/account/Role" := ((f19.wr W21).wr W26)
    have f38 : Sta Z h26 "com/example/grantd/grantd/account/Role" "ADMIN" "Lcom/example/grantd/grantd/account/Role;" (.ref w_ADMIN) := (f22.wr W26)
    obtain ⟨cq39, kq39, q39a, q39b, q39c⟩ := isOf hZ e26 f37
    obtain ⟨_, _, ⟨T39, L39, k39, n39⟩, -, X39, ⟨Lc39, hQ39, l39, y39, z39⟩, st39⟩ := X26.virtualBack hx (y := (⟨"com/example/grantd/grantd/account/Role", "changesAnyClient", "()Z"⟩ : MethodName)) (z := (⟨"com/example/grantd/grantd/account/Role", "changesAnyClient", "()Z"⟩ : MethodName)) hown (mvT hZ (hw _ (List.mem_of_getElem? (i := 11) rfl))) (mvT hZ (hw _ (List.mem_of_getElem? (i := 12) rfl))) (notFace_of_selects (args := #[]) (mvT hZ (hw _ (List.mem_of_getElem? (i := 14) rfl)))) (mvT hZ (hw _ (List.mem_of_getElem? (i := 14) rfl))) (mvT hZ (hw _ (List.mem_of_getElem? (i := 13) rfl))) (by decide) (backOf (W := 0) (rm1 l Z a0 hw [] w_REVIEWER w_ADMIN h26 n0 Z26 f38 ((Fld.ne F_ordinal_w_REVIEWER F_ordinal_w_ADMIN (by decide)))) hZ (hw _ (List.mem_of_getElem? (i := 15) rfl)) (hw _ (List.mem_of_getElem? (i := 3) rfl)) (by decide) (by decide)) q39a q39c (g := (mkF m 35 #[.val (.int x0), .val (.ref b11), .val (.int (1 : Int32)), .val (.ref w_REVIEWER), .unset, .unset] [(.ref w_REVIEWER)])) rfl (by rw [hml]; rfl) (Steps.refl _) (argsL := []) (rest := []) (lenOf pd_0 rfl) rfl (by show 2 * 0 + _ ≤ _; exact Nat.le_of_eq rfl) (hb hby at_35) (fun _ _ => ⟨rfl, e26, (by decide : 1 + 0 ≤ _), (by decide : 3 + 0 ≤ _)⟩)
    dsimp only [Pt.U, Pt.locs, Pt.cells, Pt.slots] at X39 l39 y39 z39 st39 hQ39
    subst l39 y39 z39
    obtain ⟨rfl, N39q, e39⟩ := hQ39
    have N39 := Fr.app N26 N39q
    have pre40 : ∀ t, Steps p.tables e below (T39.setTop (mkF m 76 #[.val (.int x0), .val (.ref b11), .val (.int (1 : Int32)), .val (.ref w_REVIEWER), .val (.int (0 : Int32)), .val (.int (0 : Int32))] [(.int (1 : Int32))])) t → Steps p.tables e below (s₁.setTop (entryFrame m #[(.int x0)] maxLocals)) t := fun t kk => pre35 t (by
      show Steps p.tables e below (T26.setTop (mkF m 29 #[.val (.int x0), .val (.ref b11), .unset, .unset, .unset, .unset] [(.int (1 : Int32))])) _
      refine XS.istoreN X26.here hx rfl (hb hby at_29) rfl (l' := #[.val (.int x0), .val (.ref b11), .val (.int (1 : Int32)), .unset, .unset, .unset]) rfl ?_
      show Steps p.tables e below (T26.setTop (mkF m 30 #[.val (.int x0), .val (.ref b11), .val (.int (1 : Int32)), .unset, .unset, .unset] [])) _
      refine XS.aloadN X26.here hx rfl (hb hby at_30) rfl rfl ?_
      show Steps p.tables e below (T26.setTop (mkF m 31 #[.val (.int x0), .val (.ref b11), .val (.int (1 : Int32)), .unset, .unset, .unset] [(.ref b11)])) _
      refine XS.iloadN X26.here hx rfl (hb hby at_31) rfl ?_
      show Steps p.tables e below (T26.setTop (mkF m 32 #[.val (.int x0), .val (.ref b11), .val (.int (1 : Int32)), .unset, .unset, .unset] [(.int (1 : Int32)), (.ref b11)])) _
      refine X26.aaload hx (j := (1 : Int32)) (v := (.ref w_REVIEWER)) (by rw [e26]; exact Aro36.1) (State.isArrayOf_alike hZ.alike Aro36.2.1) rfl Aro36.2.2 hino36 (Ho36.at hino36 rfl) (g := (mkF m 32 #[.val (.int x0), .val (.ref b11), .val (.int (1 : Int32)), .unset, .unset, .unset] [(.int (1 : Int32)), (.ref b11)])) rfl rfl (hb hby at_32) _ ?_
      show Steps p.tables e below (T26.setTop (mkF m 33 #[.val (.int x0), .val (.ref b11), .val (.int (1 : Int32)), .unset, .unset, .unset] [(.ref w_REVIEWER)])) _
      refine XS.astoreN X26.here hx rfl (hb hby at_33) rfl rfl (l' := #[.val (.int x0), .val (.ref b11), .val (.int (1 : Int32)), .val (.ref w_REVIEWER), .unset, .unset]) rfl ?_
      show Steps p.tables e below (T26.setTop (mkF m 34 #[.val (.int x0), .val (.ref b11), .val (.int (1 : Int32)), .val (.ref w_REVIEWER), .unset, .unset] [])) _
      refine XS.aloadN X26.here hx rfl (hb hby at_34) rfl rfl ?_
      show Steps p.tables e below (T26.setTop (mkF m 35 #[.val (.int x0), .val (.ref b11), .val (.int (1 : Int32)), .val (.ref w_REVIEWER), .unset, .unset] [(.ref w_REVIEWER)])) _
      refine st39.trans ?_
      show Steps p.tables e below (T39.setTop (mkF m 38 #[.val (.int x0), .val (.ref b11), .val (.int (1 : Int32)), .val (.ref w_REVIEWER), .unset, .unset] [(.int (0 : Int32))])) _
      refine XS.istore X39.here hx rfl (hb hby at_38) rfl (l' := #[.val (.int x0), .val (.ref b11), .val (.int (1 : Int32)), .val (.ref w_REVIEWER), .val (.int (0 : Int32)), .unset]) rfl ?_
      show Steps p.tables e below (T39.setTop (mkF m 40 #[.val (.int x0), .val (.ref b11), .val (.int (1 : Int32)), .val (.ref w_REVIEWER), .val (.int (0 : Int32)), .unset] [])) _
      refine XS.iloadN X39.here hx rfl (hb hby at_40) rfl ?_
      show Steps p.tables e below (T39.setTop (mkF m 41 #[.val (.int x0), .val (.ref b11), .val (.int (1 : Int32)), .val (.ref w_REVIEWER), .val (.int (0 : Int32)), .unset] [(.int (1 : Int32))])) _
      refine XS.iconst X39.here hx rfl (hb hby at_41) ?_
      show Steps p.tables e below (T39.setTop (mkF m 42 #[.val (.int x0), .val (.ref b11), .val (.int (1 : Int32)), .val (.ref w_REVIEWER), .val (.int (0 : Int32)), .unset] [(.int (2 : Int32)), (.int (1 : Int32))])) _
      refine XS.icmpYes X39.here hx rfl (pc0 := 42) (pc' := 49) rfl (hb hby at_42) rfl (feq ((by decide) : ¬ ((1 : Int32) = (2 : Int32)))).2 (by decide) (by decide) ?_
      show Steps p.tables e below (T39.setTop (mkF m 49 #[.val (.int x0), .val (.ref b11), .val (.int (1 : Int32)), .val (.ref w_REVIEWER), .val (.int (0 : Int32)), .unset] [])) _
      refine XS.iconst X39.here hx rfl (hb hby at_49) ?_
      show Steps p.tables e below (T39.setTop (mkF m 50 #[.val (.int x0), .val (.ref b11), .val (.int (1 : Int32)), .val (.ref w_REVIEWER), .val (.int (0 : Int32)), .unset] [(.int (0 : Int32))])) _
      refine XS.istore X39.here hx rfl (hb hby at_50) rfl (l' := #[.val (.int x0), .val (.ref b11), .val (.int (1 : Int32)), .val (.ref w_REVIEWER), .val (.int (0 : Int32)), .val (.int (0 : Int32))]) rfl ?_
      show Steps p.tables e below (T39.setTop (mkF m 52 #[.val (.int x0), .val (.ref b11), .val (.int (1 : Int32)), .val (.ref w_REVIEWER), .val (.int (0 : Int32)), .val (.int (0 : Int32))] [])) _
      refine XS.iload X39.here hx rfl (hb hby at_52) rfl ?_
      show Steps p.tables e below (T39.setTop (mkF m 54 #[.val (.int x0), .val (.ref b11), .val (.int (1 : Int32)), .val (.ref w_REVIEWER), .val (.int (0 : Int32)), .val (.int (0 : Int32))] [(.int (0 : Int32))])) _
      refine XS.iload X39.here hx rfl (hb hby at_54) rfl ?_
      show Steps p.tables e below (T39.setTop (mkF m 56 #[.val (.int x0), .val (.ref b11), .val (.int (1 : Int32)), .val (.ref w_REVIEWER), .val (.int (0 : Int32)), .val (.int (0 : Int32))] [(.int (0 : Int32)), (.int (0 : Int32))])) _
      refine XS.icmpYes X39.here hx rfl (pc0 := 56) (pc' := 61) rfl (hb hby at_56) rfl (teq ((by decide) : (0 : Int32) = (0 : Int32))).1 (by decide) (by decide) ?_
      show Steps p.tables e below (T39.setTop (mkF m 61 #[.val (.int x0), .val (.ref b11), .val (.int (1 : Int32)), .val (.ref w_REVIEWER), .val (.int (0 : Int32)), .val (.int (0 : Int32))] [])) _
      refine XS.iload X39.here hx rfl (hb hby at_61) rfl ?_
      show Steps p.tables e below (T39.setTop (mkF m 63 #[.val (.int x0), .val (.ref b11), .val (.int (1 : Int32)), .val (.ref w_REVIEWER), .val (.int (0 : Int32)), .val (.int (0 : Int32))] [(.int (0 : Int32))])) _
      refine XS.ifYes X39.here hx rfl (pc0 := 63) (pc' := 75) rfl (hb hby at_63) rfl ((if0 _ _).trans (teq ((by decide) : (0 : Int32) = (0 : Int32))).1) (by decide) (by decide) ?_
      show Steps p.tables e below (T39.setTop (mkF m 75 #[.val (.int x0), .val (.ref b11), .val (.int (1 : Int32)), .val (.ref w_REVIEWER), .val (.int (0 : Int32)), .val (.int (0 : Int32))] [])) _
      refine XS.iconst X39.here hx rfl (hb hby at_75) ?_
      exact kk)
    obtain ⟨fs, hr, hrun, hended, hW, hsame⟩ := X39.leave (v := some (.int (1 : Int32))) (fun h => by rw [Bd.returns] at h; cases h)
    refine ⟨_, _, pre40 _ ?_, hrun, hended, _, _, rfl, ?_, ⟨_, rfl⟩, hW, hsame.mono (by decide) (by decide)⟩
    · exact retN X39 hx (t := .boolean) Bd.returns (by simp) (hb hby at_76) hr
    · exact ⟨rfl, N39⟩
  ·
    have pre41 := pre27
    rw [hv28] at pre41
    obtain ⟨clo42, Aro42, qo42, So42, No42', Ho42, Gfo42⟩ := V26
    have hino42 : ¬ ((2 : Int32) < 0 ∨ clo42.slots.size ≤ ((2 : Int32)).toNatClampNeg) := inb_of So42 ⟨by decide, by decide⟩
    have f43 : Exa Z h26 w_ADMIN "com/example/grantd/grantd/account/Role" := (f24.wr W26)
    have f44 : Sta Z h26 "com/example/grantd/grantd/account/Role" "ADMIN" "Lcom/example/grantd/grantd/account/Role;" (.ref w_ADMIN) := (f22.wr W26)
    obtain ⟨cq45, kq45, q45a, q45b, q45c⟩ := isOf hZ e26 f43
    obtain ⟨_, _, ⟨T45, L45, k45, n45⟩, -, X45, ⟨Lc45, hQ45, l45, y45, z45⟩, st45⟩ := X26.virtualBack hx (y := (⟨"com/example/grantd/grantd/account/Role", "changesAnyClient", "()Z"⟩ : MethodName)) (z := (⟨"com/example/grantd/grantd/account/Role", "changesAnyClient", "()Z"⟩ : MethodName)) hown (mvT hZ (hw _ (List.mem_of_getElem? (i := 11) rfl))) (mvT hZ (hw _ (List.mem_of_getElem? (i := 12) rfl))) (notFace_of_selects (args := #[]) (mvT hZ (hw _ (List.mem_of_getElem? (i := 14) rfl)))) (mvT hZ (hw _ (List.mem_of_getElem? (i := 14) rfl))) (mvT hZ (hw _ (List.mem_of_getElem? (i := 13) rfl))) (by decide) (backOf (W := 0) (rm2 l Z a0 hw [] w_ADMIN h26 n0 Z26 f44) hZ (hw _ (List.mem_of_getElem? (i := 15) rfl)) (hw _ (List.mem_of_getElem? (i := 3) rfl)) (by decide) (by decide)) q45a q45c (g := (mkF m 35 #[.val (.int x0), .val (.ref b11), .val (.int (2 : Int32)), .val (.ref w_ADMIN), .unset, .unset] [(.ref w_ADMIN)])) rfl (by rw [hml]; rfl) (Steps.refl _) (argsL := []) (rest := []) (lenOf pd_0 rfl) rfl (by show 2 * 0 + _ ≤ _; exact Nat.le_of_eq rfl) (hb hby at_35) (fun _ _ => ⟨rfl, e26, (by decide : 1 + 0 ≤ _), (by decide : 3 + 0 ≤ _)⟩)
    dsimp only [Pt.U, Pt.locs, Pt.cells, Pt.slots] at X45 l45 y45 z45 st45 hQ45
    subst l45 y45 z45
    obtain ⟨rfl, N45q, e45⟩ := hQ45
    have N45 := Fr.app N26 N45q
    have f46 : Sta Z h26 "com/example/grantd/grantd/account/Role" "REVIEWER" "Lcom/example/grantd/grantd/account/Role;" (.ref w_REVIEWER) := ((f17.wr W21).wr W26)
    obtain ⟨cq47, kq47, q47a, q47b, q47c⟩ := isOf hZ e45 f43
    obtain ⟨_, _, ⟨T47, L47, k47, n47⟩, -, X47, ⟨Lc47, hQ47, l47, y47, z47⟩, st47⟩ := X45.virtualBack hx (y := (⟨"com/example/grantd/grantd/account/Role", "reviewsClients", "()Z"⟩ : MethodName)) (z := (⟨"com/example/grantd/grantd/account/Role", "reviewsClients", "()Z"⟩ : MethodName)) hown (mvT hZ (hw _ (List.mem_of_getElem? (i := 17) rfl))) (mvT hZ (hw _ (List.mem_of_getElem? (i := 18) rfl))) (notFace_of_selects (args := #[]) (mvT hZ (hw _ (List.mem_of_getElem? (i := 20) rfl)))) (mvT hZ (hw _ (List.mem_of_getElem? (i := 20) rfl))) (mvT hZ (hw _ (List.mem_of_getElem? (i := 19) rfl))) (by decide) (backOf (W := 0) (rm3 l Z a0 hw [] w_ADMIN w_REVIEWER h26 n0 Z26 f46 ((Fld.ne F_ordinal_w_ADMIN F_ordinal_w_REVIEWER (by decide))) f44) hZ (hw _ (List.mem_of_getElem? (i := 21) rfl)) (hw _ (List.mem_of_getElem? (i := 3) rfl)) (by decide) (by decide)) q47a q47c (g := (mkF m 67 #[.val (.int x0), .val (.ref b11), .val (.int (2 : Int32)), .val (.ref w_ADMIN), .val (.int (1 : Int32)), .val (.int (1 : Int32))] [(.ref w_ADMIN)])) rfl (by rw [hml]; rfl) (Steps.refl _) (argsL := []) (rest := []) (lenOf pd_0 rfl) rfl (by show 2 * 0 + _ ≤ _; exact Nat.le_of_eq rfl) (hb hby at_67) (fun _ _ => ⟨rfl, e45, (by decide : 1 + 0 ≤ _), (by decide : 3 + 0 ≤ _)⟩)
    dsimp only [Pt.U, Pt.locs, Pt.cells, Pt.slots] at X47 l47 y47 z47 st47 hQ47
    subst l47 y47 z47
    obtain ⟨rfl, N47q, e47⟩ := hQ47
    have N47 := Fr.app N45 N47q
    have pre48 : ∀ t, Steps p.tables e below (T47.setTop (mkF m 76 #[.val (.int x0), .val (.ref b11), .val (.int (2 : Int32)), .val (.ref w_ADMIN), .val (.int (1 : Int32)), .val (.int (1 : Int32))] [(.int (1 : Int32))])) t → Steps p.tables e below (s₁.setTop (entryFrame m #[(.int x0)] maxLocals)) t := fun t kk => pre41 t (by
      show Steps p.tables e below (T26.setTop (mkF m 29 #[.val (.int x0), .val (.ref b11), .unset, .unset, .unset, .unset] [(.int (2 : Int32))])) _
      refine XS.istoreN X26.here hx rfl (hb hby at_29) rfl (l' := #[.val (.int x0), .val (.ref b11), .val (.int (2 : Int32)), .unset, .unset, .unset]) rfl ?_
      show Steps p.tables e below (T26.setTop (mkF m 30 #[.val (.int x0), .val (.ref b11), .val (.int (2 : Int32)), .unset, .unset, .unset] [])) _
      refine XS.aloadN X26.here hx rfl (hb hby at_30) rfl rfl ?_
      show Steps p.tables e below (T26.setTop (mkF m 31 #[.val (.int x0), .val (.ref b11), .val (.int (2 : Int32)), .unset, .unset, .unset] [(.ref b11)])) _
      refine XS.iloadN X26.here hx rfl (hb hby at_31) rfl ?_
      show Steps p.tables e below (T26.setTop (mkF m 32 #[.val (.int x0), .val (.ref b11), .val (.int (2 : Int32)), .unset, .unset, .unset] [(.int (2 : Int32)), (.ref b11)])) _
      refine X26.aaload hx (j := (2 : Int32)) (v := (.ref w_ADMIN)) (by rw [e26]; exact Aro42.1) (State.isArrayOf_alike hZ.alike Aro42.2.1) rfl Aro42.2.2 hino42 (Ho42.at hino42 rfl) (g := (mkF m 32 #[.val (.int x0), .val (.ref b11), .val (.int (2 : Int32)), .unset, .unset, .unset] [(.int (2 : Int32)), (.ref b11)])) rfl rfl (hb hby at_32) _ ?_
      show Steps p.tables e below (T26.setTop (mkF m 33 #[.val (.int x0), .val (.ref b11), .val (.int (2 : Int32)), .unset, .unset, .unset] [(.ref w_ADMIN)])) _
      refine XS.astoreN X26.here hx rfl (hb hby at_33) rfl rfl (l' := #[.val (.int x0), .val (.ref b11), .val (.int (2 : Int32)), .val (.ref w_ADMIN), .unset, .unset]) rfl ?_
      show Steps p.tables e below (T26.setTop (mkF m 34 #[.val (.int x0), .val (.ref b11), .val (.int (2 : Int32)), .val (.ref w_ADMIN), .unset, .unset] [])) _
      refine XS.aloadN X26.here hx rfl (hb hby at_34) rfl rfl ?_
      show Steps p.tables e below (T26.setTop (mkF m 35 #[.val (.int x0), .val (.ref b11), .val (.int (2 : Int32)), .val (.ref w_ADMIN), .unset, .unset] [(.ref w_ADMIN)])) _
      refine st45.trans ?_
      show Steps p.tables e below (T45.setTop (mkF m 38 #[.val (.int x0), .val (.ref b11), .val (.int (2 : Int32)), .val (.ref w_ADMIN), .unset, .unset] [(.int (1 : Int32))])) _
      refine XS.istore X45.here hx rfl (hb hby at_38) rfl (l' := #[.val (.int x0), .val (.ref b11), .val (.int (2 : Int32)), .val (.ref w_ADMIN), .val (.int (1 : Int32)), .unset]) rfl ?_
      show Steps p.tables e below (T45.setTop (mkF m 40 #[.val (.int x0), .val (.ref b11), .val (.int (2 : Int32)), .val (.ref w_ADMIN), .val (.int (1 : Int32)), .unset] [])) _
      refine XS.iloadN X45.here hx rfl (hb hby at_40) rfl ?_
      show Steps p.tables e below (T45.setTop (mkF m 41 #[.val (.int x0), .val (.ref b11), .val (.int (2 : Int32)), .val (.ref w_ADMIN), .val (.int (1 : Int32)), .unset] [(.int (2 : Int32))])) _
      refine XS.iconst X45.here hx rfl (hb hby at_41) ?_
      show Steps p.tables e below (T45.setTop (mkF m 42 #[.val (.int x0), .val (.ref b11), .val (.int (2 : Int32)), .val (.ref w_ADMIN), .val (.int (1 : Int32)), .unset] [(.int (2 : Int32)), (.int (2 : Int32))])) _
      refine XS.icmpNo X45.here hx rfl (hb hby at_42) rfl (teq ((by decide) : (2 : Int32) = (2 : Int32))).2 ?_
      show Steps p.tables e below (T45.setTop (mkF m 45 #[.val (.int x0), .val (.ref b11), .val (.int (2 : Int32)), .val (.ref w_ADMIN), .val (.int (1 : Int32)), .unset] [])) _
      refine XS.iconst X45.here hx rfl (hb hby at_45) ?_
      show Steps p.tables e below (T45.setTop (mkF m 46 #[.val (.int x0), .val (.ref b11), .val (.int (2 : Int32)), .val (.ref w_ADMIN), .val (.int (1 : Int32)), .unset] [(.int (1 : Int32))])) _
      refine XS.goto X45.here hx rfl (pc0 := 46) (pc' := 50) rfl (hb hby at_46) (by decide) (by decide) ?_
      show Steps p.tables e below (T45.setTop (mkF m 50 #[.val (.int x0), .val (.ref b11), .val (.int (2 : Int32)), .val (.ref w_ADMIN), .val (.int (1 : Int32)), .unset] [(.int (1 : Int32))])) _
      refine XS.istore X45.here hx rfl (hb hby at_50) rfl (l' := #[.val (.int x0), .val (.ref b11), .val (.int (2 : Int32)), .val (.ref w_ADMIN), .val (.int (1 : Int32)), .val (.int (1 : Int32))]) rfl ?_
      show Steps p.tables e below (T45.setTop (mkF m 52 #[.val (.int x0), .val (.ref b11), .val (.int (2 : Int32)), .val (.ref w_ADMIN), .val (.int (1 : Int32)), .val (.int (1 : Int32))] [])) _
      refine XS.iload X45.here hx rfl (hb hby at_52) rfl ?_
      show Steps p.tables e below (T45.setTop (mkF m 54 #[.val (.int x0), .val (.ref b11), .val (.int (2 : Int32)), .val (.ref w_ADMIN), .val (.int (1 : Int32)), .val (.int (1 : Int32))] [(.int (1 : Int32))])) _
      refine XS.iload X45.here hx rfl (hb hby at_54) rfl ?_
      show Steps p.tables e below (T45.setTop (mkF m 56 #[.val (.int x0), .val (.ref b11), .val (.int (2 : Int32)), .val (.ref w_ADMIN), .val (.int (1 : Int32)), .val (.int (1 : Int32))] [(.int (1 : Int32)), (.int (1 : Int32))])) _
      refine XS.icmpYes X45.here hx rfl (pc0 := 56) (pc' := 61) rfl (hb hby at_56) rfl (teq ((by decide) : (1 : Int32) = (1 : Int32))).1 (by decide) (by decide) ?_
      show Steps p.tables e below (T45.setTop (mkF m 61 #[.val (.int x0), .val (.ref b11), .val (.int (2 : Int32)), .val (.ref w_ADMIN), .val (.int (1 : Int32)), .val (.int (1 : Int32))] [])) _
      refine XS.iload X45.here hx rfl (hb hby at_61) rfl ?_
      show Steps p.tables e below (T45.setTop (mkF m 63 #[.val (.int x0), .val (.ref b11), .val (.int (2 : Int32)), .val (.ref w_ADMIN), .val (.int (1 : Int32)), .val (.int (1 : Int32))] [(.int (1 : Int32))])) _
      refine XS.ifNo X45.here hx rfl (hb hby at_63) rfl ((if0 _ _).trans (feq ((by decide) : ¬ ((1 : Int32) = (0 : Int32)))).1) ?_
      show Steps p.tables e below (T45.setTop (mkF m 66 #[.val (.int x0), .val (.ref b11), .val (.int (2 : Int32)), .val (.ref w_ADMIN), .val (.int (1 : Int32)), .val (.int (1 : Int32))] [])) _
      refine XS.aloadN X45.here hx rfl (hb hby at_66) rfl rfl ?_
      show Steps p.tables e below (T45.setTop (mkF m 67 #[.val (.int x0), .val (.ref b11), .val (.int (2 : Int32)), .val (.ref w_ADMIN), .val (.int (1 : Int32)), .val (.int (1 : Int32))] [(.ref w_ADMIN)])) _
      refine st47.trans ?_
      show Steps p.tables e below (T47.setTop (mkF m 70 #[.val (.int x0), .val (.ref b11), .val (.int (2 : Int32)), .val (.ref w_ADMIN), .val (.int (1 : Int32)), .val (.int (1 : Int32))] [(.int (1 : Int32))])) _
      refine XS.ifYes X47.here hx rfl (pc0 := 70) (pc' := 75) rfl (hb hby at_70) rfl ((if0 _ _).trans (feq ((by decide) : ¬ ((1 : Int32) = (0 : Int32)))).2) (by decide) (by decide) ?_
      show Steps p.tables e below (T47.setTop (mkF m 75 #[.val (.int x0), .val (.ref b11), .val (.int (2 : Int32)), .val (.ref w_ADMIN), .val (.int (1 : Int32)), .val (.int (1 : Int32))] [])) _
      refine XS.iconst X47.here hx rfl (hb hby at_75) ?_
      exact kk)
    obtain ⟨fs, hr, hrun, hended, hW, hsame⟩ := X47.leave (v := some (.int (1 : Int32))) (fun h => by rw [Bd.returns] at h; cases h)
    refine ⟨_, _, pre48 _ ?_, hrun, hended, _, _, rfl, ?_, ⟨_, rfl⟩, hW, hsame.mono (by decide) (by decide)⟩
    · exact retN X47 hx (t := .boolean) Bd.returns (by simp) (hb hby at_76) hr
    · exact ⟨rfl, N47⟩
set_option maxRecDepth 65536 in
set_option maxHeartbeats 40000000 in
theorem comes_1 {Post : Tables → Env → Array Value → State → Outcome → State → Prop} (hpost : ∀ tb e args s v u, (limb_1_1.after args s (.returned v) u = true ∧ limb_1_2.after args s (.returned v) u = true ∧ True) → FrameEnd s (.returned v) u (Jvm.fieldLocs frame_1_writes args s ++ Jvm.arrayLocs frame_1_arrays args s ++ Jvm.staticLocs frame_1_statics s) 16 128 → Post tb e args s (.returned v) u) :
    ArmFor flags0 classFile x code maxLocals ret World_1 tables_1 room_1 Calls_1 rest_1 Pre_1 Post := by
  intro l hfl _ _ p e ha hc hk s m args below hf hA hF happ hP
  obtain ⟨hcalls, hrest, hpre⟩ := hP
  obtain ⟨-, -, -, hnamed, -, -, -, hat⟩ := (Spec.applies_iff hf).mp happ
  obtain ⟨hg, hn⟩ := and_e (Cond.before_iff.mp (show (Jvm.Cond.and given_1 narrow_1).before args s = true from hpre))
  obtain ⟨hcount, hgs⟩ := and_e hg
  obtain ⟨v0, rfl⟩ : ∃ v0 : Value, args = #[v0] := by
    have hs : args.size = 1 := by simpa [Cond.value, given_1] using hcount
    obtain ⟨L⟩ := args
    match L, hs with
    | [v0], _ => exact ⟨v0, rfl⟩
  have hw := fun d (hd : d ∈ tables_1) => atoms_spec (ws := Jvm.Cond.code x code maxLocals ret :: tables_1) hat d (List.mem_cons_of_mem _ hd)
  have hfit : Fit s := fun {y c} hc i hi => by
    obtain ⟨ha, rfl⟩ := Array.getElem?_eq_some_iff.mp hc
    have q := List.all_eq_true.mp ((Array.all_eq_true_iff_forall_mem.mp hF) _ (Array.getElem_mem ha)) i (List.mem_range.mpr hi)
    simpa [Array.getElem?_eq_getElem hi] using q
  obtain ⟨i0, ei0⟩ := is_v hgs
  obtain rfl : v0 = (.int i0) := Option.some.inj ei0
  obtain ⟨n1, n2⟩ := and_e hn
  obtain ⟨n3, n4⟩ := and_e n2
  obtain ⟨n5, n6⟩ := and_e n4
  obtain ⟨n7, n8⟩ := and_e n6
  obtain ⟨n9, n10⟩ := and_e n8
  obtain ⟨w_USER, e_w_USER⟩ := exa_v n1
  obtain ⟨w_REVIEWER, e_w_REVIEWER⟩ := exa_v n3
  obtain ⟨w_ADMIN, e_w_ADMIN⟩ := exa_v n5
  have h_S_w_USER := Sta.start e_w_USER (Or.inr ⟨(hw _ (List.mem_of_getElem? (i := 3) rfl)), (hw _ (List.mem_of_getElem? (i := 4) rfl))⟩)
  have h_E_w_USER := Exa.start e_w_USER n1
  have h_S_w_REVIEWER := Sta.start e_w_REVIEWER (Or.inr ⟨(hw _ (List.mem_of_getElem? (i := 3) rfl)), (hw _ (List.mem_of_getElem? (i := 7) rfl))⟩)
  have h_E_w_REVIEWER := Exa.start e_w_REVIEWER n3
  have h_S_w_ADMIN := Sta.start e_w_ADMIN (Or.inr ⟨(hw _ (List.mem_of_getElem? (i := 3) rfl)), (hw _ (List.mem_of_getElem? (i := 9) rfl))⟩)
  have h_E_w_ADMIN := Exa.start e_w_ADMIN n5
  have h_F_ordinal_w_USER := own_fld e_w_USER n7
  have h_F_ordinal_w_ADMIN := own_fld e_w_ADMIN n9
  have h_F_ordinal_w_REVIEWER := own_fld e_w_REVIEWER n10
  obtain ⟨n, o, h1, h2, h3, _, L, rfl, ⟨rfl, N⟩, hq⟩ := rm0 l s _ hw tables_1 i0 w_USER w_REVIEWER w_ADMIN s.heap s.heap.size (Nat.le_refl _) h_S_w_USER h_E_w_USER h_S_w_REVIEWER h_E_w_REVIEWER h_S_w_ADMIN h_E_w_ADMIN h_F_ordinal_w_USER h_F_ordinal_w_ADMIN h_F_ordinal_w_REVIEWER p e ha hc hk s m _ below hf ((Spec.applies_iff_loose hf).mp happ).1 ⟨rfl, State.Warmed39.refl s, rfl⟩ trivial
  exact ⟨n, _, h1, h2, h3, hpost _ _ _ _ _ _ ⟨Cond.after_iff.mpr rfl, Cond.after_iff.mpr (eq_i res_at (Term.int_eval (1)) rfl), trivial⟩ ⟨hq.1, hq.2.1, (hq.2.2.sift fun y hy => Or.inr (N y hy)).mono (by decide) (by decide)⟩⟩
theorem main_1_1 : Claimed_1_1 := comes_1 fun _ _ _ _ _ _ h hF => ⟨h.1, hF⟩
theorem main_1_2 : Claimed_1_2 := comes_1 fun _ _ _ _ _ _ h hF => ⟨h.2.1, hF⟩
end Jvm.Pilot.@@N@@
namespace Jvm.Pilot.@@N@@
open Jvm Jvm.ClassFile Sem Op Lib Jvm.Free Jvm.Stand Jvm.Pilot.@@N@@.Jvm.D
/-! MADE BY PROGRAM (witnessworld.py) out of the Statement's table words and the real class files: 13 classes; the members and pool entries that the words name. The judged class is class 1, her method 1. -/
namespace start1
open Jvm.ClassFile
def u (s : String) : CpInfo := .utf8 (stringToUtf16 s)
/-- a pool by its gaps: so many unusable entries, then the entry; so many at the end -/
def gap : Nat → List CpInfo → List CpInfo
  | 0, r => r
  | n + 1, r => .unusable :: gap n r
def poolList (es : List (Nat × CpInfo)) (last : Nat) : List CpInfo := es.foldr (fun e r => gap e.1 (e.2 :: r)) (gap last [])
def pool (es : List (Nat × CpInfo)) (last : Nat) : Array CpInfo := ⟨poolList es last⟩
def fileOf (pool : Array CpInfo) (this : Nat) (attrs : Array Attribute := #[]) (ms : Array MethodInfo := #[]) (fl : Nat := 33) (sup : Nat := 0) (ifs : Array Nat := #[]) (fds : Array FieldInfo := #[]) : ClassFile where
  minorVersion := 0
  majorVersion := 65
  constantPool := pool
  accessFlags := fl
  thisClass := this
  superClass := sup
  interfaces := ifs
  fields := fds
  methods := ms
  attributes := attrs
def plain (name : String) (sup : Option ClassId) : Class where
  name := name
  kind := .ordinary
  loader := none
  accessFlags := 33
  super := sup
  interfaces := #[]
  cf := none
  fields := #[]
  methods := #[]
  instanceTypes := #[]
  staticTypes := #[]
  resolved := #[]
  callSites := []
  init := .initialized
  statics := none
  mirror := none

def pool0 : Array CpInfo := pool [(5, u "<init>"), (0, u "()V"), (1, .class_ 10), (1, u "java/lang/Object")] 113

def k0m0 : Method := { name := "<init>", desc := "()V", sig := { parameters := [], returnType := none }, accessFlags := 1, code := none }
/-- java/lang/Object -/
def k0 : Class := { plain "java/lang/Object" none with
  accessFlags := 33
  interfaces := #[]
  cf := some (fileOf pool0 8 #[] #[{ accessFlags := 1, nameIndex := 5, descriptorIndex := 6, attributes := #[] }] 33 0 #[] #[])
  fields := #[]
  methods := #[k0m0]
  instanceTypes := #[]
  staticTypes := #[]
  resolved := Array.replicate 124 none
  statics := none }

def pool1 : Array CpInfo := pool [(2, .class_ 4), (1, u "java/lang/Object"), (0, u "<init>"), (0, u "()V"), (0, .class_ 8), (0, u "com/example/grantd/grantd/account/Role"), (0, .fieldref 7 10), (0, .nameAndType 11 12), (0, u "USER"), (0, u "Lcom/example/grantd/grantd/account/Role;"), (0, .fieldref 7 14), (0, .nameAndType 15 12), (0, u "REVIEWER"), (0, .fieldref 7 17), (0, .nameAndType 18 12), (0, u "ADMIN"), (0, .integer 2147483647), (0, .methodref 7 21), (0, .nameAndType 22 23), (0, u "changesAnyClient"), (0, u "()Z"), (0, .methodref 7 25), (0, .nameAndType 26 23), (0, u "reviewsClients"), (0, .class_ 28), (0, u "com/example/grantd/grantd/account/RoleChangesAnyClientPinLaw"), (2, u "law"), (0, u "(I)Z")] 5

def k1m0 : Method := { name := "<init>", desc := "()V", sig := { parameters := [], returnType := none }, accessFlags := 1, code := none }
def k1c1 : Code := { maxStack := 4, maxLocals := 6, code := code, exceptionTable := #[], attributes := #[] }
def k1m1 : Method := { name := "law", desc := "(I)Z", sig := { parameters := [.int], returnType := some .boolean }, accessFlags := 9, code := some k1c1 }
/-- com/example/grantd/grantd/account/RoleChangesAnyClientPinLaw -/
def k1 : Class := { plain "com/example/grantd/grantd/account/RoleChangesAnyClientPinLaw" (some 0) with
  accessFlags := 49
  interfaces := #[]
  cf := some (fileOf pool1 27 #[] #[{ accessFlags := 1, nameIndex := 5, descriptorIndex := 6, attributes := #[] }, { accessFlags := 9, nameIndex := 31, descriptorIndex := 32, attributes := #[] }] 49 2 #[] #[])
  fields := #[]
  methods := #[k1m0, k1m1]
  instanceTypes := #[]
  staticTypes := #[]
  resolved := Array.replicate 38 none
  statics := none }

def pool2 : Array CpInfo := pool [(1, .class_ 2), (0, u "java/lang/constant/Constable"), (0, .class_ 4), (0, u "java/lang/Object")] 6

/-- java/lang/constant/Constable -/
def k2 : Class := { plain "java/lang/constant/Constable" (some 0) with
  accessFlags := 1537
  interfaces := #[]
  cf := some (fileOf pool2 1 #[] #[] 1537 3 #[] #[])
  fields := #[]
  methods := #[]
  instanceTypes := #[]
  staticTypes := #[]
  resolved := Array.replicate 11 none
  statics := none }

def pool3 : Array CpInfo := pool [(1, .class_ 2), (0, u "java/lang/Comparable"), (0, .class_ 4), (0, u "java/lang/Object")] 7

/-- java/lang/Comparable -/
def k3 : Class := { plain "java/lang/Comparable" (some 0) with
  accessFlags := 1537
  interfaces := #[]
  cf := some (fileOf pool3 1 #[] #[] 1537 3 #[] #[])
  fields := #[]
  methods := #[]
  instanceTypes := #[]
  staticTypes := #[]
  resolved := Array.replicate 12 none
  statics := none }

def pool4 : Array CpInfo := pool [(1, .class_ 2), (0, u "java/io/Serializable"), (0, .class_ 4), (0, u "java/lang/Object")] 2

/-- java/io/Serializable -/
def k4 : Class := { plain "java/io/Serializable" (some 0) with
  accessFlags := 1537
  interfaces := #[]
  cf := some (fileOf pool4 1 #[] #[] 1537 3 #[] #[])
  fields := #[]
  methods := #[]
  instanceTypes := #[]
  staticTypes := #[]
  resolved := Array.replicate 7 none
  statics := none }

def pool5 : Array CpInfo := pool [(2, .class_ 4), (1, u "java/lang/Enum"), (0, u "name"), (0, u "Ljava/lang/String;"), (2, u "ordinal"), (0, u "I"), (1, .class_ 14), (1, u "java/lang/Object"), (4, u "hash"), (86, .class_ 108), (1, u "java/lang/Enum$EnumDesc"), (2, .class_ 112), (0, u "java/lang/constant/Constable"), (0, .class_ 114), (0, u "java/lang/Comparable"), (0, .class_ 116), (0, u "java/io/Serializable")] 87

/-- java/lang/Enum -/
def k5 : Class := { plain "java/lang/Enum" (some 0) with
  accessFlags := 1057
  interfaces := #[2, 3, 4]
  cf := some (fileOf pool5 2 #[.nestMembers #[106]] #[] 1057 12 #[111, 113, 115] #[{ accessFlags := 18, nameIndex := 5, descriptorIndex := 6, attributes := #[] }, { accessFlags := 18, nameIndex := 9, descriptorIndex := 10, attributes := #[] }, { accessFlags := 2, nameIndex := 19, descriptorIndex := 10, attributes := #[] }])
  fields := #[{ name := "name", type := (.object "java/lang/String"), accessFlags := 18, slot := 0, constantValue := 0 }, { name := "ordinal", type := .int, accessFlags := 18, slot := 1, constantValue := 0 }, { name := "hash", type := .int, accessFlags := 2, slot := 2, constantValue := 0 }]
  methods := #[]
  instanceTypes := #[(.object "java/lang/String"), .int, .int]
  staticTypes := #[]
  resolved := Array.replicate 204 none
  statics := none }

def pool6 : Array CpInfo := pool [(1, .class_ 2), (0, u "com/example/grantd/grantd/account/Role"), (2, u "USER"), (0, u "Lcom/example/grantd/grantd/account/Role;"), (0, .fieldref 1 8), (0, .nameAndType 9 6), (0, u "REVIEWER"), (0, .fieldref 1 11), (0, .nameAndType 12 6), (0, u "ADMIN"), (2, u "$VALUES"), (0, u "[Lcom/example/grantd/grantd/account/Role;"), (6, .class_ 25), (1, u "java/lang/Enum"), (57, u "reviewsClients"), (0, u "()Z"), (0, u "changesAnyClient")] 19

def k6c0 : Code := { maxStack := 2, maxLocals := 1, code := prog_5_method_6_code, exceptionTable := #[], attributes := #[] }
def k6m0 : Method := { name := "reviewsClients", desc := "()Z", sig := { parameters := [], returnType := some .boolean }, accessFlags := 1, code := some k6c0 }
def k6c1 : Code := { maxStack := 2, maxLocals := 1, code := prog_5_method_7_code, exceptionTable := #[], attributes := #[] }
def k6m1 : Method := { name := "changesAnyClient", desc := "()Z", sig := { parameters := [], returnType := some .boolean }, accessFlags := 1, code := some k6c1 }
/-- com/example/grantd/grantd/account/Role -/
def k6 : Class := { plain "com/example/grantd/grantd/account/Role" (some 5) with
  accessFlags := 16433
  interfaces := #[]
  cf := some (fileOf pool6 1 #[] #[{ accessFlags := 1, nameIndex := 83, descriptorIndex := 84, attributes := #[] }, { accessFlags := 1, nameIndex := 85, descriptorIndex := 84, attributes := #[] }] 16433 23 #[] #[{ accessFlags := 16409, nameIndex := 5, descriptorIndex := 6, attributes := #[] }, { accessFlags := 16409, nameIndex := 9, descriptorIndex := 6, attributes := #[] }, { accessFlags := 16409, nameIndex := 12, descriptorIndex := 6, attributes := #[] }, { accessFlags := 4122, nameIndex := 15, descriptorIndex := 16, attributes := #[] }])
  fields := #[{ name := "USER", type := (.object "com/example/grantd/grantd/account/Role"), accessFlags := 16409, slot := 0, constantValue := 0 }, { name := "REVIEWER", type := (.object "com/example/grantd/grantd/account/Role"), accessFlags := 16409, slot := 1, constantValue := 0 }, { name := "ADMIN", type := (.object "com/example/grantd/grantd/account/Role"), accessFlags := 16409, slot := 2, constantValue := 0 }, { name := "$VALUES", type := (.array (.object "com/example/grantd/grantd/account/Role")), accessFlags := 4122, slot := 3, constantValue := 0 }]
  methods := #[k6m0, k6m1]
  instanceTypes := #[(.object "java/lang/String"), .int, .int]
  staticTypes := #[(.object "com/example/grantd/grantd/account/Role"), (.object "com/example/grantd/grantd/account/Role"), (.object "com/example/grantd/grantd/account/Role"), (.array (.object "com/example/grantd/grantd/account/Role"))]
  resolved := Array.replicate 105 none
  statics := some 0 }

def pool7 : Array CpInfo := pool [(1, u "java/lang/Cloneable"), (0, .class_ 1), (0, u "java/lang/Object"), (0, .class_ 3)] 3

/-- java/lang/Cloneable -/
def k7 : Class := { plain "java/lang/Cloneable" (some 0) with
  accessFlags := 1537
  interfaces := #[]
  cf := some (fileOf pool7 2 #[] #[] 1537 4 #[] #[])
  fields := #[]
  methods := #[]
  instanceTypes := #[]
  staticTypes := #[]
  resolved := Array.replicate 8 none
  statics := none }

/-- the primitive byte -/
def k8 : Class := { plain "byte" none with kind := .primitive 'B', accessFlags := 0x411 }
/-- [B -/
def k9 : Class := { plain "[B" (some 0) with kind := .array 8 .byte, interfaces := #[7, 4], accessFlags := 1041 }

/-- the primitive int -/
def k10 : Class := { plain "int" none with kind := .primitive 'I', accessFlags := 0x411 }
/-- [I -/
def k11 : Class := { plain "[I" (some 0) with kind := .array 10 .int, interfaces := #[7, 4], accessFlags := 1041 }

/-- [Lcom/example/grantd/grantd/account/Role; -/
def k12 : Class := { plain "[Lcom/example/grantd/grantd/account/Role;" (some 0) with kind := .array 6 (.object "com/example/grantd/grantd/account/Role"), interfaces := #[7, 4], accessFlags := 1041 }

def heap : Heap := #[{ cls := 6, slots := #[.ref 1, .ref 2, .ref 3, .null], vm := .statics 6 },
  { cls := 6, slots := #[.null, .int 0, .int 0], vm := .none },
  { cls := 6, slots := #[.null, .int 1, .int 0], vm := .none },
  { cls := 6, slots := #[.null, .int 2, .int 0], vm := .none }]
def classes : Array Class := #[k0, k1, k2, k3, k4, k5, k6, k7, k8, k9, k10, k11, k12]
def interned : List (Array UInt16 × Addr) := []
def slotsUsed : Nat := 13
def theMethod : MethodId := ⟨1, 1⟩
def args0 : Array Value := #[.int 5]
def aboutOver (below : List Frame) : State where
  vm := { classes := classes, interned := interned.toArray }
  heap := heap
  slotsUsed := slotsUsed
  threads := #[{ frames := .invoking theMethod args0 :: below }]
def below0 : List Frame := [.native { method := ⟨0, 0⟩, args := #[] }]
def about1 : State := aboutOver below0
def p0 : Program := .bare "" "" ""
def e0 : Env := launch0.env 0 0 0
theorem w_frames : about1.frames = Frame.invoking theMethod args0 :: below0 := rfl
set_option maxRecDepth 65536 in
theorem w_args : argsFit about1.vm theMethod args0 = true := by decide +kernel
set_option maxRecDepth 65536 in
theorem w_heap : heapFits about1 = true := by decide +kernel
set_option maxRecDepth 65536 in
theorem w_runnable : about1.curStatus? = some .runnable := by decide +kernel
set_option maxRecDepth 65536 in
theorem w_alone : about1.alone = true := by decide +kernel
set_option maxRecDepth 65536 in
theorem w_named : about1.methodNamed? x = some theMethod := by decide +kernel
set_option maxRecDepth 65536 in
theorem w_hears : about1.hears theMethod below0 = true := by decide +kernel
set_option maxRecDepth 65536 in
theorem w_ripe : about1.ripe theMethod args0 below0 = true := by decide +kernel
theorem w_running : about1.status = .running := rfl
set_option maxRecDepth 65536 in
theorem w_room : about1.hasRoom e0.platform room_1 = true :=
  launch0.hasRoom_least _ room_1 (by decide +kernel) (by decide +kernel) (by decide +kernel) (by decide +kernel) (by decide +kernel) (by decide +kernel)
theorem allAtoms_all (ts : List Jvm.Cond) (a : Array Jvm.Value) (st : Jvm.State) : (allAtoms ts).before a st = ts.all (fun c => c.before a st) := by
  induction ts with
  | nil => rfl
  | cons c t ih =>
    show (Jvm.Cond.and c (allAtoms t)).before a st = _
    rw [Jvm.Cond.before_and, ih, List.all_cons]
def words1 : List Jvm.Cond := Jvm.Cond.code x code maxLocals ret :: tables_1
/-- a 'code' word, met by the world's own term for the bytes: nothing is compared byte by byte -/
theorem code_word {y : MethodName} {bytes : ByteArray} {mx : Nat} {rt : Option FieldType} {a : Array Value} {s : State} {m : MethodId} {meth : Method} {c : Code} (h1 : s.methodNamed? y = some m) (h2 : s.vm.method? m = some meth) (h3 : meth.code = some c) (h4 : c.code = bytes)
    (h5 : (c.maxLocals == mx && c.exceptionTable.isEmpty && decide (c.maxStack ≤ mostOperands) && decide (meth.sig.returnType = rt) && !meth.locks && decide (parseMethodDescriptor y.desc = some meth.sig)) = true) : (Jvm.Cond.code y bytes mx rt).before a s = true := by
  simp only [Bool.and_eq_true, beq_iff_eq, Bool.not_eq_true', decide_eq_true_eq] at h5
  obtain ⟨⟨⟨⟨⟨g1, g2⟩, g3⟩, g4⟩, g5⟩, g6⟩ := h5
  simp [Cond.before, Cond.holds, Cond.value, h1, h2, h3, h4, g1, g2, g3, g4, g5, g6]
def isCode : Jvm.Cond → Bool
  | .code _ _ _ _ => true
  | _ => false
theorem all_split {L : List Jvm.Cond} {P : Jvm.Cond → Bool} (h1 : L.all (fun c => isCode c || P c) = true) (h2 : ∀ c ∈ L.filter isCode, P c = true) : L.all P = true := by
  refine List.all_eq_true.mpr fun c hc => ?_
  have h := List.all_eq_true.mp h1 c hc
  rcases Bool.eq_false_or_eq_true (isCode c) with hi | hi
  · exact h2 c (List.mem_filter.mpr ⟨hc, hi⟩)
  · simpa [hi] using h
set_option maxRecDepth 65536 in
theorem w_c0 : (Jvm.Cond.code x code maxLocals ret).before args0 about1 = true := code_word (m := ⟨1, 1⟩) (meth := k1m1) (c := k1c1) (by decide +kernel) rfl rfl rfl (by decide +kernel)
set_option maxRecDepth 65536 in
theorem w_c1 : (Jvm.Cond.code ({ cls := "com/example/grantd/grantd/account/Role", name := "changesAnyClient", desc := "()Z" } : Jvm.MethodName) prog_5_method_7_code (1 : Nat) (Option.some Jvm.ClassFile.FieldType.boolean)).before args0 about1 = true := code_word (m := ⟨6, 1⟩) (meth := k6m1) (c := k6c1) (by decide +kernel) rfl rfl rfl (by decide +kernel)
set_option maxRecDepth 65536 in
theorem w_c2 : (Jvm.Cond.code ({ cls := "com/example/grantd/grantd/account/Role", name := "reviewsClients", desc := "()Z" } : Jvm.MethodName) prog_5_method_6_code (1 : Nat) (Option.some Jvm.ClassFile.FieldType.boolean)).before args0 about1 = true := code_word (m := ⟨6, 0⟩) (meth := k6m0) (c := k6c0) (by decide +kernel) rfl rfl rfl (by decide +kernel)
def codes1 : List Jvm.Cond := [Jvm.Cond.code x code maxLocals ret, Jvm.Cond.code ({ cls := "com/example/grantd/grantd/account/Role", name := "changesAnyClient", desc := "()Z" } : Jvm.MethodName) prog_5_method_7_code (1 : Nat) (Option.some Jvm.ClassFile.FieldType.boolean), Jvm.Cond.code ({ cls := "com/example/grantd/grantd/account/Role", name := "reviewsClients", desc := "()Z" } : Jvm.MethodName) prog_5_method_6_code (1 : Nat) (Option.some Jvm.ClassFile.FieldType.boolean)]
set_option maxRecDepth 65536 in
theorem codes_eq : words1.filter isCode = codes1 := rfl
theorem w_codes : ∀ c ∈ words1.filter isCode, c.before args0 about1 = true := by
  rw [codes_eq]
  intro c hc
  simp only [codes1, List.mem_cons, List.not_mem_nil, or_false] at hc
  rcases hc with rfl | rfl | rfl
  · exact w_c0
  · exact w_c1
  · exact w_c2
set_option maxRecDepth 65536 in
theorem w_t1 : words1.all (fun c => isCode c || c.before args0 about1) = true := by decide +kernel
theorem w_tables : (allAtoms (Jvm.Cond.code x code maxLocals ret :: tables_1)).before args0 about1 = true := by
  rw [allAtoms_all]
  show words1.all (fun c => c.before args0 about1) = true
  refine all_split ?_ w_codes
  rw [w_t1]
set_option maxRecDepth 65536 in
theorem w_case : (Jvm.Cond.and given_1 narrow_1).before args0 about1 = true := by decide +kernel
theorem w_applies : (headSpec (Jvm.Cond.code x code maxLocals ret :: tables_1) room_1).applies x e0.platform about1 = true :=
  (Spec.applies_iff w_frames).mpr ⟨w_running, w_runnable, w_alone, w_named, w_hears, w_ripe, w_room, w_tables⟩
theorem atStart : AtStart classFile x code maxLocals ret World_1 tables_1 room_1 Calls_1 rest_1 Pre_1 launch0 p0 e0 about1 theMethod args0 below0 :=
  ⟨lists_1, trivial, launch0.admits_env _ _ _, launch0.least_env, fairChoices_fair.cas, fairChoices_fair.clock, w_frames, w_args, w_heap, w_applies, trivial, trivial, w_case⟩
end start1
theorem witness_1 : WitnessClaimed_1 := ⟨start1.p0, start1.e0, start1.about1, start1.theMethod, start1.args0, start1.below0, start1.atStart⟩
end Jvm.Pilot.@@N@@
