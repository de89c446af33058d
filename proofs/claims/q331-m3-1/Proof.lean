import JvmDerived
import JvmDerived.Pilot.@@N@@Statement
import JvmDerived.Pilot.@@N@@Code
set_option linter.unusedVariables false
set_option linter.unusedSimpArgs false
namespace Jvm.RoadKit
open Sem ClassFile Op Lib Jvm.Stand Jvm.Free Jvm.LawKit
section New
variable {p : Program} {l : Launch} {e : Env} {R : Room} {s : State} {m : MethodId} {args : Array Value} {below : List Frame} {meth : Method} {c : Code} {T : State} {locs : List Loc} {cells slots : Nat}
theorem retI (X : Stand p l e R s m args below meth c T locs cells slots) (hx : p.tables.exec = Jvm.exec) {pc : Nat} {Ls : Array Slot} {z : Int32} {rest : List Value} (hret : meth.sig.returnType = some .int) (hd : decode c.code pc = .ok (.ireturn, 1)) {fs : List Frame}
    (hl : ∀ (f : JFrame) (acts : List Action), f.method = m → f.locked = none → f.entered = [] → (doReturn e (T.setTop f) acts (some (.int z))).1 = T.setFrames fs) : Steps p.tables e below (T.setTop (mkF m pc Ls (.int z :: rest))) (T.setFrames fs) := by
  have hm' : T.vm.method? m = some meth := X.method'
  have hn : narrow .int (.int z) = .int z := rfl
  show Steps p.tables e below (T.setTop { method := m, pc := pc, locals := Ls, stack := _ :: rest, locked := none }) _
  jvm_step X.here [X.here.top, hx, hd, hm', hret, hn]
  first | (intro acts; rw [hl _ acts rfl rfl rfl]) | rw [hl _ _ rfl rfl rfl]
  exact Steps.refl _
end New
end Jvm.RoadKit
namespace Jvm.Pilot.@@N@@
open Jvm Jvm.ClassFile Sem Op Lib Jvm.Free Jvm.Stand Jvm.LawKit Jvm.RoadKit Bundle Jvm.Pilot.@@N@@.Jvm.D
theorem own_fld {Z : State} {args : Array Value} {t : Term} {C n d : String} {k : Int32} {x : Addr} (ht : t.eval args Z none [] Z = some (.ref x)) (h : (Jvm.Cond.eq (Term.field t C n d) (Term.int k)).value args Z none Z [] = some true) : Fld Z Z.heap x C n d (.int k) := by
  refine Fld.start ?_
  have e := fld_at (C := C) (n := n) (dd := d) ht
  obtain ⟨u, w, e1, e2, -, -⟩ := cmp_v (Or.inl h)
  rw [e] at e1
  have e3 : (Term.int k).eval args Z none [] Z = some (.int k) := Term.int_eval k
  cases e3.symm.trans e2
  have e4 : (Term.field t C n d).eval args Z none [] Z = some u := e.trans e1
  have h' := h
  cases u <;> simp [Jvm.Cond.value, e4, e3] at h'
  subst h'
  exact e1
theorem own_eqI {Z : State} {args : Array Value} {t : Term} {k : Int32} (h : (Jvm.Cond.eq t (Term.int k)).value args Z none Z [] = some true) : t.eval args Z none [] Z = some (.int k) := by
  obtain ⟨u, w, e1, e2, -, -⟩ := cmp_v (Or.inl h)
  have e3 : (Term.int k).eval args Z none [] Z = some (.int k) := Term.int_eval k
  cases e3.symm.trans e2
  have h' := h
  cases u <;> simp [Jvm.Cond.value, e1, e3] at h'
  subst h'
  exact e1
theorem own_maskHi (x m : Int32) (k : Nat) (hk : k ≤ 31) (hm : m.toBitVec.toNat = 2 ^ k - 1) : (x &&& m).toInt < ((2 ^ k : Nat) : Int) := by
  rw [c_mask x m k hk hm]; exact Int.emod_lt_of_pos _ (Int.natCast_pos.mpr (Nat.two_pow_pos k))
theorem own_maskLo (x m : Int32) (k : Nat) (hk : k ≤ 31) (hm : m.toBitVec.toNat = 2 ^ k - 1) : 0 ≤ (x &&& m).toInt := by
  rw [c_mask x m k hk hm]; exact Int.emod_nonneg _ (Int.natCast_ne_zero.mpr (Nat.ne_of_gt (Nat.two_pow_pos k)))
theorem own_remLo (x y : Int32) (hx : 0 ≤ x.toInt) (hy : 0 < y.toInt) : 0 ≤ (x % y).toInt := ((c_iremV x y).1 hx hy).1
theorem own_remHi (x y : Int32) (hx : 0 ≤ x.toInt) (hy : 0 < y.toInt) : (x % y).toInt < y.toInt := ((c_iremV x y).1 hx hy).2.1
theorem own_nf {s : State} {args : Array Value} {C : String} {z y : MethodName} (hsel : (Jvm.Cond.selects C z z).before args s = true) (e : z.cls = y.cls) : NotFace s y := fun r0 h0 => by
  obtain ⟨c2, r2, m2, -, -, q3, -, kP, hkP, hkPi⟩ := Cond.selects_spec hsel
  have a := findClass_of_methodNamed q3
  rw [e] at a
  have b : m2.cls = r0.cls := Option.some.inj (a.symm.trans (findClass_of_methodNamed h0))
  exact ⟨kP, b ▸ hkP, hkPi⟩
theorem own_privateBack {p : Program} {l : Launch} {e : Env} {R : Room} {s : State} {m : MethodId} {args : Array Value} {below : List Frame} {meth : Method} {c : Code} {T : State} {locs : List Loc} {cells slots : Nat} (X : Stand p l e R s m args below meth c T locs cells slots) (hexec : p.tables.exec = Jvm.exec) {own : String} {index : Nat} {y : MethodName} {bytes : ByteArray} {maxL : Nat} {ret : Option FieldType}
    (hown : s.vm.findClass own = some m.cls) (hlink : (Jvm.Cond.methodLink own index y).before args s = true) (hinst : (Jvm.Cond.instanceMethod y).before args s = true) (hnf : NotFace s y)
    (hpriv : s.PrivateAt y) (hcode : (Jvm.Cond.code y bytes maxL ret).before args s = true) (hy : y.cls ≠ "java/lang/invoke/MethodHandle" ∧ y.cls ≠ "java/lang/invoke/VarHandle")
    {W : Nat} {Pre : Pt → Array Value → Prop} {Post : Pt → Array Value → Option Value → Pt → Prop} (hK : Back l R p e below s args y 3 W Pre Post)
    {g : JFrame} (hg : g.method = m) (hsize : g.locals.size = c.maxLocals) {s₀ : State} (hcome : Steps p.tables e below s₀ (T.setTop g)) {a : Addr} {cell : Cell} (hcell : T.heap[a]? = some cell) (hobj : ∀ q, cell.vm ≠ .statics q)
    {argsL rest : List Value} (hlen : ∀ sig, parseMethodDescriptor y.desc = some sig → argsL.length = sig.parameters.length)
    (hstack : g.stack = argsL.reverse ++ .ref a :: rest) (hW : 2 * g.monitorRoom + (rest.map fun v => v.category).sum ≤ W) (hdg : decode c.code g.pc = .ok (.invokevirtual index, 3))
    (hpre : ∀ vm₁, s.WarmedH vm₁ → Pre ⟨T.setVm vm₁, locs, cells, slots⟩ (.ref a :: argsL).toArray) :
    ∃ (v : Option Value) (vm₁ : Vm) (B : Pt), s.WarmedH vm₁ ∧ Stand p l e R s m args below meth c B.U B.locs B.cells B.slots ∧ Post ⟨T.setVm vm₁, locs, cells, slots⟩ (.ref a :: argsL).toArray v B ∧
      Steps p.tables e below s₀ (B.U.setTop { g with pc := g.pc + 3, stack := v.toList ++ rest }) := by
  obtain ⟨mk, methM, hnamed, hmethM, hstM, habM⟩ := Cond.instanceMethod_spec hinst
  obtain ⟨_, _, hmeth2, -, -, -, -, -, -, hsigM⟩ := Cond.code_spec hnamed hcode
  cases hmethM.symm.trans hmeth2
  obtain ⟨kP, hkP, hkPi⟩ := hnf mk hnamed
  have hselP : selectMethod e.platform s.vm cell.cls mk = .method mk := selectMethod_private hmethM (hpriv mk methM hnamed hmethM)
  obtain ⟨vm₁, X₁, hstep₁⟩ := X.invokevirtual hexec hown hlink hnamed hmethM hstM hkP hkPi hy (a := a) (cell := cell) hcell hobj hselP hmethM habM hkP hkPi (g := g) hg (argsL := argsL) (rest := rest) (hlen _ hsigM) hstack hdg
  obtain ⟨v, B, X2, hpost, hsteps⟩ := hK m meth c ⟨T.setVm vm₁, locs, cells, slots⟩ { g with stack := rest } (.invokevirtual index) mk (.ref a :: argsL).toArray X₁ hg hsize hdg hW (X₁.named hnamed) (hpre vm₁ X₁.warmed)
  exact ⟨v, vm₁, B, X₁.warmed, X2, hpost, (hcome.trans (hstep₁ _ fun acts => by rw [doInvoke_state]; exact Steps.refl _)).trans hsteps⟩
theorem own_staKeep {Z : State} {h h' : Heap} {C n d : String} {v : Value} {ws : List Addr} (F : Sta Z h C n d v) (K : Keep h h' ws) (hn : ∀ x ∈ ws, ∀ cell : Cell, h[x]? = some cell → cell.vm.isStatics = false) : Sta Z h' C n d v := by
  obtain ⟨cf, i, k, f, st, cell, h1, h2, h3, h4, h5, h6, h7⟩ := F
  exact ⟨cf, i, k, f, st, cell, h1, h2, h3, h4, K.2.1 _ _ h5 (fun q => by rw [hn st q cell h5] at h6; cases h6), h6, h7⟩
theorem ef_0 (m : MethodId) (x0 : Int32) : entryFrame m #[(.int x0)] maxLocals = mkF m 0 #[.val (.int x0), .unset, .unset, .unset, .unset, .unset, .unset] [] := by first | (simp [entryFrame, mkF, argsToLocals, Value.category, maxLocals]; done) | rfl
theorem pn_0 : plainName "com/example/svratka/svratka/authz/AccessChangeNarrowsPinLaw" = true := by first | (simp [plainName, overriddenIn]; done) | decide +kernel
theorem own_lt4 (e : Int32) (h0 : 0 ≤ e.toInt) (h1 : e.toInt < 4) : e = (0 : Int32) ∨ e = (1 : Int32) ∨ e = (2 : Int32) ∨ e = (3 : Int32) := by
  have h2 : e.toInt = 0 ∨ e.toInt = 1 ∨ e.toInt = 2 ∨ e.toInt = 3 := by omega
  rcases h2 with h | h | h | h
  · exact (Or.inl (Int32.toInt_inj.mp (h.trans (by decide))))
  · exact (Or.inr (Or.inl (Int32.toInt_inj.mp (h.trans (by decide)))))
  · exact (Or.inr (Or.inr (Or.inl (Int32.toInt_inj.mp (h.trans (by decide))))))
  · exact (Or.inr (Or.inr (Or.inr (Int32.toInt_inj.mp (h.trans (by decide))))))
theorem d_prog_4_method_6_0 : decode prog_4_method_6_code 0 = .ok (.aload_n 0, 1) := by decide +kernel
theorem d_prog_4_method_6_1 : decode prog_4_method_6_code 1 = .ok (.getstatic 10, 3) := by decide +kernel
theorem d_prog_4_method_6_4 : decode prog_4_method_6_code 4 = .ok (.if_acmp .eq 10, 3) := by decide +kernel
theorem d_prog_4_method_6_7 : decode prog_4_method_6_code 7 = .ok (.aload_n 0, 1) := by decide +kernel
theorem d_prog_4_method_6_8 : decode prog_4_method_6_code 8 = .ok (.getstatic 13, 3) := by decide +kernel
theorem d_prog_4_method_6_11 : decode prog_4_method_6_code 11 = .ok (.if_acmp .ne 7, 3) := by decide +kernel
theorem d_prog_4_method_6_18 : decode prog_4_method_6_code 18 = .ok (.iconst 0, 1) := by decide +kernel
theorem d_prog_4_method_6_19 : decode prog_4_method_6_code 19 = .ok (.ireturn, 1) := by decide +kernel
theorem ef_1 (m : MethodId) (x0 : Addr) : entryFrame m #[(.ref x0)] 1 = mkF m 0 #[.val (.ref x0)] [] := by first | (simp [entryFrame, mkF, argsToLocals, Value.category, maxLocals]; done) | rfl
theorem pn_1 : plainName "com/example/svratka/svratka/authz/AccessChange" = true := by first | (simp [plainName, overriddenIn]; done) | decide +kernel
def Q1 (Z : State) (a1 : Addr) (a2 : Addr) (a4 : Addr) (h0 : Heap) (n0 : Nat) (v : Option Value) (h : Heap) (L : List Loc) : Prop := v = some (.int (0 : Int32)) ∧ Fr n0 L ∧ h = h0
set_option maxRecDepth 65536 in
set_option maxHeartbeats 40000000 in
theorem rm1 (l : Launch) (Z : State) (a0 : Array Value) (hw : ∀ d ∈ tables_1, d.before a0 Z = true) (ws : List Jvm.Cond) (a1 : Addr) (a2 : Addr) (a4 : Addr) (h0 : Heap) (n0 : Nat) (Z0 : n0 ≤ h0.size) (S_NARROWS : Sta Z h0 "com/example/svratka/svratka/authz/AccessChange" "NARROWS" "Lcom/example/svratka/svratka/authz/AccessChange;" (.ref a2)) (ne_a1_a2 : a1 ≠ a2) (S_MIXED : Sta Z h0 "com/example/svratka/svratka/authz/AccessChange" "MIXED" "Lcom/example/svratka/svratka/authz/AccessChange;" (.ref a4)) (ne_a1_a4 : a1 ≠ a4) :
    MetFree l (⟨"com/example/svratka/svratka/authz/AccessChange", "narrows", "()Z"⟩ : MethodName) (head1 (Jvm.Cond.code (⟨"com/example/svratka/svratka/authz/AccessChange", "narrows", "()Z"⟩ : MethodName) prog_4_method_6_code 1 (some .boolean) :: ws) ({ frames := 0, cells := 0, slots := 0, locals := 0 } : Room)) (fun a U => a = #[(.ref a1)] ∧ Z.Warmed39 U.vm ∧ U.heap = h0) (fun _ _ _ _ _ => True) (fun _ U o U' => ∃ v L, o = .returned v ∧ Q1 Z a1 a2 a4 h0 n0 v U'.heap L ∧ FrameEnd U o U' L ({ frames := 0, cells := 0, slots := 0, locals := 0 } : Room).cells ({ frames := 0, cells := 0, slots := 0, locals := 0 } : Room).slots) := by
  refine MetFree.of_bodySF (plainFor_of_name pn_1) hisR ?_
  intro p e s m args below meth c s₁ Bd hml0 hP hK
  obtain ⟨rfl, hZ, hh⟩ := hP
  have hx := Bd.exec
  have hby := Bd.bytes
  have hml : c.maxLocals = 1 := hml0
  have hown : s.vm.findClass "com/example/svratka/svratka/authz/AccessChange" = some m.cls := findClass_of_methodNamed Bd.named
  have hnm := (name_of_methodNamed Bd.named Bd.method).1
  have X0 : Stand p l e ({ frames := 0, cells := 0, slots := 0, locals := 0 } : Room) s m #[(.ref a1)] below meth c s₁ [] 0 0 := Stand.of_body Bd
  have e0 : s₁.heap = h0 := by rw [← hh, Bd.state]; rfl
  have N0 := Fr.nil n0
  have pre0 : ∀ t, Steps p.tables e below (s₁.setTop (mkF m 0 #[.val (.ref a1)] [])) t → Steps p.tables e below (s₁.setTop (entryFrame m #[(.ref a1)] 1)) t := fun t k => castTop (ef_1 m a1) k
  obtain ⟨T3, X3, e3, st3⟩ := getS2 X0 hx hZ hown (host := "") (Or.inl (hw _ (List.mem_of_getElem? (i := 8) rfl))) Via.refl e0 S_NARROWS (g := (mkF m 1 #[.val (.ref a1)] [(.ref a1)])) rfl (hb hby d_prog_4_method_6_1)
  obtain ⟨T5, X5, e5, st5⟩ := getS2 X3 hx hZ hown (host := "") (Or.inl (hw _ (List.mem_of_getElem? (i := 10) rfl))) Via.refl e3 S_MIXED (g := (mkF m 8 #[.val (.ref a1)] [(.ref a1)])) rfl (hb hby d_prog_4_method_6_8)
  have pre6 : ∀ t, Steps p.tables e below (T5.setTop (mkF m 19 #[.val (.ref a1)] [(.int (0 : Int32))])) t → Steps p.tables e below (s₁.setTop (entryFrame m #[(.ref a1)] 1)) t := fun t kk => pre0 t (by
    show Steps p.tables e below (s₁.setTop (mkF m 0 #[.val (.ref a1)] [])) _
    refine XS.aloadN X0.here hx rfl (hb hby d_prog_4_method_6_0) rfl rfl ?_
    show Steps p.tables e below (s₁.setTop (mkF m 1 #[.val (.ref a1)] [(.ref a1)])) _
    refine st3 _ ?_
    show Steps p.tables e below (T3.setTop (mkF m 4 #[.val (.ref a1)] [(.ref a2), (.ref a1)])) _
    refine Jvm.RoadKit.acmp (g := (mkF m 4 #[.val (.ref a1)] [(.ref a2), (.ref a1)])) X3 hx rfl rfl rfl (pc0 := 4) (pc' := 7) (same := false) rfl (hb hby d_prog_4_method_6_4) rfl (decide_eq_false fun q => ne_a1_a2 (Value.ref.inj q)) (by decide) (by decide) ?_
    show Steps p.tables e below (T3.setTop (mkF m 7 #[.val (.ref a1)] [])) _
    refine XS.aloadN X3.here hx rfl (hb hby d_prog_4_method_6_7) rfl rfl ?_
    show Steps p.tables e below (T3.setTop (mkF m 8 #[.val (.ref a1)] [(.ref a1)])) _
    refine st5 _ ?_
    show Steps p.tables e below (T5.setTop (mkF m 11 #[.val (.ref a1)] [(.ref a4), (.ref a1)])) _
    refine Jvm.RoadKit.acmp (g := (mkF m 11 #[.val (.ref a1)] [(.ref a4), (.ref a1)])) X5 hx rfl rfl rfl (pc0 := 11) (pc' := 18) (same := false) rfl (hb hby d_prog_4_method_6_11) rfl (decide_eq_false fun q => ne_a1_a4 (Value.ref.inj q)) (by decide) (by decide) ?_
    show Steps p.tables e below (T5.setTop (mkF m 18 #[.val (.ref a1)] [])) _
    refine XS.iconst X5.here hx rfl (hb hby d_prog_4_method_6_18) ?_
    exact kk)
  obtain ⟨fs, hr, hrun, hended, hW, hsame⟩ := X5.leave (v := some (.int (0 : Int32))) (fun h => by rw [Bd.returns] at h; cases h)
  refine ⟨_, _, pre6 _ ?_, hrun, hended, _, _, rfl, ?_, ⟨_, rfl⟩, hW, hsame.mono (by decide) (by decide)⟩
  · exact retN X5 hx (t := .boolean) Bd.returns (by simp) (hb hby d_prog_4_method_6_19) hr
  · show Q1 Z a1 a2 a4 h0 n0 _ T5.heap _
    rw [e5]
    exact ⟨rfl, N0, rfl⟩
theorem pd_0 : parseMethodDescriptor "()Z" = some ⟨[], some .boolean⟩ := by decide +kernel
theorem d_prog_4_method_5_0 : decode prog_4_method_5_code 0 = .ok (.aload_n 0, 1) := by decide +kernel
theorem d_prog_4_method_5_1 : decode prog_4_method_5_code 1 = .ok (.getstatic 7, 3) := by decide +kernel
theorem d_prog_4_method_5_4 : decode prog_4_method_5_code 4 = .ok (.if_acmp .eq 10, 3) := by decide +kernel
theorem d_prog_4_method_5_7 : decode prog_4_method_5_code 7 = .ok (.aload_n 0, 1) := by decide +kernel
theorem d_prog_4_method_5_8 : decode prog_4_method_5_code 8 = .ok (.getstatic 13, 3) := by decide +kernel
theorem d_prog_4_method_5_11 : decode prog_4_method_5_code 11 = .ok (.if_acmp .ne 7, 3) := by decide +kernel
theorem d_prog_4_method_5_18 : decode prog_4_method_5_code 18 = .ok (.iconst 0, 1) := by decide +kernel
theorem d_prog_4_method_5_19 : decode prog_4_method_5_code 19 = .ok (.ireturn, 1) := by decide +kernel
def Q2 (Z : State) (a1 : Addr) (a2 : Addr) (a4 : Addr) (h0 : Heap) (n0 : Nat) (v : Option Value) (h : Heap) (L : List Loc) : Prop := v = some (.int (0 : Int32)) ∧ Fr n0 L ∧ h = h0
set_option maxRecDepth 65536 in
set_option maxHeartbeats 40000000 in
theorem rm2 (l : Launch) (Z : State) (a0 : Array Value) (hw : ∀ d ∈ tables_1, d.before a0 Z = true) (ws : List Jvm.Cond) (a1 : Addr) (a2 : Addr) (a4 : Addr) (h0 : Heap) (n0 : Nat) (Z0 : n0 ≤ h0.size) (S_WIDENS : Sta Z h0 "com/example/svratka/svratka/authz/AccessChange" "WIDENS" "Lcom/example/svratka/svratka/authz/AccessChange;" (.ref a2)) (ne_a1_a2 : a1 ≠ a2) (S_MIXED : Sta Z h0 "com/example/svratka/svratka/authz/AccessChange" "MIXED" "Lcom/example/svratka/svratka/authz/AccessChange;" (.ref a4)) (ne_a1_a4 : a1 ≠ a4) :
    MetFree l (⟨"com/example/svratka/svratka/authz/AccessChange", "widens", "()Z"⟩ : MethodName) (head1 (Jvm.Cond.code (⟨"com/example/svratka/svratka/authz/AccessChange", "widens", "()Z"⟩ : MethodName) prog_4_method_5_code 1 (some .boolean) :: ws) ({ frames := 0, cells := 0, slots := 0, locals := 0 } : Room)) (fun a U => a = #[(.ref a1)] ∧ Z.Warmed39 U.vm ∧ U.heap = h0) (fun _ _ _ _ _ => True) (fun _ U o U' => ∃ v L, o = .returned v ∧ Q2 Z a1 a2 a4 h0 n0 v U'.heap L ∧ FrameEnd U o U' L ({ frames := 0, cells := 0, slots := 0, locals := 0 } : Room).cells ({ frames := 0, cells := 0, slots := 0, locals := 0 } : Room).slots) := by
  refine MetFree.of_bodySF (plainFor_of_name pn_1) hisR ?_
  intro p e s m args below meth c s₁ Bd hml0 hP hK
  obtain ⟨rfl, hZ, hh⟩ := hP
  have hx := Bd.exec
  have hby := Bd.bytes
  have hml : c.maxLocals = 1 := hml0
  have hown : s.vm.findClass "com/example/svratka/svratka/authz/AccessChange" = some m.cls := findClass_of_methodNamed Bd.named
  have hnm := (name_of_methodNamed Bd.named Bd.method).1
  have X0 : Stand p l e ({ frames := 0, cells := 0, slots := 0, locals := 0 } : Room) s m #[(.ref a1)] below meth c s₁ [] 0 0 := Stand.of_body Bd
  have e0 : s₁.heap = h0 := by rw [← hh, Bd.state]; rfl
  have N0 := Fr.nil n0
  have pre0 : ∀ t, Steps p.tables e below (s₁.setTop (mkF m 0 #[.val (.ref a1)] [])) t → Steps p.tables e below (s₁.setTop (entryFrame m #[(.ref a1)] 1)) t := fun t k => castTop (ef_1 m a1) k
  obtain ⟨T3, X3, e3, st3⟩ := getS2 X0 hx hZ hown (host := "") (Or.inl (hw _ (List.mem_of_getElem? (i := 17) rfl))) Via.refl e0 S_WIDENS (g := (mkF m 1 #[.val (.ref a1)] [(.ref a1)])) rfl (hb hby d_prog_4_method_5_1)
  obtain ⟨T5, X5, e5, st5⟩ := getS2 X3 hx hZ hown (host := "") (Or.inl (hw _ (List.mem_of_getElem? (i := 10) rfl))) Via.refl e3 S_MIXED (g := (mkF m 8 #[.val (.ref a1)] [(.ref a1)])) rfl (hb hby d_prog_4_method_5_8)
  have pre6 : ∀ t, Steps p.tables e below (T5.setTop (mkF m 19 #[.val (.ref a1)] [(.int (0 : Int32))])) t → Steps p.tables e below (s₁.setTop (entryFrame m #[(.ref a1)] 1)) t := fun t kk => pre0 t (by
    show Steps p.tables e below (s₁.setTop (mkF m 0 #[.val (.ref a1)] [])) _
    refine XS.aloadN X0.here hx rfl (hb hby d_prog_4_method_5_0) rfl rfl ?_
    show Steps p.tables e below (s₁.setTop (mkF m 1 #[.val (.ref a1)] [(.ref a1)])) _
    refine st3 _ ?_
    show Steps p.tables e below (T3.setTop (mkF m 4 #[.val (.ref a1)] [(.ref a2), (.ref a1)])) _
    refine Jvm.RoadKit.acmp (g := (mkF m 4 #[.val (.ref a1)] [(.ref a2), (.ref a1)])) X3 hx rfl rfl rfl (pc0 := 4) (pc' := 7) (same := false) rfl (hb hby d_prog_4_method_5_4) rfl (decide_eq_false fun q => ne_a1_a2 (Value.ref.inj q)) (by decide) (by decide) ?_
    show Steps p.tables e below (T3.setTop (mkF m 7 #[.val (.ref a1)] [])) _
    refine XS.aloadN X3.here hx rfl (hb hby d_prog_4_method_5_7) rfl rfl ?_
    show Steps p.tables e below (T3.setTop (mkF m 8 #[.val (.ref a1)] [(.ref a1)])) _
    refine st5 _ ?_
    show Steps p.tables e below (T5.setTop (mkF m 11 #[.val (.ref a1)] [(.ref a4), (.ref a1)])) _
    refine Jvm.RoadKit.acmp (g := (mkF m 11 #[.val (.ref a1)] [(.ref a4), (.ref a1)])) X5 hx rfl rfl rfl (pc0 := 11) (pc' := 18) (same := false) rfl (hb hby d_prog_4_method_5_11) rfl (decide_eq_false fun q => ne_a1_a4 (Value.ref.inj q)) (by decide) (by decide) ?_
    show Steps p.tables e below (T5.setTop (mkF m 18 #[.val (.ref a1)] [])) _
    refine XS.iconst X5.here hx rfl (hb hby d_prog_4_method_5_18) ?_
    exact kk)
  obtain ⟨fs, hr, hrun, hended, hW, hsame⟩ := X5.leave (v := some (.int (0 : Int32))) (fun h => by rw [Bd.returns] at h; cases h)
  refine ⟨_, _, pre6 _ ?_, hrun, hended, _, _, rfl, ?_, ⟨_, rfl⟩, hW, hsame.mono (by decide) (by decide)⟩
  · exact retN X5 hx (t := .boolean) Bd.returns (by simp) (hb hby d_prog_4_method_5_19) hr
  · show Q2 Z a1 a2 a4 h0 n0 _ T5.heap _
    rw [e5]
    exact ⟨rfl, N0, rfl⟩
theorem d_prog_4_method_4_0 : decode prog_4_method_4_code 0 = .ok (.iload_n 0, 1) := by decide +kernel
theorem d_prog_4_method_4_1 : decode prog_4_method_4_code 1 = .ok (.ifCond .eq 14, 3) := by decide +kernel
theorem d_prog_4_method_4_15 : decode prog_4_method_4_code 15 = .ok (.iload_n 0, 1) := by decide +kernel
theorem d_prog_4_method_4_16 : decode prog_4_method_4_code 16 = .ok (.ifCond .eq 10, 3) := by decide +kernel
theorem d_prog_4_method_4_26 : decode prog_4_method_4_code 26 = .ok (.iload_n 1, 1) := by decide +kernel
theorem d_prog_4_method_4_27 : decode prog_4_method_4_code 27 = .ok (.ifCond .eq 10, 3) := by decide +kernel
theorem d_prog_4_method_4_37 : decode prog_4_method_4_code 37 = .ok (.getstatic 3, 3) := by decide +kernel
theorem d_prog_4_method_4_40 : decode prog_4_method_4_code 40 = .ok (.astore_n 2, 1) := by decide +kernel
theorem d_prog_4_method_4_41 : decode prog_4_method_4_code 41 = .ok (.aload_n 2, 1) := by decide +kernel
theorem d_prog_4_method_4_42 : decode prog_4_method_4_code 42 = .ok (.areturn, 1) := by decide +kernel
theorem ef_2 (m : MethodId)  : entryFrame m #[(.int (0 : Int32)), (.int (0 : Int32))] 3 = mkF m 0 #[.val (.int (0 : Int32)), .val (.int (0 : Int32)), .unset] [] := by first | (simp [entryFrame, mkF, argsToLocals, Value.category, maxLocals]; done) | rfl
def Q3 (Z : State) (a1 : Addr) (h0 : Heap) (n0 : Nat) (v : Option Value) (h : Heap) (L : List Loc) : Prop := v = some (.ref a1) ∧ Fr n0 L ∧ h = h0
set_option maxRecDepth 65536 in
set_option maxHeartbeats 40000000 in
theorem rm3 (l : Launch) (Z : State) (a0 : Array Value) (hw : ∀ d ∈ tables_1, d.before a0 Z = true) (ws : List Jvm.Cond) (a1 : Addr) (h0 : Heap) (n0 : Nat) (Z0 : n0 ≤ h0.size) (S_NONE : Sta Z h0 "com/example/svratka/svratka/authz/AccessChange" "NONE" "Lcom/example/svratka/svratka/authz/AccessChange;" (.ref a1)) :
    MetFree l (⟨"com/example/svratka/svratka/authz/AccessChange", "of", "(ZZ)Lcom/example/svratka/svratka/authz/AccessChange;"⟩ : MethodName) (head1 (Jvm.Cond.code (⟨"com/example/svratka/svratka/authz/AccessChange", "of", "(ZZ)Lcom/example/svratka/svratka/authz/AccessChange;"⟩ : MethodName) prog_4_method_4_code 3 (some (.object "com/example/svratka/svratka/authz/AccessChange")) :: ws) ({ frames := 0, cells := 0, slots := 0, locals := 0 } : Room)) (fun a U => a = #[(.int (0 : Int32)), (.int (0 : Int32))] ∧ Z.Warmed39 U.vm ∧ U.heap = h0) (fun _ _ _ _ _ => True) (fun _ U o U' => ∃ v L, o = .returned v ∧ Q3 Z a1 h0 n0 v U'.heap L ∧ FrameEnd U o U' L ({ frames := 0, cells := 0, slots := 0, locals := 0 } : Room).cells ({ frames := 0, cells := 0, slots := 0, locals := 0 } : Room).slots) := by
  refine MetFree.of_bodySF (plainFor_of_name pn_1) hisR ?_
  intro p e s m args below meth c s₁ Bd hml0 hP hK
  obtain ⟨rfl, hZ, hh⟩ := hP
  have hx := Bd.exec
  have hby := Bd.bytes
  have hml : c.maxLocals = 3 := hml0
  have hown : s.vm.findClass "com/example/svratka/svratka/authz/AccessChange" = some m.cls := findClass_of_methodNamed Bd.named
  have hnm := (name_of_methodNamed Bd.named Bd.method).1
  have X0 : Stand p l e ({ frames := 0, cells := 0, slots := 0, locals := 0 } : Room) s m #[(.int (0 : Int32)), (.int (0 : Int32))] below meth c s₁ [] 0 0 := Stand.of_body Bd
  have e0 : s₁.heap = h0 := by rw [← hh, Bd.state]; rfl
  have N0 := Fr.nil n0
  have pre0 : ∀ t, Steps p.tables e below (s₁.setTop (mkF m 0 #[.val (.int (0 : Int32)), .val (.int (0 : Int32)), .unset] [])) t → Steps p.tables e below (s₁.setTop (entryFrame m #[(.int (0 : Int32)), (.int (0 : Int32))] 3)) t := fun t k => castTop (ef_2 m ) k
  obtain ⟨T2, X2, e2, st2⟩ := getS2 X0 hx hZ hown (host := "") (Or.inl (hw _ (List.mem_of_getElem? (i := 22) rfl))) Via.refl e0 S_NONE (g := (mkF m 37 #[.val (.int (0 : Int32)), .val (.int (0 : Int32)), .unset] [])) rfl (hb hby d_prog_4_method_4_37)
  have pre3 : ∀ t, Steps p.tables e below (T2.setTop (mkF m 42 #[.val (.int (0 : Int32)), .val (.int (0 : Int32)), .val (.ref a1)] [(.ref a1)])) t → Steps p.tables e below (s₁.setTop (entryFrame m #[(.int (0 : Int32)), (.int (0 : Int32))] 3)) t := fun t kk => pre0 t (by
    show Steps p.tables e below (s₁.setTop (mkF m 0 #[.val (.int (0 : Int32)), .val (.int (0 : Int32)), .unset] [])) _
    refine XS.iloadN X0.here hx rfl (hb hby d_prog_4_method_4_0) rfl ?_
    show Steps p.tables e below (s₁.setTop (mkF m 1 #[.val (.int (0 : Int32)), .val (.int (0 : Int32)), .unset] [(.int (0 : Int32))])) _
    refine XS.ifYes X0.here hx rfl (pc0 := 1) (pc' := 15) rfl (hb hby d_prog_4_method_4_1) rfl ((if0 _ _).trans (teq ((by decide) : (0 : Int32) = (0 : Int32))).1) (by decide) (by decide) ?_
    show Steps p.tables e below (s₁.setTop (mkF m 15 #[.val (.int (0 : Int32)), .val (.int (0 : Int32)), .unset] [])) _
    refine XS.iloadN X0.here hx rfl (hb hby d_prog_4_method_4_15) rfl ?_
    show Steps p.tables e below (s₁.setTop (mkF m 16 #[.val (.int (0 : Int32)), .val (.int (0 : Int32)), .unset] [(.int (0 : Int32))])) _
    refine XS.ifYes X0.here hx rfl (pc0 := 16) (pc' := 26) rfl (hb hby d_prog_4_method_4_16) rfl ((if0 _ _).trans (teq ((by decide) : (0 : Int32) = (0 : Int32))).1) (by decide) (by decide) ?_
    show Steps p.tables e below (s₁.setTop (mkF m 26 #[.val (.int (0 : Int32)), .val (.int (0 : Int32)), .unset] [])) _
    refine XS.iloadN X0.here hx rfl (hb hby d_prog_4_method_4_26) rfl ?_
    show Steps p.tables e below (s₁.setTop (mkF m 27 #[.val (.int (0 : Int32)), .val (.int (0 : Int32)), .unset] [(.int (0 : Int32))])) _
    refine XS.ifYes X0.here hx rfl (pc0 := 27) (pc' := 37) rfl (hb hby d_prog_4_method_4_27) rfl ((if0 _ _).trans (teq ((by decide) : (0 : Int32) = (0 : Int32))).1) (by decide) (by decide) ?_
    show Steps p.tables e below (s₁.setTop (mkF m 37 #[.val (.int (0 : Int32)), .val (.int (0 : Int32)), .unset] [])) _
    refine st2 _ ?_
    show Steps p.tables e below (T2.setTop (mkF m 40 #[.val (.int (0 : Int32)), .val (.int (0 : Int32)), .unset] [(.ref a1)])) _
    refine XS.astoreN X2.here hx rfl (hb hby d_prog_4_method_4_40) rfl rfl (l' := #[.val (.int (0 : Int32)), .val (.int (0 : Int32)), .val (.ref a1)]) rfl ?_
    show Steps p.tables e below (T2.setTop (mkF m 41 #[.val (.int (0 : Int32)), .val (.int (0 : Int32)), .val (.ref a1)] [])) _
    refine XS.aloadN X2.here hx rfl (hb hby d_prog_4_method_4_41) rfl rfl ?_
    exact kk)
  obtain ⟨fs, hr, hrun, hended, hW, hsame⟩ := X2.leave (v := some (.ref a1)) (fun h => by rw [Bd.returns] at h; cases h)
  refine ⟨_, _, pre3 _ ?_, hrun, hended, _, _, rfl, ?_, ⟨_, rfl⟩, hW, hsame.mono (by decide) (by decide)⟩
  · exact retOut X2 hx Bd.returns rfl (Or.inr (Or.inr (Or.inr (Or.inr ⟨rfl, rfl, rfl⟩)))) (hb hby d_prog_4_method_4_42) hr
  · show Q3 Z a1 h0 n0 _ T2.heap _
    rw [e2]
    exact ⟨rfl, N0, rfl⟩
theorem pd_1 : parseMethodDescriptor "(ZZ)Lcom/example/svratka/svratka/authz/AccessChange;" = some ⟨[.boolean, .boolean], some (.object "com/example/svratka/svratka/authz/AccessChange")⟩ := by decide +kernel
theorem d_prog_4_method_4_30 : decode prog_4_method_4_code 30 = .ok (.getstatic 10, 3) := by decide +kernel
theorem d_prog_4_method_4_33 : decode prog_4_method_4_code 33 = .ok (.astore_n 2, 1) := by decide +kernel
theorem d_prog_4_method_4_34 : decode prog_4_method_4_code 34 = .ok (.goto 7, 3) := by decide +kernel
theorem ef_3 (m : MethodId)  : entryFrame m #[(.int (0 : Int32)), (.int (1 : Int32))] 3 = mkF m 0 #[.val (.int (0 : Int32)), .val (.int (1 : Int32)), .unset] [] := by first | (simp [entryFrame, mkF, argsToLocals, Value.category, maxLocals]; done) | rfl
def Q4 (Z : State) (a1 : Addr) (h0 : Heap) (n0 : Nat) (v : Option Value) (h : Heap) (L : List Loc) : Prop := v = some (.ref a1) ∧ Fr n0 L ∧ h = h0
set_option maxRecDepth 65536 in
set_option maxHeartbeats 40000000 in
theorem rm4 (l : Launch) (Z : State) (a0 : Array Value) (hw : ∀ d ∈ tables_1, d.before a0 Z = true) (ws : List Jvm.Cond) (a1 : Addr) (h0 : Heap) (n0 : Nat) (Z0 : n0 ≤ h0.size) (S_NARROWS : Sta Z h0 "com/example/svratka/svratka/authz/AccessChange" "NARROWS" "Lcom/example/svratka/svratka/authz/AccessChange;" (.ref a1)) :
    MetFree l (⟨"com/example/svratka/svratka/authz/AccessChange", "of", "(ZZ)Lcom/example/svratka/svratka/authz/AccessChange;"⟩ : MethodName) (head1 (Jvm.Cond.code (⟨"com/example/svratka/svratka/authz/AccessChange", "of", "(ZZ)Lcom/example/svratka/svratka/authz/AccessChange;"⟩ : MethodName) prog_4_method_4_code 3 (some (.object "com/example/svratka/svratka/authz/AccessChange")) :: ws) ({ frames := 0, cells := 0, slots := 0, locals := 0 } : Room)) (fun a U => a = #[(.int (0 : Int32)), (.int (1 : Int32))] ∧ Z.Warmed39 U.vm ∧ U.heap = h0) (fun _ _ _ _ _ => True) (fun _ U o U' => ∃ v L, o = .returned v ∧ Q4 Z a1 h0 n0 v U'.heap L ∧ FrameEnd U o U' L ({ frames := 0, cells := 0, slots := 0, locals := 0 } : Room).cells ({ frames := 0, cells := 0, slots := 0, locals := 0 } : Room).slots) := by
  refine MetFree.of_bodySF (plainFor_of_name pn_1) hisR ?_
  intro p e s m args below meth c s₁ Bd hml0 hP hK
  obtain ⟨rfl, hZ, hh⟩ := hP
  have hx := Bd.exec
  have hby := Bd.bytes
  have hml : c.maxLocals = 3 := hml0
  have hown : s.vm.findClass "com/example/svratka/svratka/authz/AccessChange" = some m.cls := findClass_of_methodNamed Bd.named
  have hnm := (name_of_methodNamed Bd.named Bd.method).1
  have X0 : Stand p l e ({ frames := 0, cells := 0, slots := 0, locals := 0 } : Room) s m #[(.int (0 : Int32)), (.int (1 : Int32))] below meth c s₁ [] 0 0 := Stand.of_body Bd
  have e0 : s₁.heap = h0 := by rw [← hh, Bd.state]; rfl
  have N0 := Fr.nil n0
  have pre0 : ∀ t, Steps p.tables e below (s₁.setTop (mkF m 0 #[.val (.int (0 : Int32)), .val (.int (1 : Int32)), .unset] [])) t → Steps p.tables e below (s₁.setTop (entryFrame m #[(.int (0 : Int32)), (.int (1 : Int32))] 3)) t := fun t k => castTop (ef_3 m ) k
  obtain ⟨T2, X2, e2, st2⟩ := getS2 X0 hx hZ hown (host := "") (Or.inl (hw _ (List.mem_of_getElem? (i := 8) rfl))) Via.refl e0 S_NARROWS (g := (mkF m 30 #[.val (.int (0 : Int32)), .val (.int (1 : Int32)), .unset] [])) rfl (hb hby d_prog_4_method_4_30)
  have pre3 : ∀ t, Steps p.tables e below (T2.setTop (mkF m 42 #[.val (.int (0 : Int32)), .val (.int (1 : Int32)), .val (.ref a1)] [(.ref a1)])) t → Steps p.tables e below (s₁.setTop (entryFrame m #[(.int (0 : Int32)), (.int (1 : Int32))] 3)) t := fun t kk => pre0 t (by
    show Steps p.tables e below (s₁.setTop (mkF m 0 #[.val (.int (0 : Int32)), .val (.int (1 : Int32)), .unset] [])) _
    refine XS.iloadN X0.here hx rfl (hb hby d_prog_4_method_4_0) rfl ?_
    show Steps p.tables e below (s₁.setTop (mkF m 1 #[.val (.int (0 : Int32)), .val (.int (1 : Int32)), .unset] [(.int (0 : Int32))])) _
    refine XS.ifYes X0.here hx rfl (pc0 := 1) (pc' := 15) rfl (hb hby d_prog_4_method_4_1) rfl ((if0 _ _).trans (teq ((by decide) : (0 : Int32) = (0 : Int32))).1) (by decide) (by decide) ?_
    show Steps p.tables e below (s₁.setTop (mkF m 15 #[.val (.int (0 : Int32)), .val (.int (1 : Int32)), .unset] [])) _
    refine XS.iloadN X0.here hx rfl (hb hby d_prog_4_method_4_15) rfl ?_
    show Steps p.tables e below (s₁.setTop (mkF m 16 #[.val (.int (0 : Int32)), .val (.int (1 : Int32)), .unset] [(.int (0 : Int32))])) _
    refine XS.ifYes X0.here hx rfl (pc0 := 16) (pc' := 26) rfl (hb hby d_prog_4_method_4_16) rfl ((if0 _ _).trans (teq ((by decide) : (0 : Int32) = (0 : Int32))).1) (by decide) (by decide) ?_
    show Steps p.tables e below (s₁.setTop (mkF m 26 #[.val (.int (0 : Int32)), .val (.int (1 : Int32)), .unset] [])) _
    refine XS.iloadN X0.here hx rfl (hb hby d_prog_4_method_4_26) rfl ?_
    show Steps p.tables e below (s₁.setTop (mkF m 27 #[.val (.int (0 : Int32)), .val (.int (1 : Int32)), .unset] [(.int (1 : Int32))])) _
    refine XS.ifNo X0.here hx rfl (hb hby d_prog_4_method_4_27) rfl ((if0 _ _).trans (feq ((by decide) : ¬ ((1 : Int32) = (0 : Int32)))).1) ?_
    show Steps p.tables e below (s₁.setTop (mkF m 30 #[.val (.int (0 : Int32)), .val (.int (1 : Int32)), .unset] [])) _
    refine st2 _ ?_
    show Steps p.tables e below (T2.setTop (mkF m 33 #[.val (.int (0 : Int32)), .val (.int (1 : Int32)), .unset] [(.ref a1)])) _
    refine XS.astoreN X2.here hx rfl (hb hby d_prog_4_method_4_33) rfl rfl (l' := #[.val (.int (0 : Int32)), .val (.int (1 : Int32)), .val (.ref a1)]) rfl ?_
    show Steps p.tables e below (T2.setTop (mkF m 34 #[.val (.int (0 : Int32)), .val (.int (1 : Int32)), .val (.ref a1)] [])) _
    refine XS.goto X2.here hx rfl (pc0 := 34) (pc' := 41) rfl (hb hby d_prog_4_method_4_34) (by decide) (by decide) ?_
    show Steps p.tables e below (T2.setTop (mkF m 41 #[.val (.int (0 : Int32)), .val (.int (1 : Int32)), .val (.ref a1)] [])) _
    refine XS.aloadN X2.here hx rfl (hb hby d_prog_4_method_4_41) rfl rfl ?_
    exact kk)
  obtain ⟨fs, hr, hrun, hended, hW, hsame⟩ := X2.leave (v := some (.ref a1)) (fun h => by rw [Bd.returns] at h; cases h)
  refine ⟨_, _, pre3 _ ?_, hrun, hended, _, _, rfl, ?_, ⟨_, rfl⟩, hW, hsame.mono (by decide) (by decide)⟩
  · exact retOut X2 hx Bd.returns rfl (Or.inr (Or.inr (Or.inr (Or.inr ⟨rfl, rfl, rfl⟩)))) (hb hby d_prog_4_method_4_42) hr
  · show Q4 Z a1 h0 n0 _ T2.heap _
    rw [e2]
    exact ⟨rfl, N0, rfl⟩
theorem d_prog_4_method_6_14 : decode prog_4_method_6_code 14 = .ok (.iconst 1, 1) := by decide +kernel
theorem d_prog_4_method_6_15 : decode prog_4_method_6_code 15 = .ok (.goto 4, 3) := by decide +kernel
def Q5 (Z : State) (a1 : Addr) (h0 : Heap) (n0 : Nat) (v : Option Value) (h : Heap) (L : List Loc) : Prop := v = some (.int (1 : Int32)) ∧ Fr n0 L ∧ h = h0
set_option maxRecDepth 65536 in
set_option maxHeartbeats 40000000 in
theorem rm5 (l : Launch) (Z : State) (a0 : Array Value) (hw : ∀ d ∈ tables_1, d.before a0 Z = true) (ws : List Jvm.Cond) (a1 : Addr) (h0 : Heap) (n0 : Nat) (Z0 : n0 ≤ h0.size) (S_NARROWS : Sta Z h0 "com/example/svratka/svratka/authz/AccessChange" "NARROWS" "Lcom/example/svratka/svratka/authz/AccessChange;" (.ref a1)) :
    MetFree l (⟨"com/example/svratka/svratka/authz/AccessChange", "narrows", "()Z"⟩ : MethodName) (head1 (Jvm.Cond.code (⟨"com/example/svratka/svratka/authz/AccessChange", "narrows", "()Z"⟩ : MethodName) prog_4_method_6_code 1 (some .boolean) :: ws) ({ frames := 0, cells := 0, slots := 0, locals := 0 } : Room)) (fun a U => a = #[(.ref a1)] ∧ Z.Warmed39 U.vm ∧ U.heap = h0) (fun _ _ _ _ _ => True) (fun _ U o U' => ∃ v L, o = .returned v ∧ Q5 Z a1 h0 n0 v U'.heap L ∧ FrameEnd U o U' L ({ frames := 0, cells := 0, slots := 0, locals := 0 } : Room).cells ({ frames := 0, cells := 0, slots := 0, locals := 0 } : Room).slots) := by
  refine MetFree.of_bodySF (plainFor_of_name pn_1) hisR ?_
  intro p e s m args below meth c s₁ Bd hml0 hP hK
  obtain ⟨rfl, hZ, hh⟩ := hP
  have hx := Bd.exec
  have hby := Bd.bytes
  have hml : c.maxLocals = 1 := hml0
  have hown : s.vm.findClass "com/example/svratka/svratka/authz/AccessChange" = some m.cls := findClass_of_methodNamed Bd.named
  have hnm := (name_of_methodNamed Bd.named Bd.method).1
  have X0 : Stand p l e ({ frames := 0, cells := 0, slots := 0, locals := 0 } : Room) s m #[(.ref a1)] below meth c s₁ [] 0 0 := Stand.of_body Bd
  have e0 : s₁.heap = h0 := by rw [← hh, Bd.state]; rfl
  have N0 := Fr.nil n0
  have pre0 : ∀ t, Steps p.tables e below (s₁.setTop (mkF m 0 #[.val (.ref a1)] [])) t → Steps p.tables e below (s₁.setTop (entryFrame m #[(.ref a1)] 1)) t := fun t k => castTop (ef_1 m a1) k
  obtain ⟨T2, X2, e2, st2⟩ := getS2 X0 hx hZ hown (host := "") (Or.inl (hw _ (List.mem_of_getElem? (i := 8) rfl))) Via.refl e0 S_NARROWS (g := (mkF m 1 #[.val (.ref a1)] [(.ref a1)])) rfl (hb hby d_prog_4_method_6_1)
  have pre3 : ∀ t, Steps p.tables e below (T2.setTop (mkF m 19 #[.val (.ref a1)] [(.int (1 : Int32))])) t → Steps p.tables e below (s₁.setTop (entryFrame m #[(.ref a1)] 1)) t := fun t kk => pre0 t (by
    show Steps p.tables e below (s₁.setTop (mkF m 0 #[.val (.ref a1)] [])) _
    refine XS.aloadN X0.here hx rfl (hb hby d_prog_4_method_6_0) rfl rfl ?_
    show Steps p.tables e below (s₁.setTop (mkF m 1 #[.val (.ref a1)] [(.ref a1)])) _
    refine st2 _ ?_
    show Steps p.tables e below (T2.setTop (mkF m 4 #[.val (.ref a1)] [(.ref a1), (.ref a1)])) _
    refine Jvm.RoadKit.acmp (g := (mkF m 4 #[.val (.ref a1)] [(.ref a1), (.ref a1)])) X2 hx rfl rfl rfl (pc0 := 4) (pc' := 14) (same := true) rfl (hb hby d_prog_4_method_6_4) rfl (decide_eq_true rfl) (by decide) (by decide) ?_
    show Steps p.tables e below (T2.setTop (mkF m 14 #[.val (.ref a1)] [])) _
    refine XS.iconst X2.here hx rfl (hb hby d_prog_4_method_6_14) ?_
    show Steps p.tables e below (T2.setTop (mkF m 15 #[.val (.ref a1)] [(.int (1 : Int32))])) _
    refine XS.goto X2.here hx rfl (pc0 := 15) (pc' := 19) rfl (hb hby d_prog_4_method_6_15) (by decide) (by decide) ?_
    exact kk)
  obtain ⟨fs, hr, hrun, hended, hW, hsame⟩ := X2.leave (v := some (.int (1 : Int32))) (fun h => by rw [Bd.returns] at h; cases h)
  refine ⟨_, _, pre3 _ ?_, hrun, hended, _, _, rfl, ?_, ⟨_, rfl⟩, hW, hsame.mono (by decide) (by decide)⟩
  · exact retN X2 hx (t := .boolean) Bd.returns (by simp) (hb hby d_prog_4_method_6_19) hr
  · show Q5 Z a1 h0 n0 _ T2.heap _
    rw [e2]
    exact ⟨rfl, N0, rfl⟩
theorem d_prog_4_method_4_4 : decode prog_4_method_4_code 4 = .ok (.iload_n 1, 1) := by decide +kernel
theorem d_prog_4_method_4_5 : decode prog_4_method_4_code 5 = .ok (.ifCond .eq 10, 3) := by decide +kernel
theorem d_prog_4_method_4_19 : decode prog_4_method_4_code 19 = .ok (.getstatic 7, 3) := by decide +kernel
theorem d_prog_4_method_4_22 : decode prog_4_method_4_code 22 = .ok (.astore_n 2, 1) := by decide +kernel
theorem d_prog_4_method_4_23 : decode prog_4_method_4_code 23 = .ok (.goto 18, 3) := by decide +kernel
theorem ef_4 (m : MethodId)  : entryFrame m #[(.int (1 : Int32)), (.int (0 : Int32))] 3 = mkF m 0 #[.val (.int (1 : Int32)), .val (.int (0 : Int32)), .unset] [] := by first | (simp [entryFrame, mkF, argsToLocals, Value.category, maxLocals]; done) | rfl
def Q6 (Z : State) (a1 : Addr) (h0 : Heap) (n0 : Nat) (v : Option Value) (h : Heap) (L : List Loc) : Prop := v = some (.ref a1) ∧ Fr n0 L ∧ h = h0
set_option maxRecDepth 65536 in
set_option maxHeartbeats 40000000 in
theorem rm6 (l : Launch) (Z : State) (a0 : Array Value) (hw : ∀ d ∈ tables_1, d.before a0 Z = true) (ws : List Jvm.Cond) (a1 : Addr) (h0 : Heap) (n0 : Nat) (Z0 : n0 ≤ h0.size) (S_WIDENS : Sta Z h0 "com/example/svratka/svratka/authz/AccessChange" "WIDENS" "Lcom/example/svratka/svratka/authz/AccessChange;" (.ref a1)) :
    MetFree l (⟨"com/example/svratka/svratka/authz/AccessChange", "of", "(ZZ)Lcom/example/svratka/svratka/authz/AccessChange;"⟩ : MethodName) (head1 (Jvm.Cond.code (⟨"com/example/svratka/svratka/authz/AccessChange", "of", "(ZZ)Lcom/example/svratka/svratka/authz/AccessChange;"⟩ : MethodName) prog_4_method_4_code 3 (some (.object "com/example/svratka/svratka/authz/AccessChange")) :: ws) ({ frames := 0, cells := 0, slots := 0, locals := 0 } : Room)) (fun a U => a = #[(.int (1 : Int32)), (.int (0 : Int32))] ∧ Z.Warmed39 U.vm ∧ U.heap = h0) (fun _ _ _ _ _ => True) (fun _ U o U' => ∃ v L, o = .returned v ∧ Q6 Z a1 h0 n0 v U'.heap L ∧ FrameEnd U o U' L ({ frames := 0, cells := 0, slots := 0, locals := 0 } : Room).cells ({ frames := 0, cells := 0, slots := 0, locals := 0 } : Room).slots) := by
  refine MetFree.of_bodySF (plainFor_of_name pn_1) hisR ?_
  intro p e s m args below meth c s₁ Bd hml0 hP hK
  obtain ⟨rfl, hZ, hh⟩ := hP
  have hx := Bd.exec
  have hby := Bd.bytes
  have hml : c.maxLocals = 3 := hml0
  have hown : s.vm.findClass "com/example/svratka/svratka/authz/AccessChange" = some m.cls := findClass_of_methodNamed Bd.named
  have hnm := (name_of_methodNamed Bd.named Bd.method).1
  have X0 : Stand p l e ({ frames := 0, cells := 0, slots := 0, locals := 0 } : Room) s m #[(.int (1 : Int32)), (.int (0 : Int32))] below meth c s₁ [] 0 0 := Stand.of_body Bd
  have e0 : s₁.heap = h0 := by rw [← hh, Bd.state]; rfl
  have N0 := Fr.nil n0
  have pre0 : ∀ t, Steps p.tables e below (s₁.setTop (mkF m 0 #[.val (.int (1 : Int32)), .val (.int (0 : Int32)), .unset] [])) t → Steps p.tables e below (s₁.setTop (entryFrame m #[(.int (1 : Int32)), (.int (0 : Int32))] 3)) t := fun t k => castTop (ef_4 m ) k
  obtain ⟨T2, X2, e2, st2⟩ := getS2 X0 hx hZ hown (host := "") (Or.inl (hw _ (List.mem_of_getElem? (i := 17) rfl))) Via.refl e0 S_WIDENS (g := (mkF m 19 #[.val (.int (1 : Int32)), .val (.int (0 : Int32)), .unset] [])) rfl (hb hby d_prog_4_method_4_19)
  have pre3 : ∀ t, Steps p.tables e below (T2.setTop (mkF m 42 #[.val (.int (1 : Int32)), .val (.int (0 : Int32)), .val (.ref a1)] [(.ref a1)])) t → Steps p.tables e below (s₁.setTop (entryFrame m #[(.int (1 : Int32)), (.int (0 : Int32))] 3)) t := fun t kk => pre0 t (by
    show Steps p.tables e below (s₁.setTop (mkF m 0 #[.val (.int (1 : Int32)), .val (.int (0 : Int32)), .unset] [])) _
    refine XS.iloadN X0.here hx rfl (hb hby d_prog_4_method_4_0) rfl ?_
    show Steps p.tables e below (s₁.setTop (mkF m 1 #[.val (.int (1 : Int32)), .val (.int (0 : Int32)), .unset] [(.int (1 : Int32))])) _
    refine XS.ifNo X0.here hx rfl (hb hby d_prog_4_method_4_1) rfl ((if0 _ _).trans (feq ((by decide) : ¬ ((1 : Int32) = (0 : Int32)))).1) ?_
    show Steps p.tables e below (s₁.setTop (mkF m 4 #[.val (.int (1 : Int32)), .val (.int (0 : Int32)), .unset] [])) _
    refine XS.iloadN X0.here hx rfl (hb hby d_prog_4_method_4_4) rfl ?_
    show Steps p.tables e below (s₁.setTop (mkF m 5 #[.val (.int (1 : Int32)), .val (.int (0 : Int32)), .unset] [(.int (0 : Int32))])) _
    refine XS.ifYes X0.here hx rfl (pc0 := 5) (pc' := 15) rfl (hb hby d_prog_4_method_4_5) rfl ((if0 _ _).trans (teq ((by decide) : (0 : Int32) = (0 : Int32))).1) (by decide) (by decide) ?_
    show Steps p.tables e below (s₁.setTop (mkF m 15 #[.val (.int (1 : Int32)), .val (.int (0 : Int32)), .unset] [])) _
    refine XS.iloadN X0.here hx rfl (hb hby d_prog_4_method_4_15) rfl ?_
    show Steps p.tables e below (s₁.setTop (mkF m 16 #[.val (.int (1 : Int32)), .val (.int (0 : Int32)), .unset] [(.int (1 : Int32))])) _
    refine XS.ifNo X0.here hx rfl (hb hby d_prog_4_method_4_16) rfl ((if0 _ _).trans (feq ((by decide) : ¬ ((1 : Int32) = (0 : Int32)))).1) ?_
    show Steps p.tables e below (s₁.setTop (mkF m 19 #[.val (.int (1 : Int32)), .val (.int (0 : Int32)), .unset] [])) _
    refine st2 _ ?_
    show Steps p.tables e below (T2.setTop (mkF m 22 #[.val (.int (1 : Int32)), .val (.int (0 : Int32)), .unset] [(.ref a1)])) _
    refine XS.astoreN X2.here hx rfl (hb hby d_prog_4_method_4_22) rfl rfl (l' := #[.val (.int (1 : Int32)), .val (.int (0 : Int32)), .val (.ref a1)]) rfl ?_
    show Steps p.tables e below (T2.setTop (mkF m 23 #[.val (.int (1 : Int32)), .val (.int (0 : Int32)), .val (.ref a1)] [])) _
    refine XS.goto X2.here hx rfl (pc0 := 23) (pc' := 41) rfl (hb hby d_prog_4_method_4_23) (by decide) (by decide) ?_
    show Steps p.tables e below (T2.setTop (mkF m 41 #[.val (.int (1 : Int32)), .val (.int (0 : Int32)), .val (.ref a1)] [])) _
    refine XS.aloadN X2.here hx rfl (hb hby d_prog_4_method_4_41) rfl rfl ?_
    exact kk)
  obtain ⟨fs, hr, hrun, hended, hW, hsame⟩ := X2.leave (v := some (.ref a1)) (fun h => by rw [Bd.returns] at h; cases h)
  refine ⟨_, _, pre3 _ ?_, hrun, hended, _, _, rfl, ?_, ⟨_, rfl⟩, hW, hsame.mono (by decide) (by decide)⟩
  · exact retOut X2 hx Bd.returns rfl (Or.inr (Or.inr (Or.inr (Or.inr ⟨rfl, rfl, rfl⟩)))) (hb hby d_prog_4_method_4_42) hr
  · show Q6 Z a1 h0 n0 _ T2.heap _
    rw [e2]
    exact ⟨rfl, N0, rfl⟩
theorem d_prog_4_method_4_8 : decode prog_4_method_4_code 8 = .ok (.getstatic 13, 3) := by decide +kernel
theorem d_prog_4_method_4_11 : decode prog_4_method_4_code 11 = .ok (.astore_n 2, 1) := by decide +kernel
theorem d_prog_4_method_4_12 : decode prog_4_method_4_code 12 = .ok (.goto 29, 3) := by decide +kernel
theorem ef_5 (m : MethodId)  : entryFrame m #[(.int (1 : Int32)), (.int (1 : Int32))] 3 = mkF m 0 #[.val (.int (1 : Int32)), .val (.int (1 : Int32)), .unset] [] := by first | (simp [entryFrame, mkF, argsToLocals, Value.category, maxLocals]; done) | rfl
def Q7 (Z : State) (a1 : Addr) (h0 : Heap) (n0 : Nat) (v : Option Value) (h : Heap) (L : List Loc) : Prop := v = some (.ref a1) ∧ Fr n0 L ∧ h = h0
set_option maxRecDepth 65536 in
set_option maxHeartbeats 40000000 in
theorem rm7 (l : Launch) (Z : State) (a0 : Array Value) (hw : ∀ d ∈ tables_1, d.before a0 Z = true) (ws : List Jvm.Cond) (a1 : Addr) (h0 : Heap) (n0 : Nat) (Z0 : n0 ≤ h0.size) (S_MIXED : Sta Z h0 "com/example/svratka/svratka/authz/AccessChange" "MIXED" "Lcom/example/svratka/svratka/authz/AccessChange;" (.ref a1)) :
    MetFree l (⟨"com/example/svratka/svratka/authz/AccessChange", "of", "(ZZ)Lcom/example/svratka/svratka/authz/AccessChange;"⟩ : MethodName) (head1 (Jvm.Cond.code (⟨"com/example/svratka/svratka/authz/AccessChange", "of", "(ZZ)Lcom/example/svratka/svratka/authz/AccessChange;"⟩ : MethodName) prog_4_method_4_code 3 (some (.object "com/example/svratka/svratka/authz/AccessChange")) :: ws) ({ frames := 0, cells := 0, slots := 0, locals := 0 } : Room)) (fun a U => a = #[(.int (1 : Int32)), (.int (1 : Int32))] ∧ Z.Warmed39 U.vm ∧ U.heap = h0) (fun _ _ _ _ _ => True) (fun _ U o U' => ∃ v L, o = .returned v ∧ Q7 Z a1 h0 n0 v U'.heap L ∧ FrameEnd U o U' L ({ frames := 0, cells := 0, slots := 0, locals := 0 } : Room).cells ({ frames := 0, cells := 0, slots := 0, locals := 0 } : Room).slots) := by
  refine MetFree.of_bodySF (plainFor_of_name pn_1) hisR ?_
  intro p e s m args below meth c s₁ Bd hml0 hP hK
  obtain ⟨rfl, hZ, hh⟩ := hP
  have hx := Bd.exec
  have hby := Bd.bytes
  have hml : c.maxLocals = 3 := hml0
  have hown : s.vm.findClass "com/example/svratka/svratka/authz/AccessChange" = some m.cls := findClass_of_methodNamed Bd.named
  have hnm := (name_of_methodNamed Bd.named Bd.method).1
  have X0 : Stand p l e ({ frames := 0, cells := 0, slots := 0, locals := 0 } : Room) s m #[(.int (1 : Int32)), (.int (1 : Int32))] below meth c s₁ [] 0 0 := Stand.of_body Bd
  have e0 : s₁.heap = h0 := by rw [← hh, Bd.state]; rfl
  have N0 := Fr.nil n0
  have pre0 : ∀ t, Steps p.tables e below (s₁.setTop (mkF m 0 #[.val (.int (1 : Int32)), .val (.int (1 : Int32)), .unset] [])) t → Steps p.tables e below (s₁.setTop (entryFrame m #[(.int (1 : Int32)), (.int (1 : Int32))] 3)) t := fun t k => castTop (ef_5 m ) k
  obtain ⟨T2, X2, e2, st2⟩ := getS2 X0 hx hZ hown (host := "") (Or.inl (hw _ (List.mem_of_getElem? (i := 10) rfl))) Via.refl e0 S_MIXED (g := (mkF m 8 #[.val (.int (1 : Int32)), .val (.int (1 : Int32)), .unset] [])) rfl (hb hby d_prog_4_method_4_8)
  have pre3 : ∀ t, Steps p.tables e below (T2.setTop (mkF m 42 #[.val (.int (1 : Int32)), .val (.int (1 : Int32)), .val (.ref a1)] [(.ref a1)])) t → Steps p.tables e below (s₁.setTop (entryFrame m #[(.int (1 : Int32)), (.int (1 : Int32))] 3)) t := fun t kk => pre0 t (by
    show Steps p.tables e below (s₁.setTop (mkF m 0 #[.val (.int (1 : Int32)), .val (.int (1 : Int32)), .unset] [])) _
    refine XS.iloadN X0.here hx rfl (hb hby d_prog_4_method_4_0) rfl ?_
    show Steps p.tables e below (s₁.setTop (mkF m 1 #[.val (.int (1 : Int32)), .val (.int (1 : Int32)), .unset] [(.int (1 : Int32))])) _
    refine XS.ifNo X0.here hx rfl (hb hby d_prog_4_method_4_1) rfl ((if0 _ _).trans (feq ((by decide) : ¬ ((1 : Int32) = (0 : Int32)))).1) ?_
    show Steps p.tables e below (s₁.setTop (mkF m 4 #[.val (.int (1 : Int32)), .val (.int (1 : Int32)), .unset] [])) _
    refine XS.iloadN X0.here hx rfl (hb hby d_prog_4_method_4_4) rfl ?_
    show Steps p.tables e below (s₁.setTop (mkF m 5 #[.val (.int (1 : Int32)), .val (.int (1 : Int32)), .unset] [(.int (1 : Int32))])) _
    refine XS.ifNo X0.here hx rfl (hb hby d_prog_4_method_4_5) rfl ((if0 _ _).trans (feq ((by decide) : ¬ ((1 : Int32) = (0 : Int32)))).1) ?_
    show Steps p.tables e below (s₁.setTop (mkF m 8 #[.val (.int (1 : Int32)), .val (.int (1 : Int32)), .unset] [])) _
    refine st2 _ ?_
    show Steps p.tables e below (T2.setTop (mkF m 11 #[.val (.int (1 : Int32)), .val (.int (1 : Int32)), .unset] [(.ref a1)])) _
    refine XS.astoreN X2.here hx rfl (hb hby d_prog_4_method_4_11) rfl rfl (l' := #[.val (.int (1 : Int32)), .val (.int (1 : Int32)), .val (.ref a1)]) rfl ?_
    show Steps p.tables e below (T2.setTop (mkF m 12 #[.val (.int (1 : Int32)), .val (.int (1 : Int32)), .val (.ref a1)] [])) _
    refine XS.goto X2.here hx rfl (pc0 := 12) (pc' := 41) rfl (hb hby d_prog_4_method_4_12) (by decide) (by decide) ?_
    show Steps p.tables e below (T2.setTop (mkF m 41 #[.val (.int (1 : Int32)), .val (.int (1 : Int32)), .val (.ref a1)] [])) _
    refine XS.aloadN X2.here hx rfl (hb hby d_prog_4_method_4_41) rfl rfl ?_
    exact kk)
  obtain ⟨fs, hr, hrun, hended, hW, hsame⟩ := X2.leave (v := some (.ref a1)) (fun h => by rw [Bd.returns] at h; cases h)
  refine ⟨_, _, pre3 _ ?_, hrun, hended, _, _, rfl, ?_, ⟨_, rfl⟩, hW, hsame.mono (by decide) (by decide)⟩
  · exact retOut X2 hx Bd.returns rfl (Or.inr (Or.inr (Or.inr (Or.inr ⟨rfl, rfl, rfl⟩)))) (hb hby d_prog_4_method_4_42) hr
  · show Q7 Z a1 h0 n0 _ T2.heap _
    rw [e2]
    exact ⟨rfl, N0, rfl⟩
def Q8 (Z : State) (a1 : Addr) (a2 : Addr) (h0 : Heap) (n0 : Nat) (v : Option Value) (h : Heap) (L : List Loc) : Prop := v = some (.int (1 : Int32)) ∧ Fr n0 L ∧ h = h0
set_option maxRecDepth 65536 in
set_option maxHeartbeats 40000000 in
theorem rm8 (l : Launch) (Z : State) (a0 : Array Value) (hw : ∀ d ∈ tables_1, d.before a0 Z = true) (ws : List Jvm.Cond) (a1 : Addr) (a2 : Addr) (h0 : Heap) (n0 : Nat) (Z0 : n0 ≤ h0.size) (S_NARROWS : Sta Z h0 "com/example/svratka/svratka/authz/AccessChange" "NARROWS" "Lcom/example/svratka/svratka/authz/AccessChange;" (.ref a2)) (ne_a1_a2 : a1 ≠ a2) (S_MIXED : Sta Z h0 "com/example/svratka/svratka/authz/AccessChange" "MIXED" "Lcom/example/svratka/svratka/authz/AccessChange;" (.ref a1)) :
    MetFree l (⟨"com/example/svratka/svratka/authz/AccessChange", "narrows", "()Z"⟩ : MethodName) (head1 (Jvm.Cond.code (⟨"com/example/svratka/svratka/authz/AccessChange", "narrows", "()Z"⟩ : MethodName) prog_4_method_6_code 1 (some .boolean) :: ws) ({ frames := 0, cells := 0, slots := 0, locals := 0 } : Room)) (fun a U => a = #[(.ref a1)] ∧ Z.Warmed39 U.vm ∧ U.heap = h0) (fun _ _ _ _ _ => True) (fun _ U o U' => ∃ v L, o = .returned v ∧ Q8 Z a1 a2 h0 n0 v U'.heap L ∧ FrameEnd U o U' L ({ frames := 0, cells := 0, slots := 0, locals := 0 } : Room).cells ({ frames := 0, cells := 0, slots := 0, locals := 0 } : Room).slots) := by
  refine MetFree.of_bodySF (plainFor_of_name pn_1) hisR ?_
  intro p e s m args below meth c s₁ Bd hml0 hP hK
  obtain ⟨rfl, hZ, hh⟩ := hP
  have hx := Bd.exec
  have hby := Bd.bytes
  have hml : c.maxLocals = 1 := hml0
  have hown : s.vm.findClass "com/example/svratka/svratka/authz/AccessChange" = some m.cls := findClass_of_methodNamed Bd.named
  have hnm := (name_of_methodNamed Bd.named Bd.method).1
  have X0 : Stand p l e ({ frames := 0, cells := 0, slots := 0, locals := 0 } : Room) s m #[(.ref a1)] below meth c s₁ [] 0 0 := Stand.of_body Bd
  have e0 : s₁.heap = h0 := by rw [← hh, Bd.state]; rfl
  have N0 := Fr.nil n0
  have pre0 : ∀ t, Steps p.tables e below (s₁.setTop (mkF m 0 #[.val (.ref a1)] [])) t → Steps p.tables e below (s₁.setTop (entryFrame m #[(.ref a1)] 1)) t := fun t k => castTop (ef_1 m a1) k
  obtain ⟨T3, X3, e3, st3⟩ := getS2 X0 hx hZ hown (host := "") (Or.inl (hw _ (List.mem_of_getElem? (i := 8) rfl))) Via.refl e0 S_NARROWS (g := (mkF m 1 #[.val (.ref a1)] [(.ref a1)])) rfl (hb hby d_prog_4_method_6_1)
  obtain ⟨T4, X4, e4, st4⟩ := getS2 X3 hx hZ hown (host := "") (Or.inl (hw _ (List.mem_of_getElem? (i := 10) rfl))) Via.refl e3 S_MIXED (g := (mkF m 8 #[.val (.ref a1)] [(.ref a1)])) rfl (hb hby d_prog_4_method_6_8)
  have pre5 : ∀ t, Steps p.tables e below (T4.setTop (mkF m 19 #[.val (.ref a1)] [(.int (1 : Int32))])) t → Steps p.tables e below (s₁.setTop (entryFrame m #[(.ref a1)] 1)) t := fun t kk => pre0 t (by
    show Steps p.tables e below (s₁.setTop (mkF m 0 #[.val (.ref a1)] [])) _
    refine XS.aloadN X0.here hx rfl (hb hby d_prog_4_method_6_0) rfl rfl ?_
    show Steps p.tables e below (s₁.setTop (mkF m 1 #[.val (.ref a1)] [(.ref a1)])) _
    refine st3 _ ?_
    show Steps p.tables e below (T3.setTop (mkF m 4 #[.val (.ref a1)] [(.ref a2), (.ref a1)])) _
    refine Jvm.RoadKit.acmp (g := (mkF m 4 #[.val (.ref a1)] [(.ref a2), (.ref a1)])) X3 hx rfl rfl rfl (pc0 := 4) (pc' := 7) (same := false) rfl (hb hby d_prog_4_method_6_4) rfl (decide_eq_false fun q => ne_a1_a2 (Value.ref.inj q)) (by decide) (by decide) ?_
    show Steps p.tables e below (T3.setTop (mkF m 7 #[.val (.ref a1)] [])) _
    refine XS.aloadN X3.here hx rfl (hb hby d_prog_4_method_6_7) rfl rfl ?_
    show Steps p.tables e below (T3.setTop (mkF m 8 #[.val (.ref a1)] [(.ref a1)])) _
    refine st4 _ ?_
    show Steps p.tables e below (T4.setTop (mkF m 11 #[.val (.ref a1)] [(.ref a1), (.ref a1)])) _
    refine Jvm.RoadKit.acmp (g := (mkF m 11 #[.val (.ref a1)] [(.ref a1), (.ref a1)])) X4 hx rfl rfl rfl (pc0 := 11) (pc' := 14) (same := true) rfl (hb hby d_prog_4_method_6_11) rfl (decide_eq_true rfl) (by decide) (by decide) ?_
    show Steps p.tables e below (T4.setTop (mkF m 14 #[.val (.ref a1)] [])) _
    refine XS.iconst X4.here hx rfl (hb hby d_prog_4_method_6_14) ?_
    show Steps p.tables e below (T4.setTop (mkF m 15 #[.val (.ref a1)] [(.int (1 : Int32))])) _
    refine XS.goto X4.here hx rfl (pc0 := 15) (pc' := 19) rfl (hb hby d_prog_4_method_6_15) (by decide) (by decide) ?_
    exact kk)
  obtain ⟨fs, hr, hrun, hended, hW, hsame⟩ := X4.leave (v := some (.int (1 : Int32))) (fun h => by rw [Bd.returns] at h; cases h)
  refine ⟨_, _, pre5 _ ?_, hrun, hended, _, _, rfl, ?_, ⟨_, rfl⟩, hW, hsame.mono (by decide) (by decide)⟩
  · exact retN X4 hx (t := .boolean) Bd.returns (by simp) (hb hby d_prog_4_method_6_19) hr
  · show Q8 Z a1 a2 h0 n0 _ T4.heap _
    rw [e4]
    exact ⟨rfl, N0, rfl⟩
theorem d_prog_4_method_5_14 : decode prog_4_method_5_code 14 = .ok (.iconst 1, 1) := by decide +kernel
theorem d_prog_4_method_5_15 : decode prog_4_method_5_code 15 = .ok (.goto 4, 3) := by decide +kernel
def Q9 (Z : State) (a1 : Addr) (h0 : Heap) (n0 : Nat) (v : Option Value) (h : Heap) (L : List Loc) : Prop := v = some (.int (1 : Int32)) ∧ Fr n0 L ∧ h = h0
set_option maxRecDepth 65536 in
set_option maxHeartbeats 40000000 in
theorem rm9 (l : Launch) (Z : State) (a0 : Array Value) (hw : ∀ d ∈ tables_1, d.before a0 Z = true) (ws : List Jvm.Cond) (a1 : Addr) (h0 : Heap) (n0 : Nat) (Z0 : n0 ≤ h0.size) (S_WIDENS : Sta Z h0 "com/example/svratka/svratka/authz/AccessChange" "WIDENS" "Lcom/example/svratka/svratka/authz/AccessChange;" (.ref a1)) :
    MetFree l (⟨"com/example/svratka/svratka/authz/AccessChange", "widens", "()Z"⟩ : MethodName) (head1 (Jvm.Cond.code (⟨"com/example/svratka/svratka/authz/AccessChange", "widens", "()Z"⟩ : MethodName) prog_4_method_5_code 1 (some .boolean) :: ws) ({ frames := 0, cells := 0, slots := 0, locals := 0 } : Room)) (fun a U => a = #[(.ref a1)] ∧ Z.Warmed39 U.vm ∧ U.heap = h0) (fun _ _ _ _ _ => True) (fun _ U o U' => ∃ v L, o = .returned v ∧ Q9 Z a1 h0 n0 v U'.heap L ∧ FrameEnd U o U' L ({ frames := 0, cells := 0, slots := 0, locals := 0 } : Room).cells ({ frames := 0, cells := 0, slots := 0, locals := 0 } : Room).slots) := by
  refine MetFree.of_bodySF (plainFor_of_name pn_1) hisR ?_
  intro p e s m args below meth c s₁ Bd hml0 hP hK
  obtain ⟨rfl, hZ, hh⟩ := hP
  have hx := Bd.exec
  have hby := Bd.bytes
  have hml : c.maxLocals = 1 := hml0
  have hown : s.vm.findClass "com/example/svratka/svratka/authz/AccessChange" = some m.cls := findClass_of_methodNamed Bd.named
  have hnm := (name_of_methodNamed Bd.named Bd.method).1
  have X0 : Stand p l e ({ frames := 0, cells := 0, slots := 0, locals := 0 } : Room) s m #[(.ref a1)] below meth c s₁ [] 0 0 := Stand.of_body Bd
  have e0 : s₁.heap = h0 := by rw [← hh, Bd.state]; rfl
  have N0 := Fr.nil n0
  have pre0 : ∀ t, Steps p.tables e below (s₁.setTop (mkF m 0 #[.val (.ref a1)] [])) t → Steps p.tables e below (s₁.setTop (entryFrame m #[(.ref a1)] 1)) t := fun t k => castTop (ef_1 m a1) k
  obtain ⟨T2, X2, e2, st2⟩ := getS2 X0 hx hZ hown (host := "") (Or.inl (hw _ (List.mem_of_getElem? (i := 17) rfl))) Via.refl e0 S_WIDENS (g := (mkF m 1 #[.val (.ref a1)] [(.ref a1)])) rfl (hb hby d_prog_4_method_5_1)
  have pre3 : ∀ t, Steps p.tables e below (T2.setTop (mkF m 19 #[.val (.ref a1)] [(.int (1 : Int32))])) t → Steps p.tables e below (s₁.setTop (entryFrame m #[(.ref a1)] 1)) t := fun t kk => pre0 t (by
    show Steps p.tables e below (s₁.setTop (mkF m 0 #[.val (.ref a1)] [])) _
    refine XS.aloadN X0.here hx rfl (hb hby d_prog_4_method_5_0) rfl rfl ?_
    show Steps p.tables e below (s₁.setTop (mkF m 1 #[.val (.ref a1)] [(.ref a1)])) _
    refine st2 _ ?_
    show Steps p.tables e below (T2.setTop (mkF m 4 #[.val (.ref a1)] [(.ref a1), (.ref a1)])) _
    refine Jvm.RoadKit.acmp (g := (mkF m 4 #[.val (.ref a1)] [(.ref a1), (.ref a1)])) X2 hx rfl rfl rfl (pc0 := 4) (pc' := 14) (same := true) rfl (hb hby d_prog_4_method_5_4) rfl (decide_eq_true rfl) (by decide) (by decide) ?_
    show Steps p.tables e below (T2.setTop (mkF m 14 #[.val (.ref a1)] [])) _
    refine XS.iconst X2.here hx rfl (hb hby d_prog_4_method_5_14) ?_
    show Steps p.tables e below (T2.setTop (mkF m 15 #[.val (.ref a1)] [(.int (1 : Int32))])) _
    refine XS.goto X2.here hx rfl (pc0 := 15) (pc' := 19) rfl (hb hby d_prog_4_method_5_15) (by decide) (by decide) ?_
    exact kk)
  obtain ⟨fs, hr, hrun, hended, hW, hsame⟩ := X2.leave (v := some (.int (1 : Int32))) (fun h => by rw [Bd.returns] at h; cases h)
  refine ⟨_, _, pre3 _ ?_, hrun, hended, _, _, rfl, ?_, ⟨_, rfl⟩, hW, hsame.mono (by decide) (by decide)⟩
  · exact retN X2 hx (t := .boolean) Bd.returns (by simp) (hb hby d_prog_4_method_5_19) hr
  · show Q9 Z a1 h0 n0 _ T2.heap _
    rw [e2]
    exact ⟨rfl, N0, rfl⟩
def Q10 (Z : State) (a1 : Addr) (a2 : Addr) (h0 : Heap) (n0 : Nat) (v : Option Value) (h : Heap) (L : List Loc) : Prop := v = some (.int (1 : Int32)) ∧ Fr n0 L ∧ h = h0
set_option maxRecDepth 65536 in
set_option maxHeartbeats 40000000 in
theorem rm10 (l : Launch) (Z : State) (a0 : Array Value) (hw : ∀ d ∈ tables_1, d.before a0 Z = true) (ws : List Jvm.Cond) (a1 : Addr) (a2 : Addr) (h0 : Heap) (n0 : Nat) (Z0 : n0 ≤ h0.size) (S_WIDENS : Sta Z h0 "com/example/svratka/svratka/authz/AccessChange" "WIDENS" "Lcom/example/svratka/svratka/authz/AccessChange;" (.ref a2)) (ne_a1_a2 : a1 ≠ a2) (S_MIXED : Sta Z h0 "com/example/svratka/svratka/authz/AccessChange" "MIXED" "Lcom/example/svratka/svratka/authz/AccessChange;" (.ref a1)) :
    MetFree l (⟨"com/example/svratka/svratka/authz/AccessChange", "widens", "()Z"⟩ : MethodName) (head1 (Jvm.Cond.code (⟨"com/example/svratka/svratka/authz/AccessChange", "widens", "()Z"⟩ : MethodName) prog_4_method_5_code 1 (some .boolean) :: ws) ({ frames := 0, cells := 0, slots := 0, locals := 0 } : Room)) (fun a U => a = #[(.ref a1)] ∧ Z.Warmed39 U.vm ∧ U.heap = h0) (fun _ _ _ _ _ => True) (fun _ U o U' => ∃ v L, o = .returned v ∧ Q10 Z a1 a2 h0 n0 v U'.heap L ∧ FrameEnd U o U' L ({ frames := 0, cells := 0, slots := 0, locals := 0 } : Room).cells ({ frames := 0, cells := 0, slots := 0, locals := 0 } : Room).slots) := by
  refine MetFree.of_bodySF (plainFor_of_name pn_1) hisR ?_
  intro p e s m args below meth c s₁ Bd hml0 hP hK
  obtain ⟨rfl, hZ, hh⟩ := hP
  have hx := Bd.exec
  have hby := Bd.bytes
  have hml : c.maxLocals = 1 := hml0
  have hown : s.vm.findClass "com/example/svratka/svratka/authz/AccessChange" = some m.cls := findClass_of_methodNamed Bd.named
  have hnm := (name_of_methodNamed Bd.named Bd.method).1
  have X0 : Stand p l e ({ frames := 0, cells := 0, slots := 0, locals := 0 } : Room) s m #[(.ref a1)] below meth c s₁ [] 0 0 := Stand.of_body Bd
  have e0 : s₁.heap = h0 := by rw [← hh, Bd.state]; rfl
  have N0 := Fr.nil n0
  have pre0 : ∀ t, Steps p.tables e below (s₁.setTop (mkF m 0 #[.val (.ref a1)] [])) t → Steps p.tables e below (s₁.setTop (entryFrame m #[(.ref a1)] 1)) t := fun t k => castTop (ef_1 m a1) k
  obtain ⟨T3, X3, e3, st3⟩ := getS2 X0 hx hZ hown (host := "") (Or.inl (hw _ (List.mem_of_getElem? (i := 17) rfl))) Via.refl e0 S_WIDENS (g := (mkF m 1 #[.val (.ref a1)] [(.ref a1)])) rfl (hb hby d_prog_4_method_5_1)
  obtain ⟨T4, X4, e4, st4⟩ := getS2 X3 hx hZ hown (host := "") (Or.inl (hw _ (List.mem_of_getElem? (i := 10) rfl))) Via.refl e3 S_MIXED (g := (mkF m 8 #[.val (.ref a1)] [(.ref a1)])) rfl (hb hby d_prog_4_method_5_8)
  have pre5 : ∀ t, Steps p.tables e below (T4.setTop (mkF m 19 #[.val (.ref a1)] [(.int (1 : Int32))])) t → Steps p.tables e below (s₁.setTop (entryFrame m #[(.ref a1)] 1)) t := fun t kk => pre0 t (by
    show Steps p.tables e below (s₁.setTop (mkF m 0 #[.val (.ref a1)] [])) _
    refine XS.aloadN X0.here hx rfl (hb hby d_prog_4_method_5_0) rfl rfl ?_
    show Steps p.tables e below (s₁.setTop (mkF m 1 #[.val (.ref a1)] [(.ref a1)])) _
    refine st3 _ ?_
    show Steps p.tables e below (T3.setTop (mkF m 4 #[.val (.ref a1)] [(.ref a2), (.ref a1)])) _
    refine Jvm.RoadKit.acmp (g := (mkF m 4 #[.val (.ref a1)] [(.ref a2), (.ref a1)])) X3 hx rfl rfl rfl (pc0 := 4) (pc' := 7) (same := false) rfl (hb hby d_prog_4_method_5_4) rfl (decide_eq_false fun q => ne_a1_a2 (Value.ref.inj q)) (by decide) (by decide) ?_
    show Steps p.tables e below (T3.setTop (mkF m 7 #[.val (.ref a1)] [])) _
    refine XS.aloadN X3.here hx rfl (hb hby d_prog_4_method_5_7) rfl rfl ?_
    show Steps p.tables e below (T3.setTop (mkF m 8 #[.val (.ref a1)] [(.ref a1)])) _
    refine st4 _ ?_
    show Steps p.tables e below (T4.setTop (mkF m 11 #[.val (.ref a1)] [(.ref a1), (.ref a1)])) _
    refine Jvm.RoadKit.acmp (g := (mkF m 11 #[.val (.ref a1)] [(.ref a1), (.ref a1)])) X4 hx rfl rfl rfl (pc0 := 11) (pc' := 14) (same := true) rfl (hb hby d_prog_4_method_5_11) rfl (decide_eq_true rfl) (by decide) (by decide) ?_
    show Steps p.tables e below (T4.setTop (mkF m 14 #[.val (.ref a1)] [])) _
    refine XS.iconst X4.here hx rfl (hb hby d_prog_4_method_5_14) ?_
    show Steps p.tables e below (T4.setTop (mkF m 15 #[.val (.ref a1)] [(.int (1 : Int32))])) _
    refine XS.goto X4.here hx rfl (pc0 := 15) (pc' := 19) rfl (hb hby d_prog_4_method_5_15) (by decide) (by decide) ?_
    exact kk)
  obtain ⟨fs, hr, hrun, hended, hW, hsame⟩ := X4.leave (v := some (.int (1 : Int32))) (fun h => by rw [Bd.returns] at h; cases h)
  refine ⟨_, _, pre5 _ ?_, hrun, hended, _, _, rfl, ?_, ⟨_, rfl⟩, hW, hsame.mono (by decide) (by decide)⟩
  · exact retN X4 hx (t := .boolean) Bd.returns (by simp) (hb hby d_prog_4_method_5_19) hr
  · show Q10 Z a1 a2 h0 n0 _ T4.heap _
    rw [e4]
    exact ⟨rfl, N0, rfl⟩
def Q0 (Z : State) (h0 : Heap) (n0 : Nat) (v : Option Value) (h : Heap) (L : List Loc) : Prop := v = some (.int (1 : Int32)) ∧ Fr n0 L
set_option maxRecDepth 65536 in
set_option maxHeartbeats 400000000 in
theorem rm0 (l : Launch) (Z : State) (a0 : Array Value) (hw : ∀ d ∈ tables_1, d.before a0 Z = true) (ws : List Jvm.Cond) (x0 : Int32) (w_NONE : Addr) (w_NARROWS : Addr) (w_MIXED : Addr) (w_WIDENS : Addr) (h0 : Heap) (n0 : Nat) (Z0 : n0 ≤ h0.size) (S_w_NONE : Sta Z h0 "com/example/svratka/svratka/authz/AccessChange" "NONE" "Lcom/example/svratka/svratka/authz/AccessChange;" (.ref w_NONE)) (E_w_NONE : Exa Z h0 w_NONE "com/example/svratka/svratka/authz/AccessChange") (S_w_NARROWS : Sta Z h0 "com/example/svratka/svratka/authz/AccessChange" "NARROWS" "Lcom/example/svratka/svratka/authz/AccessChange;" (.ref w_NARROWS)) (E_w_NARROWS : Exa Z h0 w_NARROWS "com/example/svratka/svratka/authz/AccessChange") (S_w_MIXED : Sta Z h0 "com/example/svratka/svratka/authz/AccessChange" "MIXED" "Lcom/example/svratka/svratka/authz/AccessChange;" (.ref w_MIXED)) (E_w_MIXED : Exa Z h0 w_MIXED "com/example/svratka/svratka/authz/AccessChange") (S_w_WIDENS : Sta Z h0 "com/example/svratka/svratka/authz/AccessChange" "WIDENS" "Lcom/example/svratka/svratka/authz/AccessChange;" (.ref w_WIDENS)) (E_w_WIDENS : Exa Z h0 w_WIDENS "com/example/svratka/svratka/authz/AccessChange") (F_ordinal_w_NONE : Fld Z h0 w_NONE "java/lang/Enum" "ordinal" "I" (.int (0 : Int32))) (F_ordinal_w_NARROWS : Fld Z h0 w_NARROWS "java/lang/Enum" "ordinal" "I" (.int (2 : Int32))) (F_ordinal_w_MIXED : Fld Z h0 w_MIXED "java/lang/Enum" "ordinal" "I" (.int (3 : Int32))) (F_ordinal_w_WIDENS : Fld Z h0 w_WIDENS "java/lang/Enum" "ordinal" "I" (.int (1 : Int32))) :
    MetFree l x (head1 (Jvm.Cond.code x code maxLocals ret :: ws) room_1) (fun a U => a = #[(.int x0)] ∧ Z.Warmed39 U.vm ∧ U.heap = h0) (fun _ _ _ _ _ => True) (fun _ U o U' => ∃ v L, o = .returned v ∧ Q0 Z h0 n0 v U'.heap L ∧ FrameEnd U o U' L room_1.cells room_1.slots) := by
  refine MetFree.of_bodySF (plainFor_of_name pn_0) hisR ?_
  intro p e s m args below meth c s₁ Bd hml0 hP hK
  obtain ⟨rfl, hZ, hh⟩ := hP
  have hx := Bd.exec
  have hby := Bd.bytes
  have hml : c.maxLocals = 7 := hml0
  have hown : s.vm.findClass "com/example/svratka/svratka/authz/AccessChangeNarrowsPinLaw" = some m.cls := findClass_of_methodNamed Bd.named
  have hnm := (name_of_methodNamed Bd.named Bd.method).1
  have X0 : Stand p l e room_1 s m #[(.int x0)] below meth c s₁ [] 0 0 := Stand.of_body Bd
  have e0 : s₁.heap = h0 := by rw [← hh, Bd.state]; rfl
  have N0 := Fr.nil n0
  have pre0 : ∀ t, Steps p.tables e below (s₁.setTop (mkF m 0 #[.val (.int x0), .unset, .unset, .unset, .unset, .unset, .unset] [])) t → Steps p.tables e below (s₁.setTop (entryFrame m #[(.int x0)] maxLocals)) t := fun t k => castTop (ef_0 m (x0)) k
  have pre15 : ∀ t, Steps p.tables e below (s₁.setTop (mkF m 3 #[.val (.int x0), .unset, .unset, .unset, .unset, .unset, .unset] [(.int (x0 &&& (3 : Int32)))])) t → Steps p.tables e below (s₁.setTop (entryFrame m #[(.int x0)] maxLocals)) t := fun t kk => pre0 t (by
    show Steps p.tables e below (s₁.setTop (mkF m 0 #[.val (.int x0), .unset, .unset, .unset, .unset, .unset, .unset] [])) _
    refine XS.iloadN X0.here hx rfl (hb hby at_0) rfl ?_
    show Steps p.tables e below (s₁.setTop (mkF m 1 #[.val (.int x0), .unset, .unset, .unset, .unset, .unset, .unset] [(.int x0)])) _
    refine XS.iconst X0.here hx rfl (hb hby at_1) ?_
    show Steps p.tables e below (s₁.setTop (mkF m 2 #[.val (.int x0), .unset, .unset, .unset, .unset, .unset, .unset] [(.int (3 : Int32)), (.int x0)])) _
    refine XS.iand X0.here hx rfl (hb hby at_2) rfl ?_
    exact kk)
  rcases own_lt4 (x0 &&& (3 : Int32)) (own_maskLo x0 (3 : Int32) 2 (by decide) (by decide)) (by have := own_maskHi x0 (3 : Int32) 2 (by decide) (by decide); exact this) with hv16 | hv16 | hv16 | hv16
  ·
    have pre17 := pre15
    rw [hv16] at pre17
    obtain ⟨T18, X18, e18, st18⟩ := getS2 X0 hx hZ hown (host := "") (Or.inl (hw _ (List.mem_of_getElem? (i := 0) rfl))) Via.refl e0 S_w_NONE (g := (mkF m 8 #[.val (.int x0), .val (.int (0 : Int32)), .unset, .unset, .unset, .unset, .unset] [])) rfl (hb hby at_8)
    obtain ⟨cq19, kq19, q19a, q19b, q19c⟩ := isOf hZ e18 E_w_NONE
    obtain ⟨_, _, ⟨T19, L19, k19, n19⟩, -, X19, ⟨Lc19, hQ19, l19, y19, z19⟩, st19⟩ := X18.virtualBack hx (y := (⟨"com/example/svratka/svratka/authz/AccessChange", "narrows", "()Z"⟩ : MethodName)) (z := (⟨"com/example/svratka/svratka/authz/AccessChange", "narrows", "()Z"⟩ : MethodName)) hown (mvT hZ (hw _ (List.mem_of_getElem? (i := 3) rfl))) (mvT hZ (hw _ (List.mem_of_getElem? (i := 4) rfl))) (notFace_of_selects (args := #[]) (mvT hZ (hw _ (List.mem_of_getElem? (i := 6) rfl)))) (mvT hZ (hw _ (List.mem_of_getElem? (i := 6) rfl))) (mvT hZ (hw _ (List.mem_of_getElem? (i := 5) rfl))) (by decide) (backOf (W := 0) (rm1 l Z a0 hw [] w_NONE w_NARROWS w_MIXED h0 n0 Z0 S_w_NARROWS ((Fld.ne F_ordinal_w_NONE F_ordinal_w_NARROWS (by decide))) S_w_MIXED ((Fld.ne F_ordinal_w_NONE F_ordinal_w_MIXED (by decide)))) hZ (hw _ (List.mem_of_getElem? (i := 7) rfl)) (hw _ (List.mem_of_getElem? (i := 1) rfl)) (by decide) (by decide)) q19a q19c (g := (mkF m 52 #[.val (.int x0), .val (.int (0 : Int32)), .val (.ref w_NONE), .val (.int (0 : Int32)), .unset, .unset, .unset] [(.ref w_NONE)])) rfl (by rw [hml]; rfl) (Steps.refl _) (argsL := []) (rest := []) (lenOf pd_0 rfl) rfl (by show 2 * 0 + _ ≤ _; exact Nat.le_of_eq rfl) (hb hby at_52) (fun _ _ => ⟨rfl, e18, (by decide : 0 + 0 ≤ _), (by decide : 0 + 0 ≤ _)⟩)
    dsimp only [Pt.U, Pt.locs, Pt.cells, Pt.slots] at X19 l19 y19 z19 st19 hQ19
    subst l19 y19 z19
    obtain ⟨rfl, N19q, e19⟩ := hQ19
    have N19 := Fr.app N0 N19q
    obtain ⟨cq20, kq20, q20a, q20b, q20c⟩ := isOf hZ e19 E_w_NONE
    obtain ⟨_, _, ⟨T20, L20, k20, n20⟩, -, X20, ⟨Lc20, hQ20, l20, y20, z20⟩, st20⟩ := X19.virtualBack hx (y := (⟨"com/example/svratka/svratka/authz/AccessChange", "widens", "()Z"⟩ : MethodName)) (z := (⟨"com/example/svratka/svratka/authz/AccessChange", "widens", "()Z"⟩ : MethodName)) hown (mvT hZ (hw _ (List.mem_of_getElem? (i := 12) rfl))) (mvT hZ (hw _ (List.mem_of_getElem? (i := 13) rfl))) (notFace_of_selects (args := #[]) (mvT hZ (hw _ (List.mem_of_getElem? (i := 15) rfl)))) (mvT hZ (hw _ (List.mem_of_getElem? (i := 15) rfl))) (mvT hZ (hw _ (List.mem_of_getElem? (i := 14) rfl))) (by decide) (backOf (W := 0) (rm2 l Z a0 hw [] w_NONE w_WIDENS w_MIXED h0 n0 Z0 S_w_WIDENS ((Fld.ne F_ordinal_w_NONE F_ordinal_w_WIDENS (by decide))) S_w_MIXED ((Fld.ne F_ordinal_w_NONE F_ordinal_w_MIXED (by decide)))) hZ (hw _ (List.mem_of_getElem? (i := 16) rfl)) (hw _ (List.mem_of_getElem? (i := 1) rfl)) (by decide) (by decide)) q20a q20c (g := (mkF m 66 #[.val (.int x0), .val (.int (0 : Int32)), .val (.ref w_NONE), .val (.int (0 : Int32)), .val (.int (0 : Int32)), .unset, .unset] [(.ref w_NONE)])) rfl (by rw [hml]; rfl) (Steps.refl _) (argsL := []) (rest := []) (lenOf pd_0 rfl) rfl (by show 2 * 0 + _ ≤ _; exact Nat.le_of_eq rfl) (hb hby at_66) (fun _ _ => ⟨rfl, e19, (by decide : 0 + 0 ≤ _), (by decide : 0 + 0 ≤ _)⟩)
    dsimp only [Pt.U, Pt.locs, Pt.cells, Pt.slots] at X20 l20 y20 z20 st20 hQ20
    subst l20 y20 z20
    obtain ⟨rfl, N20q, e20⟩ := hQ20
    have N20 := Fr.app N19 N20q
    obtain ⟨_, _, ⟨T21, L21, k21, n21⟩, -, X21, ⟨Lc21, hQ21, l21, y21, z21⟩, st21⟩ := Jvm.LawKit.callS X20 hx (y := (⟨"com/example/svratka/svratka/authz/AccessChange", "of", "(ZZ)Lcom/example/svratka/svratka/authz/AccessChange;"⟩ : MethodName)) hown (mvT hZ (hw _ (List.mem_of_getElem? (i := 19) rfl))) (mvT hZ (hw _ (List.mem_of_getElem? (i := 20) rfl))) (mvT hZ (hw _ (List.mem_of_getElem? (i := 1) rfl))) (mvT hZ (hw _ (List.mem_of_getElem? (i := 21) rfl))) (by decide) (backOf (W := 0) (rm3 l Z a0 hw [] w_NONE h0 n0 Z0 S_w_NONE) hZ (hw _ (List.mem_of_getElem? (i := 21) rfl)) (hw _ (List.mem_of_getElem? (i := 1) rfl)) (by decide) (by decide)) (g := (mkF m 71 #[.val (.int x0), .val (.int (0 : Int32)), .val (.ref w_NONE), .val (.int (0 : Int32)), .val (.int (0 : Int32)), .unset, .unset] [(.int (0 : Int32)), (.int (0 : Int32))])) rfl (by rw [hml]; rfl) (argsL := [(.int (0 : Int32)), (.int (0 : Int32))]) (rest := []) (lenOf pd_1 rfl) rfl (by show 2 * 0 + _ ≤ _; exact Nat.le_of_eq rfl) (hb hby at_71) (fun _ _ => ⟨rfl, e20, (by decide : 0 + 0 ≤ _), (by decide : 0 + 0 ≤ _)⟩)
    dsimp only [Pt.U, Pt.locs, Pt.cells, Pt.slots] at X21 l21 y21 z21 st21 hQ21
    subst l21 y21 z21
    obtain ⟨rfl, N21q, e21⟩ := hQ21
    have N21 := Fr.app N20 N21q
    have pre22 : ∀ t, Steps p.tables e below (T21.setTop (mkF m 83 #[.val (.int x0), .val (.int (0 : Int32)), .val (.ref w_NONE), .val (.int (0 : Int32)), .val (.int (0 : Int32)), .unset, .unset] [(.int (x0 &&& (4 : Int32)))])) t → Steps p.tables e below (s₁.setTop (entryFrame m #[(.int x0)] maxLocals)) t := fun t kk => pre17 t (by
      show Steps p.tables e below (s₁.setTop (mkF m 3 #[.val (.int x0), .unset, .unset, .unset, .unset, .unset, .unset] [(.int (0 : Int32))])) _
      refine XS.istoreN X0.here hx rfl (hb hby at_3) rfl (l' := #[.val (.int x0), .val (.int (0 : Int32)), .unset, .unset, .unset, .unset, .unset]) rfl ?_
      show Steps p.tables e below (s₁.setTop (mkF m 4 #[.val (.int x0), .val (.int (0 : Int32)), .unset, .unset, .unset, .unset, .unset] [])) _
      refine XS.iloadN X0.here hx rfl (hb hby at_4) rfl ?_
      show Steps p.tables e below (s₁.setTop (mkF m 5 #[.val (.int x0), .val (.int (0 : Int32)), .unset, .unset, .unset, .unset, .unset] [(.int (0 : Int32))])) _
      refine XS.ifNo X0.here hx rfl (hb hby at_5) rfl ((if0 _ _).trans (teq ((by decide) : (0 : Int32) = (0 : Int32))).2) ?_
      show Steps p.tables e below (s₁.setTop (mkF m 8 #[.val (.int x0), .val (.int (0 : Int32)), .unset, .unset, .unset, .unset, .unset] [])) _
      refine st18 _ ?_
      show Steps p.tables e below (T18.setTop (mkF m 11 #[.val (.int x0), .val (.int (0 : Int32)), .unset, .unset, .unset, .unset, .unset] [(.ref w_NONE)])) _
      refine XS.astoreN X18.here hx rfl (hb hby at_11) rfl rfl (l' := #[.val (.int x0), .val (.int (0 : Int32)), .val (.ref w_NONE), .unset, .unset, .unset, .unset]) rfl ?_
      show Steps p.tables e below (T18.setTop (mkF m 12 #[.val (.int x0), .val (.int (0 : Int32)), .val (.ref w_NONE), .unset, .unset, .unset, .unset] [])) _
      refine XS.iconst X18.here hx rfl (hb hby at_12) ?_
      show Steps p.tables e below (T18.setTop (mkF m 13 #[.val (.int x0), .val (.int (0 : Int32)), .val (.ref w_NONE), .unset, .unset, .unset, .unset] [(.int (0 : Int32))])) _
      refine XS.istoreN X18.here hx rfl (hb hby at_13) rfl (l' := #[.val (.int x0), .val (.int (0 : Int32)), .val (.ref w_NONE), .val (.int (0 : Int32)), .unset, .unset, .unset]) rfl ?_
      show Steps p.tables e below (T18.setTop (mkF m 14 #[.val (.int x0), .val (.int (0 : Int32)), .val (.ref w_NONE), .val (.int (0 : Int32)), .unset, .unset, .unset] [])) _
      refine XS.goto X18.here hx rfl (pc0 := 14) (pc' := 51) rfl (hb hby at_14) (by decide) (by decide) ?_
      show Steps p.tables e below (T18.setTop (mkF m 51 #[.val (.int x0), .val (.int (0 : Int32)), .val (.ref w_NONE), .val (.int (0 : Int32)), .unset, .unset, .unset] [])) _
      refine XS.aloadN X18.here hx rfl (hb hby at_51) rfl rfl ?_
      show Steps p.tables e below (T18.setTop (mkF m 52 #[.val (.int x0), .val (.int (0 : Int32)), .val (.ref w_NONE), .val (.int (0 : Int32)), .unset, .unset, .unset] [(.ref w_NONE)])) _
      refine st19.trans ?_
      show Steps p.tables e below (T19.setTop (mkF m 55 #[.val (.int x0), .val (.int (0 : Int32)), .val (.ref w_NONE), .val (.int (0 : Int32)), .unset, .unset, .unset] [(.int (0 : Int32))])) _
      refine XS.istore X19.here hx rfl (hb hby at_55) rfl (l' := #[.val (.int x0), .val (.int (0 : Int32)), .val (.ref w_NONE), .val (.int (0 : Int32)), .val (.int (0 : Int32)), .unset, .unset]) rfl ?_
      show Steps p.tables e below (T19.setTop (mkF m 57 #[.val (.int x0), .val (.int (0 : Int32)), .val (.ref w_NONE), .val (.int (0 : Int32)), .val (.int (0 : Int32)), .unset, .unset] [])) _
      refine XS.iload X19.here hx rfl (hb hby at_57) rfl ?_
      show Steps p.tables e below (T19.setTop (mkF m 59 #[.val (.int x0), .val (.int (0 : Int32)), .val (.ref w_NONE), .val (.int (0 : Int32)), .val (.int (0 : Int32)), .unset, .unset] [(.int (0 : Int32))])) _
      refine XS.iloadN X19.here hx rfl (hb hby at_59) rfl ?_
      show Steps p.tables e below (T19.setTop (mkF m 60 #[.val (.int x0), .val (.int (0 : Int32)), .val (.ref w_NONE), .val (.int (0 : Int32)), .val (.int (0 : Int32)), .unset, .unset] [(.int (0 : Int32)), (.int (0 : Int32))])) _
      refine XS.icmpYes X19.here hx rfl (pc0 := 60) (pc' := 65) rfl (hb hby at_60) rfl (teq ((by decide) : (0 : Int32) = (0 : Int32))).1 (by decide) (by decide) ?_
      show Steps p.tables e below (T19.setTop (mkF m 65 #[.val (.int x0), .val (.int (0 : Int32)), .val (.ref w_NONE), .val (.int (0 : Int32)), .val (.int (0 : Int32)), .unset, .unset] [])) _
      refine XS.aloadN X19.here hx rfl (hb hby at_65) rfl rfl ?_
      show Steps p.tables e below (T19.setTop (mkF m 66 #[.val (.int x0), .val (.int (0 : Int32)), .val (.ref w_NONE), .val (.int (0 : Int32)), .val (.int (0 : Int32)), .unset, .unset] [(.ref w_NONE)])) _
      refine st20.trans ?_
      show Steps p.tables e below (T20.setTop (mkF m 69 #[.val (.int x0), .val (.int (0 : Int32)), .val (.ref w_NONE), .val (.int (0 : Int32)), .val (.int (0 : Int32)), .unset, .unset] [(.int (0 : Int32))])) _
      refine XS.iload X20.here hx rfl (hb hby at_69) rfl ?_
      show Steps p.tables e below (T20.setTop (mkF m 71 #[.val (.int x0), .val (.int (0 : Int32)), .val (.ref w_NONE), .val (.int (0 : Int32)), .val (.int (0 : Int32)), .unset, .unset] [(.int (0 : Int32)), (.int (0 : Int32))])) _
      refine st21 _ ?_
      show Steps p.tables e below (T21.setTop (mkF m 74 #[.val (.int x0), .val (.int (0 : Int32)), .val (.ref w_NONE), .val (.int (0 : Int32)), .val (.int (0 : Int32)), .unset, .unset] [(.ref w_NONE)])) _
      refine XS.aloadN X21.here hx rfl (hb hby at_74) rfl rfl ?_
      show Steps p.tables e below (T21.setTop (mkF m 75 #[.val (.int x0), .val (.int (0 : Int32)), .val (.ref w_NONE), .val (.int (0 : Int32)), .val (.int (0 : Int32)), .unset, .unset] [(.ref w_NONE), (.ref w_NONE)])) _
      refine Jvm.RoadKit.acmp (g := (mkF m 75 #[.val (.int x0), .val (.int (0 : Int32)), .val (.ref w_NONE), .val (.int (0 : Int32)), .val (.int (0 : Int32)), .unset, .unset] [(.ref w_NONE), (.ref w_NONE)])) X21 hx rfl rfl rfl (pc0 := 75) (pc' := 80) (same := true) rfl (hb hby at_75) rfl (decide_eq_true rfl) (by decide) (by decide) ?_
      show Steps p.tables e below (T21.setTop (mkF m 80 #[.val (.int x0), .val (.int (0 : Int32)), .val (.ref w_NONE), .val (.int (0 : Int32)), .val (.int (0 : Int32)), .unset, .unset] [])) _
      refine XS.iloadN X21.here hx rfl (hb hby at_80) rfl ?_
      show Steps p.tables e below (T21.setTop (mkF m 81 #[.val (.int x0), .val (.int (0 : Int32)), .val (.ref w_NONE), .val (.int (0 : Int32)), .val (.int (0 : Int32)), .unset, .unset] [(.int x0)])) _
      refine XS.iconst X21.here hx rfl (hb hby at_81) ?_
      show Steps p.tables e below (T21.setTop (mkF m 82 #[.val (.int x0), .val (.int (0 : Int32)), .val (.ref w_NONE), .val (.int (0 : Int32)), .val (.int (0 : Int32)), .unset, .unset] [(.int (4 : Int32)), (.int x0)])) _
      refine XS.iand X21.here hx rfl (hb hby at_82) rfl ?_
      exact kk)
    by_cases hc23 : (x0 &&& (4 : Int32)) = (0 : Int32)
    ·
      have pre24 : ∀ t, Steps p.tables e below (T21.setTop (mkF m 97 #[.val (.int x0), .val (.int (0 : Int32)), .val (.ref w_NONE), .val (.int (0 : Int32)), .val (.int (0 : Int32)), .val (.int (0 : Int32)), .unset] [(.int (x0 &&& (8 : Int32)))])) t → Steps p.tables e below (s₁.setTop (entryFrame m #[(.int x0)] maxLocals)) t := fun t kk => pre22 t (by
        show Steps p.tables e below (T21.setTop (mkF m 83 #[.val (.int x0), .val (.int (0 : Int32)), .val (.ref w_NONE), .val (.int (0 : Int32)), .val (.int (0 : Int32)), .unset, .unset] [(.int (x0 &&& (4 : Int32)))])) _
        refine XS.ifYes X21.here hx rfl (pc0 := 83) (pc' := 90) rfl (hb hby at_83) rfl ((if0 _ _).trans (teq (hc23 : (x0 &&& (4 : Int32)) = (0 : Int32))).1) (by decide) (by decide) ?_
        show Steps p.tables e below (T21.setTop (mkF m 90 #[.val (.int x0), .val (.int (0 : Int32)), .val (.ref w_NONE), .val (.int (0 : Int32)), .val (.int (0 : Int32)), .unset, .unset] [])) _
        refine XS.iconst X21.here hx rfl (hb hby at_90) ?_
        show Steps p.tables e below (T21.setTop (mkF m 91 #[.val (.int x0), .val (.int (0 : Int32)), .val (.ref w_NONE), .val (.int (0 : Int32)), .val (.int (0 : Int32)), .unset, .unset] [(.int (0 : Int32))])) _
        refine XS.istore X21.here hx rfl (hb hby at_91) rfl (l' := #[.val (.int x0), .val (.int (0 : Int32)), .val (.ref w_NONE), .val (.int (0 : Int32)), .val (.int (0 : Int32)), .val (.int (0 : Int32)), .unset]) rfl ?_
        show Steps p.tables e below (T21.setTop (mkF m 93 #[.val (.int x0), .val (.int (0 : Int32)), .val (.ref w_NONE), .val (.int (0 : Int32)), .val (.int (0 : Int32)), .val (.int (0 : Int32)), .unset] [])) _
        refine XS.iloadN X21.here hx rfl (hb hby at_93) rfl ?_
        show Steps p.tables e below (T21.setTop (mkF m 94 #[.val (.int x0), .val (.int (0 : Int32)), .val (.ref w_NONE), .val (.int (0 : Int32)), .val (.int (0 : Int32)), .val (.int (0 : Int32)), .unset] [(.int x0)])) _
        refine XS.bipush X21.here hx rfl (hb hby at_94) ?_
        show Steps p.tables e below (T21.setTop (mkF m 96 #[.val (.int x0), .val (.int (0 : Int32)), .val (.ref w_NONE), .val (.int (0 : Int32)), .val (.int (0 : Int32)), .val (.int (0 : Int32)), .unset] [(.int (8 : Int32)), (.int x0)])) _
        refine XS.iand X21.here hx rfl (hb hby at_96) rfl ?_
        exact kk)
      by_cases hc25 : (x0 &&& (8 : Int32)) = (0 : Int32)
      ·
        obtain ⟨_, _, ⟨T26, L26, k26, n26⟩, -, X26, ⟨Lc26, hQ26, l26, y26, z26⟩, st26⟩ := Jvm.LawKit.callS X21 hx (y := (⟨"com/example/svratka/svratka/authz/AccessChange", "of", "(ZZ)Lcom/example/svratka/svratka/authz/AccessChange;"⟩ : MethodName)) hown (mvT hZ (hw _ (List.mem_of_getElem? (i := 19) rfl))) (mvT hZ (hw _ (List.mem_of_getElem? (i := 20) rfl))) (mvT hZ (hw _ (List.mem_of_getElem? (i := 1) rfl))) (mvT hZ (hw _ (List.mem_of_getElem? (i := 21) rfl))) (by decide) (backOf (W := 0) (rm3 l Z a0 hw [] w_NONE h0 n0 Z0 S_w_NONE) hZ (hw _ (List.mem_of_getElem? (i := 21) rfl)) (hw _ (List.mem_of_getElem? (i := 1) rfl)) (by decide) (by decide)) (g := (mkF m 111 #[.val (.int x0), .val (.int (0 : Int32)), .val (.ref w_NONE), .val (.int (0 : Int32)), .val (.int (0 : Int32)), .val (.int (0 : Int32)), .val (.int (0 : Int32))] [(.int (0 : Int32)), (.int (0 : Int32))])) rfl (by rw [hml]; rfl) (argsL := [(.int (0 : Int32)), (.int (0 : Int32))]) (rest := []) (lenOf pd_1 rfl) rfl (by show 2 * 0 + _ ≤ _; exact Nat.le_of_eq rfl) (hb hby at_111) (fun _ _ => ⟨rfl, e21, (by decide : 0 + 0 ≤ _), (by decide : 0 + 0 ≤ _)⟩)
        dsimp only [Pt.U, Pt.locs, Pt.cells, Pt.slots] at X26 l26 y26 z26 st26 hQ26
        subst l26 y26 z26
        obtain ⟨rfl, N26q, e26⟩ := hQ26
        have N26 := Fr.app N21 N26q
        obtain ⟨cq27, kq27, q27a, q27b, q27c⟩ := isOf hZ e26 E_w_NONE
        obtain ⟨_, _, ⟨T27, L27, k27, n27⟩, -, X27, ⟨Lc27, hQ27, l27, y27, z27⟩, st27⟩ := X26.virtualBack hx (y := (⟨"com/example/svratka/svratka/authz/AccessChange", "narrows", "()Z"⟩ : MethodName)) (z := (⟨"com/example/svratka/svratka/authz/AccessChange", "narrows", "()Z"⟩ : MethodName)) hown (mvT hZ (hw _ (List.mem_of_getElem? (i := 3) rfl))) (mvT hZ (hw _ (List.mem_of_getElem? (i := 4) rfl))) (notFace_of_selects (args := #[]) (mvT hZ (hw _ (List.mem_of_getElem? (i := 6) rfl)))) (mvT hZ (hw _ (List.mem_of_getElem? (i := 6) rfl))) (mvT hZ (hw _ (List.mem_of_getElem? (i := 5) rfl))) (by decide) (backOf (W := 0) (rm1 l Z a0 hw [] w_NONE w_NARROWS w_MIXED h0 n0 Z0 S_w_NARROWS ((Fld.ne F_ordinal_w_NONE F_ordinal_w_NARROWS (by decide))) S_w_MIXED ((Fld.ne F_ordinal_w_NONE F_ordinal_w_MIXED (by decide)))) hZ (hw _ (List.mem_of_getElem? (i := 7) rfl)) (hw _ (List.mem_of_getElem? (i := 1) rfl)) (by decide) (by decide)) q27a q27c (g := (mkF m 114 #[.val (.int x0), .val (.int (0 : Int32)), .val (.ref w_NONE), .val (.int (0 : Int32)), .val (.int (0 : Int32)), .val (.int (0 : Int32)), .val (.int (0 : Int32))] [(.ref w_NONE)])) rfl (by rw [hml]; rfl) (Steps.refl _) (argsL := []) (rest := []) (lenOf pd_0 rfl) rfl (by show 2 * 0 + _ ≤ _; exact Nat.le_of_eq rfl) (hb hby at_114) (fun _ _ => ⟨rfl, e26, (by decide : 0 + 0 ≤ _), (by decide : 0 + 0 ≤ _)⟩)
        dsimp only [Pt.U, Pt.locs, Pt.cells, Pt.slots] at X27 l27 y27 z27 st27 hQ27
        subst l27 y27 z27
        obtain ⟨rfl, N27q, e27⟩ := hQ27
        have N27 := Fr.app N26 N27q
        have pre28 : ∀ t, Steps p.tables e below (T27.setTop (mkF m 127 #[.val (.int x0), .val (.int (0 : Int32)), .val (.ref w_NONE), .val (.int (0 : Int32)), .val (.int (0 : Int32)), .val (.int (0 : Int32)), .val (.int (0 : Int32))] [(.int (1 : Int32))])) t → Steps p.tables e below (s₁.setTop (entryFrame m #[(.int x0)] maxLocals)) t := fun t kk => pre24 t (by
          show Steps p.tables e below (T21.setTop (mkF m 97 #[.val (.int x0), .val (.int (0 : Int32)), .val (.ref w_NONE), .val (.int (0 : Int32)), .val (.int (0 : Int32)), .val (.int (0 : Int32)), .unset] [(.int (x0 &&& (8 : Int32)))])) _
          refine XS.ifYes X21.here hx rfl (pc0 := 97) (pc' := 104) rfl (hb hby at_97) rfl ((if0 _ _).trans (teq (hc25 : (x0 &&& (8 : Int32)) = (0 : Int32))).1) (by decide) (by decide) ?_
          show Steps p.tables e below (T21.setTop (mkF m 104 #[.val (.int x0), .val (.int (0 : Int32)), .val (.ref w_NONE), .val (.int (0 : Int32)), .val (.int (0 : Int32)), .val (.int (0 : Int32)), .unset] [])) _
          refine XS.iconst X21.here hx rfl (hb hby at_104) ?_
          show Steps p.tables e below (T21.setTop (mkF m 105 #[.val (.int x0), .val (.int (0 : Int32)), .val (.ref w_NONE), .val (.int (0 : Int32)), .val (.int (0 : Int32)), .val (.int (0 : Int32)), .unset] [(.int (0 : Int32))])) _
          refine XS.istore X21.here hx rfl (hb hby at_105) rfl (l' := #[.val (.int x0), .val (.int (0 : Int32)), .val (.ref w_NONE), .val (.int (0 : Int32)), .val (.int (0 : Int32)), .val (.int (0 : Int32)), .val (.int (0 : Int32))]) rfl ?_
          show Steps p.tables e below (T21.setTop (mkF m 107 #[.val (.int x0), .val (.int (0 : Int32)), .val (.ref w_NONE), .val (.int (0 : Int32)), .val (.int (0 : Int32)), .val (.int (0 : Int32)), .val (.int (0 : Int32))] [])) _
          refine XS.iload X21.here hx rfl (hb hby at_107) rfl ?_
          show Steps p.tables e below (T21.setTop (mkF m 109 #[.val (.int x0), .val (.int (0 : Int32)), .val (.ref w_NONE), .val (.int (0 : Int32)), .val (.int (0 : Int32)), .val (.int (0 : Int32)), .val (.int (0 : Int32))] [(.int (0 : Int32))])) _
          refine XS.iload X21.here hx rfl (hb hby at_109) rfl ?_
          show Steps p.tables e below (T21.setTop (mkF m 111 #[.val (.int x0), .val (.int (0 : Int32)), .val (.ref w_NONE), .val (.int (0 : Int32)), .val (.int (0 : Int32)), .val (.int (0 : Int32)), .val (.int (0 : Int32))] [(.int (0 : Int32)), (.int (0 : Int32))])) _
          refine st26 _ ?_
          show Steps p.tables e below (T26.setTop (mkF m 114 #[.val (.int x0), .val (.int (0 : Int32)), .val (.ref w_NONE), .val (.int (0 : Int32)), .val (.int (0 : Int32)), .val (.int (0 : Int32)), .val (.int (0 : Int32))] [(.ref w_NONE)])) _
          refine st27.trans ?_
          show Steps p.tables e below (T27.setTop (mkF m 117 #[.val (.int x0), .val (.int (0 : Int32)), .val (.ref w_NONE), .val (.int (0 : Int32)), .val (.int (0 : Int32)), .val (.int (0 : Int32)), .val (.int (0 : Int32))] [(.int (0 : Int32))])) _
          refine XS.iload X27.here hx rfl (hb hby at_117) rfl ?_
          show Steps p.tables e below (T27.setTop (mkF m 119 #[.val (.int x0), .val (.int (0 : Int32)), .val (.ref w_NONE), .val (.int (0 : Int32)), .val (.int (0 : Int32)), .val (.int (0 : Int32)), .val (.int (0 : Int32))] [(.int (0 : Int32)), (.int (0 : Int32))])) _
          refine XS.icmpNo X27.here hx rfl (hb hby at_119) rfl (teq ((by decide) : (0 : Int32) = (0 : Int32))).2 ?_
          show Steps p.tables e below (T27.setTop (mkF m 122 #[.val (.int x0), .val (.int (0 : Int32)), .val (.ref w_NONE), .val (.int (0 : Int32)), .val (.int (0 : Int32)), .val (.int (0 : Int32)), .val (.int (0 : Int32))] [])) _
          refine XS.iconst X27.here hx rfl (hb hby at_122) ?_
          show Steps p.tables e below (T27.setTop (mkF m 123 #[.val (.int x0), .val (.int (0 : Int32)), .val (.ref w_NONE), .val (.int (0 : Int32)), .val (.int (0 : Int32)), .val (.int (0 : Int32)), .val (.int (0 : Int32))] [(.int (1 : Int32))])) _
          refine XS.goto X27.here hx rfl (pc0 := 123) (pc' := 127) rfl (hb hby at_123) (by decide) (by decide) ?_
          exact kk)
        obtain ⟨fs, hr, hrun, hended, hW, hsame⟩ := X27.leave (v := some (.int (1 : Int32))) (fun h => by rw [Bd.returns] at h; cases h)
        refine ⟨_, _, pre28 _ ?_, hrun, hended, _, _, rfl, ?_, ⟨_, rfl⟩, hW, hsame.mono (by decide) (by decide)⟩
        · exact retN X27 hx (t := .boolean) Bd.returns (by simp) (hb hby at_127) hr
        · exact ⟨rfl, N27⟩
      ·
        obtain ⟨_, _, ⟨T29, L29, k29, n29⟩, -, X29, ⟨Lc29, hQ29, l29, y29, z29⟩, st29⟩ := Jvm.LawKit.callS X21 hx (y := (⟨"com/example/svratka/svratka/authz/AccessChange", "of", "(ZZ)Lcom/example/svratka/svratka/authz/AccessChange;"⟩ : MethodName)) hown (mvT hZ (hw _ (List.mem_of_getElem? (i := 19) rfl))) (mvT hZ (hw _ (List.mem_of_getElem? (i := 20) rfl))) (mvT hZ (hw _ (List.mem_of_getElem? (i := 1) rfl))) (mvT hZ (hw _ (List.mem_of_getElem? (i := 21) rfl))) (by decide) (backOf (W := 0) (rm4 l Z a0 hw [] w_NARROWS h0 n0 Z0 S_w_NARROWS) hZ (hw _ (List.mem_of_getElem? (i := 21) rfl)) (hw _ (List.mem_of_getElem? (i := 1) rfl)) (by decide) (by decide)) (g := (mkF m 111 #[.val (.int x0), .val (.int (0 : Int32)), .val (.ref w_NONE), .val (.int (0 : Int32)), .val (.int (0 : Int32)), .val (.int (0 : Int32)), .val (.int (1 : Int32))] [(.int (1 : Int32)), (.int (0 : Int32))])) rfl (by rw [hml]; rfl) (argsL := [(.int (0 : Int32)), (.int (1 : Int32))]) (rest := []) (lenOf pd_1 rfl) rfl (by show 2 * 0 + _ ≤ _; exact Nat.le_of_eq rfl) (hb hby at_111) (fun _ _ => ⟨rfl, e21, (by decide : 0 + 0 ≤ _), (by decide : 0 + 0 ≤ _)⟩)
        dsimp only [Pt.U, Pt.locs, Pt.cells, Pt.slots] at X29 l29 y29 z29 st29 hQ29
        subst l29 y29 z29
        obtain ⟨rfl, N29q, e29⟩ := hQ29
        have N29 := Fr.app N21 N29q
        obtain ⟨cq30, kq30, q30a, q30b, q30c⟩ := isOf hZ e29 E_w_NARROWS
        obtain ⟨_, _, ⟨T30, L30, k30, n30⟩, -, X30, ⟨Lc30, hQ30, l30, y30, z30⟩, st30⟩ := X29.virtualBack hx (y := (⟨"com/example/svratka/svratka/authz/AccessChange", "narrows", "()Z"⟩ : MethodName)) (z := (⟨"com/example/svratka/svratka/authz/AccessChange", "narrows", "()Z"⟩ : MethodName)) hown (mvT hZ (hw _ (List.mem_of_getElem? (i := 3) rfl))) (mvT hZ (hw _ (List.mem_of_getElem? (i := 4) rfl))) (notFace_of_selects (args := #[]) (mvT hZ (hw _ (List.mem_of_getElem? (i := 6) rfl)))) (mvT hZ (hw _ (List.mem_of_getElem? (i := 6) rfl))) (mvT hZ (hw _ (List.mem_of_getElem? (i := 5) rfl))) (by decide) (backOf (W := 0) (rm5 l Z a0 hw [] w_NARROWS h0 n0 Z0 S_w_NARROWS) hZ (hw _ (List.mem_of_getElem? (i := 7) rfl)) (hw _ (List.mem_of_getElem? (i := 1) rfl)) (by decide) (by decide)) q30a q30c (g := (mkF m 114 #[.val (.int x0), .val (.int (0 : Int32)), .val (.ref w_NONE), .val (.int (0 : Int32)), .val (.int (0 : Int32)), .val (.int (0 : Int32)), .val (.int (1 : Int32))] [(.ref w_NARROWS)])) rfl (by rw [hml]; rfl) (Steps.refl _) (argsL := []) (rest := []) (lenOf pd_0 rfl) rfl (by show 2 * 0 + _ ≤ _; exact Nat.le_of_eq rfl) (hb hby at_114) (fun _ _ => ⟨rfl, e29, (by decide : 0 + 0 ≤ _), (by decide : 0 + 0 ≤ _)⟩)
        dsimp only [Pt.U, Pt.locs, Pt.cells, Pt.slots] at X30 l30 y30 z30 st30 hQ30
        subst l30 y30 z30
        obtain ⟨rfl, N30q, e30⟩ := hQ30
        have N30 := Fr.app N29 N30q
        have pre31 : ∀ t, Steps p.tables e below (T30.setTop (mkF m 127 #[.val (.int x0), .val (.int (0 : Int32)), .val (.ref w_NONE), .val (.int (0 : Int32)), .val (.int (0 : Int32)), .val (.int (0 : Int32)), .val (.int (1 : Int32))] [(.int (1 : Int32))])) t → Steps p.tables e below (s₁.setTop (entryFrame m #[(.int x0)] maxLocals)) t := fun t kk => pre24 t (by
          show Steps p.tables e below (T21.setTop (mkF m 97 #[.val (.int x0), .val (.int (0 : Int32)), .val (.ref w_NONE), .val (.int (0 : Int32)), .val (.int (0 : Int32)), .val (.int (0 : Int32)), .unset] [(.int (x0 &&& (8 : Int32)))])) _
          refine XS.ifNo X21.here hx rfl (hb hby at_97) rfl ((if0 _ _).trans (feq (hc25 : ¬ ((x0 &&& (8 : Int32)) = (0 : Int32)))).1) ?_
          show Steps p.tables e below (T21.setTop (mkF m 100 #[.val (.int x0), .val (.int (0 : Int32)), .val (.ref w_NONE), .val (.int (0 : Int32)), .val (.int (0 : Int32)), .val (.int (0 : Int32)), .unset] [])) _
          refine XS.iconst X21.here hx rfl (hb hby at_100) ?_
          show Steps p.tables e below (T21.setTop (mkF m 101 #[.val (.int x0), .val (.int (0 : Int32)), .val (.ref w_NONE), .val (.int (0 : Int32)), .val (.int (0 : Int32)), .val (.int (0 : Int32)), .unset] [(.int (1 : Int32))])) _
          refine XS.goto X21.here hx rfl (pc0 := 101) (pc' := 105) rfl (hb hby at_101) (by decide) (by decide) ?_
          show Steps p.tables e below (T21.setTop (mkF m 105 #[.val (.int x0), .val (.int (0 : Int32)), .val (.ref w_NONE), .val (.int (0 : Int32)), .val (.int (0 : Int32)), .val (.int (0 : Int32)), .unset] [(.int (1 : Int32))])) _
          refine XS.istore X21.here hx rfl (hb hby at_105) rfl (l' := #[.val (.int x0), .val (.int (0 : Int32)), .val (.ref w_NONE), .val (.int (0 : Int32)), .val (.int (0 : Int32)), .val (.int (0 : Int32)), .val (.int (1 : Int32))]) rfl ?_
          show Steps p.tables e below (T21.setTop (mkF m 107 #[.val (.int x0), .val (.int (0 : Int32)), .val (.ref w_NONE), .val (.int (0 : Int32)), .val (.int (0 : Int32)), .val (.int (0 : Int32)), .val (.int (1 : Int32))] [])) _
          refine XS.iload X21.here hx rfl (hb hby at_107) rfl ?_
          show Steps p.tables e below (T21.setTop (mkF m 109 #[.val (.int x0), .val (.int (0 : Int32)), .val (.ref w_NONE), .val (.int (0 : Int32)), .val (.int (0 : Int32)), .val (.int (0 : Int32)), .val (.int (1 : Int32))] [(.int (0 : Int32))])) _
          refine XS.iload X21.here hx rfl (hb hby at_109) rfl ?_
          show Steps p.tables e below (T21.setTop (mkF m 111 #[.val (.int x0), .val (.int (0 : Int32)), .val (.ref w_NONE), .val (.int (0 : Int32)), .val (.int (0 : Int32)), .val (.int (0 : Int32)), .val (.int (1 : Int32))] [(.int (1 : Int32)), (.int (0 : Int32))])) _
          refine st29 _ ?_
          show Steps p.tables e below (T29.setTop (mkF m 114 #[.val (.int x0), .val (.int (0 : Int32)), .val (.ref w_NONE), .val (.int (0 : Int32)), .val (.int (0 : Int32)), .val (.int (0 : Int32)), .val (.int (1 : Int32))] [(.ref w_NARROWS)])) _
          refine st30.trans ?_
          show Steps p.tables e below (T30.setTop (mkF m 117 #[.val (.int x0), .val (.int (0 : Int32)), .val (.ref w_NONE), .val (.int (0 : Int32)), .val (.int (0 : Int32)), .val (.int (0 : Int32)), .val (.int (1 : Int32))] [(.int (1 : Int32))])) _
          refine XS.iload X30.here hx rfl (hb hby at_117) rfl ?_
          show Steps p.tables e below (T30.setTop (mkF m 119 #[.val (.int x0), .val (.int (0 : Int32)), .val (.ref w_NONE), .val (.int (0 : Int32)), .val (.int (0 : Int32)), .val (.int (0 : Int32)), .val (.int (1 : Int32))] [(.int (1 : Int32)), (.int (1 : Int32))])) _
          refine XS.icmpNo X30.here hx rfl (hb hby at_119) rfl (teq ((by decide) : (1 : Int32) = (1 : Int32))).2 ?_
          show Steps p.tables e below (T30.setTop (mkF m 122 #[.val (.int x0), .val (.int (0 : Int32)), .val (.ref w_NONE), .val (.int (0 : Int32)), .val (.int (0 : Int32)), .val (.int (0 : Int32)), .val (.int (1 : Int32))] [])) _
          refine XS.iconst X30.here hx rfl (hb hby at_122) ?_
          show Steps p.tables e below (T30.setTop (mkF m 123 #[.val (.int x0), .val (.int (0 : Int32)), .val (.ref w_NONE), .val (.int (0 : Int32)), .val (.int (0 : Int32)), .val (.int (0 : Int32)), .val (.int (1 : Int32))] [(.int (1 : Int32))])) _
          refine XS.goto X30.here hx rfl (pc0 := 123) (pc' := 127) rfl (hb hby at_123) (by decide) (by decide) ?_
          exact kk)
        obtain ⟨fs, hr, hrun, hended, hW, hsame⟩ := X30.leave (v := some (.int (1 : Int32))) (fun h => by rw [Bd.returns] at h; cases h)
        refine ⟨_, _, pre31 _ ?_, hrun, hended, _, _, rfl, ?_, ⟨_, rfl⟩, hW, hsame.mono (by decide) (by decide)⟩
        · exact retN X30 hx (t := .boolean) Bd.returns (by simp) (hb hby at_127) hr
        · exact ⟨rfl, N30⟩
    ·
      have pre32 : ∀ t, Steps p.tables e below (T21.setTop (mkF m 97 #[.val (.int x0), .val (.int (0 : Int32)), .val (.ref w_NONE), .val (.int (0 : Int32)), .val (.int (0 : Int32)), .val (.int (1 : Int32)), .unset] [(.int (x0 &&& (8 : Int32)))])) t → Steps p.tables e below (s₁.setTop (entryFrame m #[(.int x0)] maxLocals)) t := fun t kk => pre22 t (by
        show Steps p.tables e below (T21.setTop (mkF m 83 #[.val (.int x0), .val (.int (0 : Int32)), .val (.ref w_NONE), .val (.int (0 : Int32)), .val (.int (0 : Int32)), .unset, .unset] [(.int (x0 &&& (4 : Int32)))])) _
        refine XS.ifNo X21.here hx rfl (hb hby at_83) rfl ((if0 _ _).trans (feq (hc23 : ¬ ((x0 &&& (4 : Int32)) = (0 : Int32)))).1) ?_
        show Steps p.tables e below (T21.setTop (mkF m 86 #[.val (.int x0), .val (.int (0 : Int32)), .val (.ref w_NONE), .val (.int (0 : Int32)), .val (.int (0 : Int32)), .unset, .unset] [])) _
        refine XS.iconst X21.here hx rfl (hb hby at_86) ?_
        show Steps p.tables e below (T21.setTop (mkF m 87 #[.val (.int x0), .val (.int (0 : Int32)), .val (.ref w_NONE), .val (.int (0 : Int32)), .val (.int (0 : Int32)), .unset, .unset] [(.int (1 : Int32))])) _
        refine XS.goto X21.here hx rfl (pc0 := 87) (pc' := 91) rfl (hb hby at_87) (by decide) (by decide) ?_
        show Steps p.tables e below (T21.setTop (mkF m 91 #[.val (.int x0), .val (.int (0 : Int32)), .val (.ref w_NONE), .val (.int (0 : Int32)), .val (.int (0 : Int32)), .unset, .unset] [(.int (1 : Int32))])) _
        refine XS.istore X21.here hx rfl (hb hby at_91) rfl (l' := #[.val (.int x0), .val (.int (0 : Int32)), .val (.ref w_NONE), .val (.int (0 : Int32)), .val (.int (0 : Int32)), .val (.int (1 : Int32)), .unset]) rfl ?_
        show Steps p.tables e below (T21.setTop (mkF m 93 #[.val (.int x0), .val (.int (0 : Int32)), .val (.ref w_NONE), .val (.int (0 : Int32)), .val (.int (0 : Int32)), .val (.int (1 : Int32)), .unset] [])) _
        refine XS.iloadN X21.here hx rfl (hb hby at_93) rfl ?_
        show Steps p.tables e below (T21.setTop (mkF m 94 #[.val (.int x0), .val (.int (0 : Int32)), .val (.ref w_NONE), .val (.int (0 : Int32)), .val (.int (0 : Int32)), .val (.int (1 : Int32)), .unset] [(.int x0)])) _
        refine XS.bipush X21.here hx rfl (hb hby at_94) ?_
        show Steps p.tables e below (T21.setTop (mkF m 96 #[.val (.int x0), .val (.int (0 : Int32)), .val (.ref w_NONE), .val (.int (0 : Int32)), .val (.int (0 : Int32)), .val (.int (1 : Int32)), .unset] [(.int (8 : Int32)), (.int x0)])) _
        refine XS.iand X21.here hx rfl (hb hby at_96) rfl ?_
        exact kk)
      by_cases hc33 : (x0 &&& (8 : Int32)) = (0 : Int32)
      ·
        obtain ⟨_, _, ⟨T34, L34, k34, n34⟩, -, X34, ⟨Lc34, hQ34, l34, y34, z34⟩, st34⟩ := Jvm.LawKit.callS X21 hx (y := (⟨"com/example/svratka/svratka/authz/AccessChange", "of", "(ZZ)Lcom/example/svratka/svratka/authz/AccessChange;"⟩ : MethodName)) hown (mvT hZ (hw _ (List.mem_of_getElem? (i := 19) rfl))) (mvT hZ (hw _ (List.mem_of_getElem? (i := 20) rfl))) (mvT hZ (hw _ (List.mem_of_getElem? (i := 1) rfl))) (mvT hZ (hw _ (List.mem_of_getElem? (i := 21) rfl))) (by decide) (backOf (W := 0) (rm6 l Z a0 hw [] w_WIDENS h0 n0 Z0 S_w_WIDENS) hZ (hw _ (List.mem_of_getElem? (i := 21) rfl)) (hw _ (List.mem_of_getElem? (i := 1) rfl)) (by decide) (by decide)) (g := (mkF m 111 #[.val (.int x0), .val (.int (0 : Int32)), .val (.ref w_NONE), .val (.int (0 : Int32)), .val (.int (0 : Int32)), .val (.int (1 : Int32)), .val (.int (0 : Int32))] [(.int (0 : Int32)), (.int (1 : Int32))])) rfl (by rw [hml]; rfl) (argsL := [(.int (1 : Int32)), (.int (0 : Int32))]) (rest := []) (lenOf pd_1 rfl) rfl (by show 2 * 0 + _ ≤ _; exact Nat.le_of_eq rfl) (hb hby at_111) (fun _ _ => ⟨rfl, e21, (by decide : 0 + 0 ≤ _), (by decide : 0 + 0 ≤ _)⟩)
        dsimp only [Pt.U, Pt.locs, Pt.cells, Pt.slots] at X34 l34 y34 z34 st34 hQ34
        subst l34 y34 z34
        obtain ⟨rfl, N34q, e34⟩ := hQ34
        have N34 := Fr.app N21 N34q
        obtain ⟨cq35, kq35, q35a, q35b, q35c⟩ := isOf hZ e34 E_w_WIDENS
        obtain ⟨_, _, ⟨T35, L35, k35, n35⟩, -, X35, ⟨Lc35, hQ35, l35, y35, z35⟩, st35⟩ := X34.virtualBack hx (y := (⟨"com/example/svratka/svratka/authz/AccessChange", "narrows", "()Z"⟩ : MethodName)) (z := (⟨"com/example/svratka/svratka/authz/AccessChange", "narrows", "()Z"⟩ : MethodName)) hown (mvT hZ (hw _ (List.mem_of_getElem? (i := 3) rfl))) (mvT hZ (hw _ (List.mem_of_getElem? (i := 4) rfl))) (notFace_of_selects (args := #[]) (mvT hZ (hw _ (List.mem_of_getElem? (i := 6) rfl)))) (mvT hZ (hw _ (List.mem_of_getElem? (i := 6) rfl))) (mvT hZ (hw _ (List.mem_of_getElem? (i := 5) rfl))) (by decide) (backOf (W := 0) (rm1 l Z a0 hw [] w_WIDENS w_NARROWS w_MIXED h0 n0 Z0 S_w_NARROWS ((Fld.ne F_ordinal_w_WIDENS F_ordinal_w_NARROWS (by decide))) S_w_MIXED ((Fld.ne F_ordinal_w_WIDENS F_ordinal_w_MIXED (by decide)))) hZ (hw _ (List.mem_of_getElem? (i := 7) rfl)) (hw _ (List.mem_of_getElem? (i := 1) rfl)) (by decide) (by decide)) q35a q35c (g := (mkF m 114 #[.val (.int x0), .val (.int (0 : Int32)), .val (.ref w_NONE), .val (.int (0 : Int32)), .val (.int (0 : Int32)), .val (.int (1 : Int32)), .val (.int (0 : Int32))] [(.ref w_WIDENS)])) rfl (by rw [hml]; rfl) (Steps.refl _) (argsL := []) (rest := []) (lenOf pd_0 rfl) rfl (by show 2 * 0 + _ ≤ _; exact Nat.le_of_eq rfl) (hb hby at_114) (fun _ _ => ⟨rfl, e34, (by decide : 0 + 0 ≤ _), (by decide : 0 + 0 ≤ _)⟩)
        dsimp only [Pt.U, Pt.locs, Pt.cells, Pt.slots] at X35 l35 y35 z35 st35 hQ35
        subst l35 y35 z35
        obtain ⟨rfl, N35q, e35⟩ := hQ35
        have N35 := Fr.app N34 N35q
        have pre36 : ∀ t, Steps p.tables e below (T35.setTop (mkF m 127 #[.val (.int x0), .val (.int (0 : Int32)), .val (.ref w_NONE), .val (.int (0 : Int32)), .val (.int (0 : Int32)), .val (.int (1 : Int32)), .val (.int (0 : Int32))] [(.int (1 : Int32))])) t → Steps p.tables e below (s₁.setTop (entryFrame m #[(.int x0)] maxLocals)) t := fun t kk => pre32 t (by
          show Steps p.tables e below (T21.setTop (mkF m 97 #[.val (.int x0), .val (.int (0 : Int32)), .val (.ref w_NONE), .val (.int (0 : Int32)), .val (.int (0 : Int32)), .val (.int (1 : Int32)), .unset] [(.int (x0 &&& (8 : Int32)))])) _
          refine XS.ifYes X21.here hx rfl (pc0 := 97) (pc' := 104) rfl (hb hby at_97) rfl ((if0 _ _).trans (teq (hc33 : (x0 &&& (8 : Int32)) = (0 : Int32))).1) (by decide) (by decide) ?_
          show Steps p.tables e below (T21.setTop (mkF m 104 #[.val (.int x0), .val (.int (0 : Int32)), .val (.ref w_NONE), .val (.int (0 : Int32)), .val (.int (0 : Int32)), .val (.int (1 : Int32)), .unset] [])) _
          refine XS.iconst X21.here hx rfl (hb hby at_104) ?_
          show Steps p.tables e below (T21.setTop (mkF m 105 #[.val (.int x0), .val (.int (0 : Int32)), .val (.ref w_NONE), .val (.int (0 : Int32)), .val (.int (0 : Int32)), .val (.int (1 : Int32)), .unset] [(.int (0 : Int32))])) _
          refine XS.istore X21.here hx rfl (hb hby at_105) rfl (l' := #[.val (.int x0), .val (.int (0 : Int32)), .val (.ref w_NONE), .val (.int (0 : Int32)), .val (.int (0 : Int32)), .val (.int (1 : Int32)), .val (.int (0 : Int32))]) rfl ?_
          show Steps p.tables e below (T21.setTop (mkF m 107 #[.val (.int x0), .val (.int (0 : Int32)), .val (.ref w_NONE), .val (.int (0 : Int32)), .val (.int (0 : Int32)), .val (.int (1 : Int32)), .val (.int (0 : Int32))] [])) _
          refine XS.iload X21.here hx rfl (hb hby at_107) rfl ?_
          show Steps p.tables e below (T21.setTop (mkF m 109 #[.val (.int x0), .val (.int (0 : Int32)), .val (.ref w_NONE), .val (.int (0 : Int32)), .val (.int (0 : Int32)), .val (.int (1 : Int32)), .val (.int (0 : Int32))] [(.int (1 : Int32))])) _
          refine XS.iload X21.here hx rfl (hb hby at_109) rfl ?_
          show Steps p.tables e below (T21.setTop (mkF m 111 #[.val (.int x0), .val (.int (0 : Int32)), .val (.ref w_NONE), .val (.int (0 : Int32)), .val (.int (0 : Int32)), .val (.int (1 : Int32)), .val (.int (0 : Int32))] [(.int (0 : Int32)), (.int (1 : Int32))])) _
          refine st34 _ ?_
          show Steps p.tables e below (T34.setTop (mkF m 114 #[.val (.int x0), .val (.int (0 : Int32)), .val (.ref w_NONE), .val (.int (0 : Int32)), .val (.int (0 : Int32)), .val (.int (1 : Int32)), .val (.int (0 : Int32))] [(.ref w_WIDENS)])) _
          refine st35.trans ?_
          show Steps p.tables e below (T35.setTop (mkF m 117 #[.val (.int x0), .val (.int (0 : Int32)), .val (.ref w_NONE), .val (.int (0 : Int32)), .val (.int (0 : Int32)), .val (.int (1 : Int32)), .val (.int (0 : Int32))] [(.int (0 : Int32))])) _
          refine XS.iload X35.here hx rfl (hb hby at_117) rfl ?_
          show Steps p.tables e below (T35.setTop (mkF m 119 #[.val (.int x0), .val (.int (0 : Int32)), .val (.ref w_NONE), .val (.int (0 : Int32)), .val (.int (0 : Int32)), .val (.int (1 : Int32)), .val (.int (0 : Int32))] [(.int (0 : Int32)), (.int (0 : Int32))])) _
          refine XS.icmpNo X35.here hx rfl (hb hby at_119) rfl (teq ((by decide) : (0 : Int32) = (0 : Int32))).2 ?_
          show Steps p.tables e below (T35.setTop (mkF m 122 #[.val (.int x0), .val (.int (0 : Int32)), .val (.ref w_NONE), .val (.int (0 : Int32)), .val (.int (0 : Int32)), .val (.int (1 : Int32)), .val (.int (0 : Int32))] [])) _
          refine XS.iconst X35.here hx rfl (hb hby at_122) ?_
          show Steps p.tables e below (T35.setTop (mkF m 123 #[.val (.int x0), .val (.int (0 : Int32)), .val (.ref w_NONE), .val (.int (0 : Int32)), .val (.int (0 : Int32)), .val (.int (1 : Int32)), .val (.int (0 : Int32))] [(.int (1 : Int32))])) _
          refine XS.goto X35.here hx rfl (pc0 := 123) (pc' := 127) rfl (hb hby at_123) (by decide) (by decide) ?_
          exact kk)
        obtain ⟨fs, hr, hrun, hended, hW, hsame⟩ := X35.leave (v := some (.int (1 : Int32))) (fun h => by rw [Bd.returns] at h; cases h)
        refine ⟨_, _, pre36 _ ?_, hrun, hended, _, _, rfl, ?_, ⟨_, rfl⟩, hW, hsame.mono (by decide) (by decide)⟩
        · exact retN X35 hx (t := .boolean) Bd.returns (by simp) (hb hby at_127) hr
        · exact ⟨rfl, N35⟩
      ·
        obtain ⟨_, _, ⟨T37, L37, k37, n37⟩, -, X37, ⟨Lc37, hQ37, l37, y37, z37⟩, st37⟩ := Jvm.LawKit.callS X21 hx (y := (⟨"com/example/svratka/svratka/authz/AccessChange", "of", "(ZZ)Lcom/example/svratka/svratka/authz/AccessChange;"⟩ : MethodName)) hown (mvT hZ (hw _ (List.mem_of_getElem? (i := 19) rfl))) (mvT hZ (hw _ (List.mem_of_getElem? (i := 20) rfl))) (mvT hZ (hw _ (List.mem_of_getElem? (i := 1) rfl))) (mvT hZ (hw _ (List.mem_of_getElem? (i := 21) rfl))) (by decide) (backOf (W := 0) (rm7 l Z a0 hw [] w_MIXED h0 n0 Z0 S_w_MIXED) hZ (hw _ (List.mem_of_getElem? (i := 21) rfl)) (hw _ (List.mem_of_getElem? (i := 1) rfl)) (by decide) (by decide)) (g := (mkF m 111 #[.val (.int x0), .val (.int (0 : Int32)), .val (.ref w_NONE), .val (.int (0 : Int32)), .val (.int (0 : Int32)), .val (.int (1 : Int32)), .val (.int (1 : Int32))] [(.int (1 : Int32)), (.int (1 : Int32))])) rfl (by rw [hml]; rfl) (argsL := [(.int (1 : Int32)), (.int (1 : Int32))]) (rest := []) (lenOf pd_1 rfl) rfl (by show 2 * 0 + _ ≤ _; exact Nat.le_of_eq rfl) (hb hby at_111) (fun _ _ => ⟨rfl, e21, (by decide : 0 + 0 ≤ _), (by decide : 0 + 0 ≤ _)⟩)
        dsimp only [Pt.U, Pt.locs, Pt.cells, Pt.slots] at X37 l37 y37 z37 st37 hQ37
        subst l37 y37 z37
        obtain ⟨rfl, N37q, e37⟩ := hQ37
        have N37 := Fr.app N21 N37q
        obtain ⟨cq38, kq38, q38a, q38b, q38c⟩ := isOf hZ e37 E_w_MIXED
        obtain ⟨_, _, ⟨T38, L38, k38, n38⟩, -, X38, ⟨Lc38, hQ38, l38, y38, z38⟩, st38⟩ := X37.virtualBack hx (y := (⟨"com/example/svratka/svratka/authz/AccessChange", "narrows", "()Z"⟩ : MethodName)) (z := (⟨"com/example/svratka/svratka/authz/AccessChange", "narrows", "()Z"⟩ : MethodName)) hown (mvT hZ (hw _ (List.mem_of_getElem? (i := 3) rfl))) (mvT hZ (hw _ (List.mem_of_getElem? (i := 4) rfl))) (notFace_of_selects (args := #[]) (mvT hZ (hw _ (List.mem_of_getElem? (i := 6) rfl)))) (mvT hZ (hw _ (List.mem_of_getElem? (i := 6) rfl))) (mvT hZ (hw _ (List.mem_of_getElem? (i := 5) rfl))) (by decide) (backOf (W := 0) (rm8 l Z a0 hw [] w_MIXED w_NARROWS h0 n0 Z0 S_w_NARROWS ((Fld.ne F_ordinal_w_MIXED F_ordinal_w_NARROWS (by decide))) S_w_MIXED) hZ (hw _ (List.mem_of_getElem? (i := 7) rfl)) (hw _ (List.mem_of_getElem? (i := 1) rfl)) (by decide) (by decide)) q38a q38c (g := (mkF m 114 #[.val (.int x0), .val (.int (0 : Int32)), .val (.ref w_NONE), .val (.int (0 : Int32)), .val (.int (0 : Int32)), .val (.int (1 : Int32)), .val (.int (1 : Int32))] [(.ref w_MIXED)])) rfl (by rw [hml]; rfl) (Steps.refl _) (argsL := []) (rest := []) (lenOf pd_0 rfl) rfl (by show 2 * 0 + _ ≤ _; exact Nat.le_of_eq rfl) (hb hby at_114) (fun _ _ => ⟨rfl, e37, (by decide : 0 + 0 ≤ _), (by decide : 0 + 0 ≤ _)⟩)
        dsimp only [Pt.U, Pt.locs, Pt.cells, Pt.slots] at X38 l38 y38 z38 st38 hQ38
        subst l38 y38 z38
        obtain ⟨rfl, N38q, e38⟩ := hQ38
        have N38 := Fr.app N37 N38q
        have pre39 : ∀ t, Steps p.tables e below (T38.setTop (mkF m 127 #[.val (.int x0), .val (.int (0 : Int32)), .val (.ref w_NONE), .val (.int (0 : Int32)), .val (.int (0 : Int32)), .val (.int (1 : Int32)), .val (.int (1 : Int32))] [(.int (1 : Int32))])) t → Steps p.tables e below (s₁.setTop (entryFrame m #[(.int x0)] maxLocals)) t := fun t kk => pre32 t (by
          show Steps p.tables e below (T21.setTop (mkF m 97 #[.val (.int x0), .val (.int (0 : Int32)), .val (.ref w_NONE), .val (.int (0 : Int32)), .val (.int (0 : Int32)), .val (.int (1 : Int32)), .unset] [(.int (x0 &&& (8 : Int32)))])) _
          refine XS.ifNo X21.here hx rfl (hb hby at_97) rfl ((if0 _ _).trans (feq (hc33 : ¬ ((x0 &&& (8 : Int32)) = (0 : Int32)))).1) ?_
          show Steps p.tables e below (T21.setTop (mkF m 100 #[.val (.int x0), .val (.int (0 : Int32)), .val (.ref w_NONE), .val (.int (0 : Int32)), .val (.int (0 : Int32)), .val (.int (1 : Int32)), .unset] [])) _
          refine XS.iconst X21.here hx rfl (hb hby at_100) ?_
          show Steps p.tables e below (T21.setTop (mkF m 101 #[.val (.int x0), .val (.int (0 : Int32)), .val (.ref w_NONE), .val (.int (0 : Int32)), .val (.int (0 : Int32)), .val (.int (1 : Int32)), .unset] [(.int (1 : Int32))])) _
          refine XS.goto X21.here hx rfl (pc0 := 101) (pc' := 105) rfl (hb hby at_101) (by decide) (by decide) ?_
          show Steps p.tables e below (T21.setTop (mkF m 105 #[.val (.int x0), .val (.int (0 : Int32)), .val (.ref w_NONE), .val (.int (0 : Int32)), .val (.int (0 : Int32)), .val (.int (1 : Int32)), .unset] [(.int (1 : Int32))])) _
          refine XS.istore X21.here hx rfl (hb hby at_105) rfl (l' := #[.val (.int x0), .val (.int (0 : Int32)), .val (.ref w_NONE), .val (.int (0 : Int32)), .val (.int (0 : Int32)), .val (.int (1 : Int32)), .val (.int (1 : Int32))]) rfl ?_
          show Steps p.tables e below (T21.setTop (mkF m 107 #[.val (.int x0), .val (.int (0 : Int32)), .val (.ref w_NONE), .val (.int (0 : Int32)), .val (.int (0 : Int32)), .val (.int (1 : Int32)), .val (.int (1 : Int32))] [])) _
          refine XS.iload X21.here hx rfl (hb hby at_107) rfl ?_
          show Steps p.tables e below (T21.setTop (mkF m 109 #[.val (.int x0), .val (.int (0 : Int32)), .val (.ref w_NONE), .val (.int (0 : Int32)), .val (.int (0 : Int32)), .val (.int (1 : Int32)), .val (.int (1 : Int32))] [(.int (1 : Int32))])) _
          refine XS.iload X21.here hx rfl (hb hby at_109) rfl ?_
          show Steps p.tables e below (T21.setTop (mkF m 111 #[.val (.int x0), .val (.int (0 : Int32)), .val (.ref w_NONE), .val (.int (0 : Int32)), .val (.int (0 : Int32)), .val (.int (1 : Int32)), .val (.int (1 : Int32))] [(.int (1 : Int32)), (.int (1 : Int32))])) _
          refine st37 _ ?_
          show Steps p.tables e below (T37.setTop (mkF m 114 #[.val (.int x0), .val (.int (0 : Int32)), .val (.ref w_NONE), .val (.int (0 : Int32)), .val (.int (0 : Int32)), .val (.int (1 : Int32)), .val (.int (1 : Int32))] [(.ref w_MIXED)])) _
          refine st38.trans ?_
          show Steps p.tables e below (T38.setTop (mkF m 117 #[.val (.int x0), .val (.int (0 : Int32)), .val (.ref w_NONE), .val (.int (0 : Int32)), .val (.int (0 : Int32)), .val (.int (1 : Int32)), .val (.int (1 : Int32))] [(.int (1 : Int32))])) _
          refine XS.iload X38.here hx rfl (hb hby at_117) rfl ?_
          show Steps p.tables e below (T38.setTop (mkF m 119 #[.val (.int x0), .val (.int (0 : Int32)), .val (.ref w_NONE), .val (.int (0 : Int32)), .val (.int (0 : Int32)), .val (.int (1 : Int32)), .val (.int (1 : Int32))] [(.int (1 : Int32)), (.int (1 : Int32))])) _
          refine XS.icmpNo X38.here hx rfl (hb hby at_119) rfl (teq ((by decide) : (1 : Int32) = (1 : Int32))).2 ?_
          show Steps p.tables e below (T38.setTop (mkF m 122 #[.val (.int x0), .val (.int (0 : Int32)), .val (.ref w_NONE), .val (.int (0 : Int32)), .val (.int (0 : Int32)), .val (.int (1 : Int32)), .val (.int (1 : Int32))] [])) _
          refine XS.iconst X38.here hx rfl (hb hby at_122) ?_
          show Steps p.tables e below (T38.setTop (mkF m 123 #[.val (.int x0), .val (.int (0 : Int32)), .val (.ref w_NONE), .val (.int (0 : Int32)), .val (.int (0 : Int32)), .val (.int (1 : Int32)), .val (.int (1 : Int32))] [(.int (1 : Int32))])) _
          refine XS.goto X38.here hx rfl (pc0 := 123) (pc' := 127) rfl (hb hby at_123) (by decide) (by decide) ?_
          exact kk)
        obtain ⟨fs, hr, hrun, hended, hW, hsame⟩ := X38.leave (v := some (.int (1 : Int32))) (fun h => by rw [Bd.returns] at h; cases h)
        refine ⟨_, _, pre39 _ ?_, hrun, hended, _, _, rfl, ?_, ⟨_, rfl⟩, hW, hsame.mono (by decide) (by decide)⟩
        · exact retN X38 hx (t := .boolean) Bd.returns (by simp) (hb hby at_127) hr
        · exact ⟨rfl, N38⟩
  ·
    have pre40 := pre15
    rw [hv16] at pre40
    obtain ⟨T41, X41, e41, st41⟩ := getS2 X0 hx hZ hown (host := "") (Or.inl (hw _ (List.mem_of_getElem? (i := 25) rfl))) Via.refl e0 S_w_WIDENS (g := (mkF m 22 #[.val (.int x0), .val (.int (1 : Int32)), .unset, .unset, .unset, .unset, .unset] [])) rfl (hb hby at_22)
    obtain ⟨cq42, kq42, q42a, q42b, q42c⟩ := isOf hZ e41 E_w_WIDENS
    obtain ⟨_, _, ⟨T42, L42, k42, n42⟩, -, X42, ⟨Lc42, hQ42, l42, y42, z42⟩, st42⟩ := X41.virtualBack hx (y := (⟨"com/example/svratka/svratka/authz/AccessChange", "narrows", "()Z"⟩ : MethodName)) (z := (⟨"com/example/svratka/svratka/authz/AccessChange", "narrows", "()Z"⟩ : MethodName)) hown (mvT hZ (hw _ (List.mem_of_getElem? (i := 3) rfl))) (mvT hZ (hw _ (List.mem_of_getElem? (i := 4) rfl))) (notFace_of_selects (args := #[]) (mvT hZ (hw _ (List.mem_of_getElem? (i := 6) rfl)))) (mvT hZ (hw _ (List.mem_of_getElem? (i := 6) rfl))) (mvT hZ (hw _ (List.mem_of_getElem? (i := 5) rfl))) (by decide) (backOf (W := 0) (rm1 l Z a0 hw [] w_WIDENS w_NARROWS w_MIXED h0 n0 Z0 S_w_NARROWS ((Fld.ne F_ordinal_w_WIDENS F_ordinal_w_NARROWS (by decide))) S_w_MIXED ((Fld.ne F_ordinal_w_WIDENS F_ordinal_w_MIXED (by decide)))) hZ (hw _ (List.mem_of_getElem? (i := 7) rfl)) (hw _ (List.mem_of_getElem? (i := 1) rfl)) (by decide) (by decide)) q42a q42c (g := (mkF m 52 #[.val (.int x0), .val (.int (1 : Int32)), .val (.ref w_WIDENS), .val (.int (0 : Int32)), .unset, .unset, .unset] [(.ref w_WIDENS)])) rfl (by rw [hml]; rfl) (Steps.refl _) (argsL := []) (rest := []) (lenOf pd_0 rfl) rfl (by show 2 * 0 + _ ≤ _; exact Nat.le_of_eq rfl) (hb hby at_52) (fun _ _ => ⟨rfl, e41, (by decide : 0 + 0 ≤ _), (by decide : 0 + 0 ≤ _)⟩)
    dsimp only [Pt.U, Pt.locs, Pt.cells, Pt.slots] at X42 l42 y42 z42 st42 hQ42
    subst l42 y42 z42
    obtain ⟨rfl, N42q, e42⟩ := hQ42
    have N42 := Fr.app N0 N42q
    obtain ⟨cq43, kq43, q43a, q43b, q43c⟩ := isOf hZ e42 E_w_WIDENS
    obtain ⟨_, _, ⟨T43, L43, k43, n43⟩, -, X43, ⟨Lc43, hQ43, l43, y43, z43⟩, st43⟩ := X42.virtualBack hx (y := (⟨"com/example/svratka/svratka/authz/AccessChange", "widens", "()Z"⟩ : MethodName)) (z := (⟨"com/example/svratka/svratka/authz/AccessChange", "widens", "()Z"⟩ : MethodName)) hown (mvT hZ (hw _ (List.mem_of_getElem? (i := 12) rfl))) (mvT hZ (hw _ (List.mem_of_getElem? (i := 13) rfl))) (notFace_of_selects (args := #[]) (mvT hZ (hw _ (List.mem_of_getElem? (i := 15) rfl)))) (mvT hZ (hw _ (List.mem_of_getElem? (i := 15) rfl))) (mvT hZ (hw _ (List.mem_of_getElem? (i := 14) rfl))) (by decide) (backOf (W := 0) (rm9 l Z a0 hw [] w_WIDENS h0 n0 Z0 S_w_WIDENS) hZ (hw _ (List.mem_of_getElem? (i := 16) rfl)) (hw _ (List.mem_of_getElem? (i := 1) rfl)) (by decide) (by decide)) q43a q43c (g := (mkF m 66 #[.val (.int x0), .val (.int (1 : Int32)), .val (.ref w_WIDENS), .val (.int (0 : Int32)), .val (.int (0 : Int32)), .unset, .unset] [(.ref w_WIDENS)])) rfl (by rw [hml]; rfl) (Steps.refl _) (argsL := []) (rest := []) (lenOf pd_0 rfl) rfl (by show 2 * 0 + _ ≤ _; exact Nat.le_of_eq rfl) (hb hby at_66) (fun _ _ => ⟨rfl, e42, (by decide : 0 + 0 ≤ _), (by decide : 0 + 0 ≤ _)⟩)
    dsimp only [Pt.U, Pt.locs, Pt.cells, Pt.slots] at X43 l43 y43 z43 st43 hQ43
    subst l43 y43 z43
    obtain ⟨rfl, N43q, e43⟩ := hQ43
    have N43 := Fr.app N42 N43q
    obtain ⟨_, _, ⟨T44, L44, k44, n44⟩, -, X44, ⟨Lc44, hQ44, l44, y44, z44⟩, st44⟩ := Jvm.LawKit.callS X43 hx (y := (⟨"com/example/svratka/svratka/authz/AccessChange", "of", "(ZZ)Lcom/example/svratka/svratka/authz/AccessChange;"⟩ : MethodName)) hown (mvT hZ (hw _ (List.mem_of_getElem? (i := 19) rfl))) (mvT hZ (hw _ (List.mem_of_getElem? (i := 20) rfl))) (mvT hZ (hw _ (List.mem_of_getElem? (i := 1) rfl))) (mvT hZ (hw _ (List.mem_of_getElem? (i := 21) rfl))) (by decide) (backOf (W := 0) (rm6 l Z a0 hw [] w_WIDENS h0 n0 Z0 S_w_WIDENS) hZ (hw _ (List.mem_of_getElem? (i := 21) rfl)) (hw _ (List.mem_of_getElem? (i := 1) rfl)) (by decide) (by decide)) (g := (mkF m 71 #[.val (.int x0), .val (.int (1 : Int32)), .val (.ref w_WIDENS), .val (.int (0 : Int32)), .val (.int (0 : Int32)), .unset, .unset] [(.int (0 : Int32)), (.int (1 : Int32))])) rfl (by rw [hml]; rfl) (argsL := [(.int (1 : Int32)), (.int (0 : Int32))]) (rest := []) (lenOf pd_1 rfl) rfl (by show 2 * 0 + _ ≤ _; exact Nat.le_of_eq rfl) (hb hby at_71) (fun _ _ => ⟨rfl, e43, (by decide : 0 + 0 ≤ _), (by decide : 0 + 0 ≤ _)⟩)
    dsimp only [Pt.U, Pt.locs, Pt.cells, Pt.slots] at X44 l44 y44 z44 st44 hQ44
    subst l44 y44 z44
    obtain ⟨rfl, N44q, e44⟩ := hQ44
    have N44 := Fr.app N43 N44q
    have pre45 : ∀ t, Steps p.tables e below (T44.setTop (mkF m 83 #[.val (.int x0), .val (.int (1 : Int32)), .val (.ref w_WIDENS), .val (.int (0 : Int32)), .val (.int (0 : Int32)), .unset, .unset] [(.int (x0 &&& (4 : Int32)))])) t → Steps p.tables e below (s₁.setTop (entryFrame m #[(.int x0)] maxLocals)) t := fun t kk => pre40 t (by
      show Steps p.tables e below (s₁.setTop (mkF m 3 #[.val (.int x0), .unset, .unset, .unset, .unset, .unset, .unset] [(.int (1 : Int32))])) _
      refine XS.istoreN X0.here hx rfl (hb hby at_3) rfl (l' := #[.val (.int x0), .val (.int (1 : Int32)), .unset, .unset, .unset, .unset, .unset]) rfl ?_
      show Steps p.tables e below (s₁.setTop (mkF m 4 #[.val (.int x0), .val (.int (1 : Int32)), .unset, .unset, .unset, .unset, .unset] [])) _
      refine XS.iloadN X0.here hx rfl (hb hby at_4) rfl ?_
      show Steps p.tables e below (s₁.setTop (mkF m 5 #[.val (.int x0), .val (.int (1 : Int32)), .unset, .unset, .unset, .unset, .unset] [(.int (1 : Int32))])) _
      refine XS.ifYes X0.here hx rfl (pc0 := 5) (pc' := 17) rfl (hb hby at_5) rfl ((if0 _ _).trans (feq ((by decide) : ¬ ((1 : Int32) = (0 : Int32)))).2) (by decide) (by decide) ?_
      show Steps p.tables e below (s₁.setTop (mkF m 17 #[.val (.int x0), .val (.int (1 : Int32)), .unset, .unset, .unset, .unset, .unset] [])) _
      refine XS.iloadN X0.here hx rfl (hb hby at_17) rfl ?_
      show Steps p.tables e below (s₁.setTop (mkF m 18 #[.val (.int x0), .val (.int (1 : Int32)), .unset, .unset, .unset, .unset, .unset] [(.int (1 : Int32))])) _
      refine XS.iconst X0.here hx rfl (hb hby at_18) ?_
      show Steps p.tables e below (s₁.setTop (mkF m 19 #[.val (.int x0), .val (.int (1 : Int32)), .unset, .unset, .unset, .unset, .unset] [(.int (1 : Int32)), (.int (1 : Int32))])) _
      refine XS.icmpNo X0.here hx rfl (hb hby at_19) rfl (teq ((by decide) : (1 : Int32) = (1 : Int32))).2 ?_
      show Steps p.tables e below (s₁.setTop (mkF m 22 #[.val (.int x0), .val (.int (1 : Int32)), .unset, .unset, .unset, .unset, .unset] [])) _
      refine st41 _ ?_
      show Steps p.tables e below (T41.setTop (mkF m 25 #[.val (.int x0), .val (.int (1 : Int32)), .unset, .unset, .unset, .unset, .unset] [(.ref w_WIDENS)])) _
      refine XS.astoreN X41.here hx rfl (hb hby at_25) rfl rfl (l' := #[.val (.int x0), .val (.int (1 : Int32)), .val (.ref w_WIDENS), .unset, .unset, .unset, .unset]) rfl ?_
      show Steps p.tables e below (T41.setTop (mkF m 26 #[.val (.int x0), .val (.int (1 : Int32)), .val (.ref w_WIDENS), .unset, .unset, .unset, .unset] [])) _
      refine XS.iconst X41.here hx rfl (hb hby at_26) ?_
      show Steps p.tables e below (T41.setTop (mkF m 27 #[.val (.int x0), .val (.int (1 : Int32)), .val (.ref w_WIDENS), .unset, .unset, .unset, .unset] [(.int (0 : Int32))])) _
      refine XS.istoreN X41.here hx rfl (hb hby at_27) rfl (l' := #[.val (.int x0), .val (.int (1 : Int32)), .val (.ref w_WIDENS), .val (.int (0 : Int32)), .unset, .unset, .unset]) rfl ?_
      show Steps p.tables e below (T41.setTop (mkF m 28 #[.val (.int x0), .val (.int (1 : Int32)), .val (.ref w_WIDENS), .val (.int (0 : Int32)), .unset, .unset, .unset] [])) _
      refine XS.goto X41.here hx rfl (pc0 := 28) (pc' := 51) rfl (hb hby at_28) (by decide) (by decide) ?_
      show Steps p.tables e below (T41.setTop (mkF m 51 #[.val (.int x0), .val (.int (1 : Int32)), .val (.ref w_WIDENS), .val (.int (0 : Int32)), .unset, .unset, .unset] [])) _
      refine XS.aloadN X41.here hx rfl (hb hby at_51) rfl rfl ?_
      show Steps p.tables e below (T41.setTop (mkF m 52 #[.val (.int x0), .val (.int (1 : Int32)), .val (.ref w_WIDENS), .val (.int (0 : Int32)), .unset, .unset, .unset] [(.ref w_WIDENS)])) _
      refine st42.trans ?_
      show Steps p.tables e below (T42.setTop (mkF m 55 #[.val (.int x0), .val (.int (1 : Int32)), .val (.ref w_WIDENS), .val (.int (0 : Int32)), .unset, .unset, .unset] [(.int (0 : Int32))])) _
      refine XS.istore X42.here hx rfl (hb hby at_55) rfl (l' := #[.val (.int x0), .val (.int (1 : Int32)), .val (.ref w_WIDENS), .val (.int (0 : Int32)), .val (.int (0 : Int32)), .unset, .unset]) rfl ?_
      show Steps p.tables e below (T42.setTop (mkF m 57 #[.val (.int x0), .val (.int (1 : Int32)), .val (.ref w_WIDENS), .val (.int (0 : Int32)), .val (.int (0 : Int32)), .unset, .unset] [])) _
      refine XS.iload X42.here hx rfl (hb hby at_57) rfl ?_
      show Steps p.tables e below (T42.setTop (mkF m 59 #[.val (.int x0), .val (.int (1 : Int32)), .val (.ref w_WIDENS), .val (.int (0 : Int32)), .val (.int (0 : Int32)), .unset, .unset] [(.int (0 : Int32))])) _
      refine XS.iloadN X42.here hx rfl (hb hby at_59) rfl ?_
      show Steps p.tables e below (T42.setTop (mkF m 60 #[.val (.int x0), .val (.int (1 : Int32)), .val (.ref w_WIDENS), .val (.int (0 : Int32)), .val (.int (0 : Int32)), .unset, .unset] [(.int (0 : Int32)), (.int (0 : Int32))])) _
      refine XS.icmpYes X42.here hx rfl (pc0 := 60) (pc' := 65) rfl (hb hby at_60) rfl (teq ((by decide) : (0 : Int32) = (0 : Int32))).1 (by decide) (by decide) ?_
      show Steps p.tables e below (T42.setTop (mkF m 65 #[.val (.int x0), .val (.int (1 : Int32)), .val (.ref w_WIDENS), .val (.int (0 : Int32)), .val (.int (0 : Int32)), .unset, .unset] [])) _
      refine XS.aloadN X42.here hx rfl (hb hby at_65) rfl rfl ?_
      show Steps p.tables e below (T42.setTop (mkF m 66 #[.val (.int x0), .val (.int (1 : Int32)), .val (.ref w_WIDENS), .val (.int (0 : Int32)), .val (.int (0 : Int32)), .unset, .unset] [(.ref w_WIDENS)])) _
      refine st43.trans ?_
      show Steps p.tables e below (T43.setTop (mkF m 69 #[.val (.int x0), .val (.int (1 : Int32)), .val (.ref w_WIDENS), .val (.int (0 : Int32)), .val (.int (0 : Int32)), .unset, .unset] [(.int (1 : Int32))])) _
      refine XS.iload X43.here hx rfl (hb hby at_69) rfl ?_
      show Steps p.tables e below (T43.setTop (mkF m 71 #[.val (.int x0), .val (.int (1 : Int32)), .val (.ref w_WIDENS), .val (.int (0 : Int32)), .val (.int (0 : Int32)), .unset, .unset] [(.int (0 : Int32)), (.int (1 : Int32))])) _
      refine st44 _ ?_
      show Steps p.tables e below (T44.setTop (mkF m 74 #[.val (.int x0), .val (.int (1 : Int32)), .val (.ref w_WIDENS), .val (.int (0 : Int32)), .val (.int (0 : Int32)), .unset, .unset] [(.ref w_WIDENS)])) _
      refine XS.aloadN X44.here hx rfl (hb hby at_74) rfl rfl ?_
      show Steps p.tables e below (T44.setTop (mkF m 75 #[.val (.int x0), .val (.int (1 : Int32)), .val (.ref w_WIDENS), .val (.int (0 : Int32)), .val (.int (0 : Int32)), .unset, .unset] [(.ref w_WIDENS), (.ref w_WIDENS)])) _
      refine Jvm.RoadKit.acmp (g := (mkF m 75 #[.val (.int x0), .val (.int (1 : Int32)), .val (.ref w_WIDENS), .val (.int (0 : Int32)), .val (.int (0 : Int32)), .unset, .unset] [(.ref w_WIDENS), (.ref w_WIDENS)])) X44 hx rfl rfl rfl (pc0 := 75) (pc' := 80) (same := true) rfl (hb hby at_75) rfl (decide_eq_true rfl) (by decide) (by decide) ?_
      show Steps p.tables e below (T44.setTop (mkF m 80 #[.val (.int x0), .val (.int (1 : Int32)), .val (.ref w_WIDENS), .val (.int (0 : Int32)), .val (.int (0 : Int32)), .unset, .unset] [])) _
      refine XS.iloadN X44.here hx rfl (hb hby at_80) rfl ?_
      show Steps p.tables e below (T44.setTop (mkF m 81 #[.val (.int x0), .val (.int (1 : Int32)), .val (.ref w_WIDENS), .val (.int (0 : Int32)), .val (.int (0 : Int32)), .unset, .unset] [(.int x0)])) _
      refine XS.iconst X44.here hx rfl (hb hby at_81) ?_
      show Steps p.tables e below (T44.setTop (mkF m 82 #[.val (.int x0), .val (.int (1 : Int32)), .val (.ref w_WIDENS), .val (.int (0 : Int32)), .val (.int (0 : Int32)), .unset, .unset] [(.int (4 : Int32)), (.int x0)])) _
      refine XS.iand X44.here hx rfl (hb hby at_82) rfl ?_
      exact kk)
    by_cases hc46 : (x0 &&& (4 : Int32)) = (0 : Int32)
    ·
      have pre47 : ∀ t, Steps p.tables e below (T44.setTop (mkF m 97 #[.val (.int x0), .val (.int (1 : Int32)), .val (.ref w_WIDENS), .val (.int (0 : Int32)), .val (.int (0 : Int32)), .val (.int (0 : Int32)), .unset] [(.int (x0 &&& (8 : Int32)))])) t → Steps p.tables e below (s₁.setTop (entryFrame m #[(.int x0)] maxLocals)) t := fun t kk => pre45 t (by
        show Steps p.tables e below (T44.setTop (mkF m 83 #[.val (.int x0), .val (.int (1 : Int32)), .val (.ref w_WIDENS), .val (.int (0 : Int32)), .val (.int (0 : Int32)), .unset, .unset] [(.int (x0 &&& (4 : Int32)))])) _
        refine XS.ifYes X44.here hx rfl (pc0 := 83) (pc' := 90) rfl (hb hby at_83) rfl ((if0 _ _).trans (teq (hc46 : (x0 &&& (4 : Int32)) = (0 : Int32))).1) (by decide) (by decide) ?_
        show Steps p.tables e below (T44.setTop (mkF m 90 #[.val (.int x0), .val (.int (1 : Int32)), .val (.ref w_WIDENS), .val (.int (0 : Int32)), .val (.int (0 : Int32)), .unset, .unset] [])) _
        refine XS.iconst X44.here hx rfl (hb hby at_90) ?_
        show Steps p.tables e below (T44.setTop (mkF m 91 #[.val (.int x0), .val (.int (1 : Int32)), .val (.ref w_WIDENS), .val (.int (0 : Int32)), .val (.int (0 : Int32)), .unset, .unset] [(.int (0 : Int32))])) _
        refine XS.istore X44.here hx rfl (hb hby at_91) rfl (l' := #[.val (.int x0), .val (.int (1 : Int32)), .val (.ref w_WIDENS), .val (.int (0 : Int32)), .val (.int (0 : Int32)), .val (.int (0 : Int32)), .unset]) rfl ?_
        show Steps p.tables e below (T44.setTop (mkF m 93 #[.val (.int x0), .val (.int (1 : Int32)), .val (.ref w_WIDENS), .val (.int (0 : Int32)), .val (.int (0 : Int32)), .val (.int (0 : Int32)), .unset] [])) _
        refine XS.iloadN X44.here hx rfl (hb hby at_93) rfl ?_
        show Steps p.tables e below (T44.setTop (mkF m 94 #[.val (.int x0), .val (.int (1 : Int32)), .val (.ref w_WIDENS), .val (.int (0 : Int32)), .val (.int (0 : Int32)), .val (.int (0 : Int32)), .unset] [(.int x0)])) _
        refine XS.bipush X44.here hx rfl (hb hby at_94) ?_
        show Steps p.tables e below (T44.setTop (mkF m 96 #[.val (.int x0), .val (.int (1 : Int32)), .val (.ref w_WIDENS), .val (.int (0 : Int32)), .val (.int (0 : Int32)), .val (.int (0 : Int32)), .unset] [(.int (8 : Int32)), (.int x0)])) _
        refine XS.iand X44.here hx rfl (hb hby at_96) rfl ?_
        exact kk)
      by_cases hc48 : (x0 &&& (8 : Int32)) = (0 : Int32)
      ·
        obtain ⟨_, _, ⟨T49, L49, k49, n49⟩, -, X49, ⟨Lc49, hQ49, l49, y49, z49⟩, st49⟩ := Jvm.LawKit.callS X44 hx (y := (⟨"com/example/svratka/svratka/authz/AccessChange", "of", "(ZZ)Lcom/example/svratka/svratka/authz/AccessChange;"⟩ : MethodName)) hown (mvT hZ (hw _ (List.mem_of_getElem? (i := 19) rfl))) (mvT hZ (hw _ (List.mem_of_getElem? (i := 20) rfl))) (mvT hZ (hw _ (List.mem_of_getElem? (i := 1) rfl))) (mvT hZ (hw _ (List.mem_of_getElem? (i := 21) rfl))) (by decide) (backOf (W := 0) (rm3 l Z a0 hw [] w_NONE h0 n0 Z0 S_w_NONE) hZ (hw _ (List.mem_of_getElem? (i := 21) rfl)) (hw _ (List.mem_of_getElem? (i := 1) rfl)) (by decide) (by decide)) (g := (mkF m 111 #[.val (.int x0), .val (.int (1 : Int32)), .val (.ref w_WIDENS), .val (.int (0 : Int32)), .val (.int (0 : Int32)), .val (.int (0 : Int32)), .val (.int (0 : Int32))] [(.int (0 : Int32)), (.int (0 : Int32))])) rfl (by rw [hml]; rfl) (argsL := [(.int (0 : Int32)), (.int (0 : Int32))]) (rest := []) (lenOf pd_1 rfl) rfl (by show 2 * 0 + _ ≤ _; exact Nat.le_of_eq rfl) (hb hby at_111) (fun _ _ => ⟨rfl, e44, (by decide : 0 + 0 ≤ _), (by decide : 0 + 0 ≤ _)⟩)
        dsimp only [Pt.U, Pt.locs, Pt.cells, Pt.slots] at X49 l49 y49 z49 st49 hQ49
        subst l49 y49 z49
        obtain ⟨rfl, N49q, e49⟩ := hQ49
        have N49 := Fr.app N44 N49q
        obtain ⟨cq50, kq50, q50a, q50b, q50c⟩ := isOf hZ e49 E_w_NONE
        obtain ⟨_, _, ⟨T50, L50, k50, n50⟩, -, X50, ⟨Lc50, hQ50, l50, y50, z50⟩, st50⟩ := X49.virtualBack hx (y := (⟨"com/example/svratka/svratka/authz/AccessChange", "narrows", "()Z"⟩ : MethodName)) (z := (⟨"com/example/svratka/svratka/authz/AccessChange", "narrows", "()Z"⟩ : MethodName)) hown (mvT hZ (hw _ (List.mem_of_getElem? (i := 3) rfl))) (mvT hZ (hw _ (List.mem_of_getElem? (i := 4) rfl))) (notFace_of_selects (args := #[]) (mvT hZ (hw _ (List.mem_of_getElem? (i := 6) rfl)))) (mvT hZ (hw _ (List.mem_of_getElem? (i := 6) rfl))) (mvT hZ (hw _ (List.mem_of_getElem? (i := 5) rfl))) (by decide) (backOf (W := 0) (rm1 l Z a0 hw [] w_NONE w_NARROWS w_MIXED h0 n0 Z0 S_w_NARROWS ((Fld.ne F_ordinal_w_NONE F_ordinal_w_NARROWS (by decide))) S_w_MIXED ((Fld.ne F_ordinal_w_NONE F_ordinal_w_MIXED (by decide)))) hZ (hw _ (List.mem_of_getElem? (i := 7) rfl)) (hw _ (List.mem_of_getElem? (i := 1) rfl)) (by decide) (by decide)) q50a q50c (g := (mkF m 114 #[.val (.int x0), .val (.int (1 : Int32)), .val (.ref w_WIDENS), .val (.int (0 : Int32)), .val (.int (0 : Int32)), .val (.int (0 : Int32)), .val (.int (0 : Int32))] [(.ref w_NONE)])) rfl (by rw [hml]; rfl) (Steps.refl _) (argsL := []) (rest := []) (lenOf pd_0 rfl) rfl (by show 2 * 0 + _ ≤ _; exact Nat.le_of_eq rfl) (hb hby at_114) (fun _ _ => ⟨rfl, e49, (by decide : 0 + 0 ≤ _), (by decide : 0 + 0 ≤ _)⟩)
        dsimp only [Pt.U, Pt.locs, Pt.cells, Pt.slots] at X50 l50 y50 z50 st50 hQ50
        subst l50 y50 z50
        obtain ⟨rfl, N50q, e50⟩ := hQ50
        have N50 := Fr.app N49 N50q
        have pre51 : ∀ t, Steps p.tables e below (T50.setTop (mkF m 127 #[.val (.int x0), .val (.int (1 : Int32)), .val (.ref w_WIDENS), .val (.int (0 : Int32)), .val (.int (0 : Int32)), .val (.int (0 : Int32)), .val (.int (0 : Int32))] [(.int (1 : Int32))])) t → Steps p.tables e below (s₁.setTop (entryFrame m #[(.int x0)] maxLocals)) t := fun t kk => pre47 t (by
          show Steps p.tables e below (T44.setTop (mkF m 97 #[.val (.int x0), .val (.int (1 : Int32)), .val (.ref w_WIDENS), .val (.int (0 : Int32)), .val (.int (0 : Int32)), .val (.int (0 : Int32)), .unset] [(.int (x0 &&& (8 : Int32)))])) _
          refine XS.ifYes X44.here hx rfl (pc0 := 97) (pc' := 104) rfl (hb hby at_97) rfl ((if0 _ _).trans (teq (hc48 : (x0 &&& (8 : Int32)) = (0 : Int32))).1) (by decide) (by decide) ?_
          show Steps p.tables e below (T44.setTop (mkF m 104 #[.val (.int x0), .val (.int (1 : Int32)), .val (.ref w_WIDENS), .val (.int (0 : Int32)), .val (.int (0 : Int32)), .val (.int (0 : Int32)), .unset] [])) _
          refine XS.iconst X44.here hx rfl (hb hby at_104) ?_
          show Steps p.tables e below (T44.setTop (mkF m 105 #[.val (.int x0), .val (.int (1 : Int32)), .val (.ref w_WIDENS), .val (.int (0 : Int32)), .val (.int (0 : Int32)), .val (.int (0 : Int32)), .unset] [(.int (0 : Int32))])) _
          refine XS.istore X44.here hx rfl (hb hby at_105) rfl (l' := #[.val (.int x0), .val (.int (1 : Int32)), .val (.ref w_WIDENS), .val (.int (0 : Int32)), .val (.int (0 : Int32)), .val (.int (0 : Int32)), .val (.int (0 : Int32))]) rfl ?_
          show Steps p.tables e below (T44.setTop (mkF m 107 #[.val (.int x0), .val (.int (1 : Int32)), .val (.ref w_WIDENS), .val (.int (0 : Int32)), .val (.int (0 : Int32)), .val (.int (0 : Int32)), .val (.int (0 : Int32))] [])) _
          refine XS.iload X44.here hx rfl (hb hby at_107) rfl ?_
          show Steps p.tables e below (T44.setTop (mkF m 109 #[.val (.int x0), .val (.int (1 : Int32)), .val (.ref w_WIDENS), .val (.int (0 : Int32)), .val (.int (0 : Int32)), .val (.int (0 : Int32)), .val (.int (0 : Int32))] [(.int (0 : Int32))])) _
          refine XS.iload X44.here hx rfl (hb hby at_109) rfl ?_
          show Steps p.tables e below (T44.setTop (mkF m 111 #[.val (.int x0), .val (.int (1 : Int32)), .val (.ref w_WIDENS), .val (.int (0 : Int32)), .val (.int (0 : Int32)), .val (.int (0 : Int32)), .val (.int (0 : Int32))] [(.int (0 : Int32)), (.int (0 : Int32))])) _
          refine st49 _ ?_
          show Steps p.tables e below (T49.setTop (mkF m 114 #[.val (.int x0), .val (.int (1 : Int32)), .val (.ref w_WIDENS), .val (.int (0 : Int32)), .val (.int (0 : Int32)), .val (.int (0 : Int32)), .val (.int (0 : Int32))] [(.ref w_NONE)])) _
          refine st50.trans ?_
          show Steps p.tables e below (T50.setTop (mkF m 117 #[.val (.int x0), .val (.int (1 : Int32)), .val (.ref w_WIDENS), .val (.int (0 : Int32)), .val (.int (0 : Int32)), .val (.int (0 : Int32)), .val (.int (0 : Int32))] [(.int (0 : Int32))])) _
          refine XS.iload X50.here hx rfl (hb hby at_117) rfl ?_
          show Steps p.tables e below (T50.setTop (mkF m 119 #[.val (.int x0), .val (.int (1 : Int32)), .val (.ref w_WIDENS), .val (.int (0 : Int32)), .val (.int (0 : Int32)), .val (.int (0 : Int32)), .val (.int (0 : Int32))] [(.int (0 : Int32)), (.int (0 : Int32))])) _
          refine XS.icmpNo X50.here hx rfl (hb hby at_119) rfl (teq ((by decide) : (0 : Int32) = (0 : Int32))).2 ?_
          show Steps p.tables e below (T50.setTop (mkF m 122 #[.val (.int x0), .val (.int (1 : Int32)), .val (.ref w_WIDENS), .val (.int (0 : Int32)), .val (.int (0 : Int32)), .val (.int (0 : Int32)), .val (.int (0 : Int32))] [])) _
          refine XS.iconst X50.here hx rfl (hb hby at_122) ?_
          show Steps p.tables e below (T50.setTop (mkF m 123 #[.val (.int x0), .val (.int (1 : Int32)), .val (.ref w_WIDENS), .val (.int (0 : Int32)), .val (.int (0 : Int32)), .val (.int (0 : Int32)), .val (.int (0 : Int32))] [(.int (1 : Int32))])) _
          refine XS.goto X50.here hx rfl (pc0 := 123) (pc' := 127) rfl (hb hby at_123) (by decide) (by decide) ?_
          exact kk)
        obtain ⟨fs, hr, hrun, hended, hW, hsame⟩ := X50.leave (v := some (.int (1 : Int32))) (fun h => by rw [Bd.returns] at h; cases h)
        refine ⟨_, _, pre51 _ ?_, hrun, hended, _, _, rfl, ?_, ⟨_, rfl⟩, hW, hsame.mono (by decide) (by decide)⟩
        · exact retN X50 hx (t := .boolean) Bd.returns (by simp) (hb hby at_127) hr
        · exact ⟨rfl, N50⟩
      ·
        obtain ⟨_, _, ⟨T52, L52, k52, n52⟩, -, X52, ⟨Lc52, hQ52, l52, y52, z52⟩, st52⟩ := Jvm.LawKit.callS X44 hx (y := (⟨"com/example/svratka/svratka/authz/AccessChange", "of", "(ZZ)Lcom/example/svratka/svratka/authz/AccessChange;"⟩ : MethodName)) hown (mvT hZ (hw _ (List.mem_of_getElem? (i := 19) rfl))) (mvT hZ (hw _ (List.mem_of_getElem? (i := 20) rfl))) (mvT hZ (hw _ (List.mem_of_getElem? (i := 1) rfl))) (mvT hZ (hw _ (List.mem_of_getElem? (i := 21) rfl))) (by decide) (backOf (W := 0) (rm4 l Z a0 hw [] w_NARROWS h0 n0 Z0 S_w_NARROWS) hZ (hw _ (List.mem_of_getElem? (i := 21) rfl)) (hw _ (List.mem_of_getElem? (i := 1) rfl)) (by decide) (by decide)) (g := (mkF m 111 #[.val (.int x0), .val (.int (1 : Int32)), .val (.ref w_WIDENS), .val (.int (0 : Int32)), .val (.int (0 : Int32)), .val (.int (0 : Int32)), .val (.int (1 : Int32))] [(.int (1 : Int32)), (.int (0 : Int32))])) rfl (by rw [hml]; rfl) (argsL := [(.int (0 : Int32)), (.int (1 : Int32))]) (rest := []) (lenOf pd_1 rfl) rfl (by show 2 * 0 + _ ≤ _; exact Nat.le_of_eq rfl) (hb hby at_111) (fun _ _ => ⟨rfl, e44, (by decide : 0 + 0 ≤ _), (by decide : 0 + 0 ≤ _)⟩)
        dsimp only [Pt.U, Pt.locs, Pt.cells, Pt.slots] at X52 l52 y52 z52 st52 hQ52
        subst l52 y52 z52
        obtain ⟨rfl, N52q, e52⟩ := hQ52
        have N52 := Fr.app N44 N52q
        obtain ⟨cq53, kq53, q53a, q53b, q53c⟩ := isOf hZ e52 E_w_NARROWS
        obtain ⟨_, _, ⟨T53, L53, k53, n53⟩, -, X53, ⟨Lc53, hQ53, l53, y53, z53⟩, st53⟩ := X52.virtualBack hx (y := (⟨"com/example/svratka/svratka/authz/AccessChange", "narrows", "()Z"⟩ : MethodName)) (z := (⟨"com/example/svratka/svratka/authz/AccessChange", "narrows", "()Z"⟩ : MethodName)) hown (mvT hZ (hw _ (List.mem_of_getElem? (i := 3) rfl))) (mvT hZ (hw _ (List.mem_of_getElem? (i := 4) rfl))) (notFace_of_selects (args := #[]) (mvT hZ (hw _ (List.mem_of_getElem? (i := 6) rfl)))) (mvT hZ (hw _ (List.mem_of_getElem? (i := 6) rfl))) (mvT hZ (hw _ (List.mem_of_getElem? (i := 5) rfl))) (by decide) (backOf (W := 0) (rm5 l Z a0 hw [] w_NARROWS h0 n0 Z0 S_w_NARROWS) hZ (hw _ (List.mem_of_getElem? (i := 7) rfl)) (hw _ (List.mem_of_getElem? (i := 1) rfl)) (by decide) (by decide)) q53a q53c (g := (mkF m 114 #[.val (.int x0), .val (.int (1 : Int32)), .val (.ref w_WIDENS), .val (.int (0 : Int32)), .val (.int (0 : Int32)), .val (.int (0 : Int32)), .val (.int (1 : Int32))] [(.ref w_NARROWS)])) rfl (by rw [hml]; rfl) (Steps.refl _) (argsL := []) (rest := []) (lenOf pd_0 rfl) rfl (by show 2 * 0 + _ ≤ _; exact Nat.le_of_eq rfl) (hb hby at_114) (fun _ _ => ⟨rfl, e52, (by decide : 0 + 0 ≤ _), (by decide : 0 + 0 ≤ _)⟩)
        dsimp only [Pt.U, Pt.locs, Pt.cells, Pt.slots] at X53 l53 y53 z53 st53 hQ53
        subst l53 y53 z53
        obtain ⟨rfl, N53q, e53⟩ := hQ53
        have N53 := Fr.app N52 N53q
        have pre54 : ∀ t, Steps p.tables e below (T53.setTop (mkF m 127 #[.val (.int x0), .val (.int (1 : Int32)), .val (.ref w_WIDENS), .val (.int (0 : Int32)), .val (.int (0 : Int32)), .val (.int (0 : Int32)), .val (.int (1 : Int32))] [(.int (1 : Int32))])) t → Steps p.tables e below (s₁.setTop (entryFrame m #[(.int x0)] maxLocals)) t := fun t kk => pre47 t (by
          show Steps p.tables e below (T44.setTop (mkF m 97 #[.val (.int x0), .val (.int (1 : Int32)), .val (.ref w_WIDENS), .val (.int (0 : Int32)), .val (.int (0 : Int32)), .val (.int (0 : Int32)), .unset] [(.int (x0 &&& (8 : Int32)))])) _
          refine XS.ifNo X44.here hx rfl (hb hby at_97) rfl ((if0 _ _).trans (feq (hc48 : ¬ ((x0 &&& (8 : Int32)) = (0 : Int32)))).1) ?_
          show Steps p.tables e below (T44.setTop (mkF m 100 #[.val (.int x0), .val (.int (1 : Int32)), .val (.ref w_WIDENS), .val (.int (0 : Int32)), .val (.int (0 : Int32)), .val (.int (0 : Int32)), .unset] [])) _
          refine XS.iconst X44.here hx rfl (hb hby at_100) ?_
          show Steps p.tables e below (T44.setTop (mkF m 101 #[.val (.int x0), .val (.int (1 : Int32)), .val (.ref w_WIDENS), .val (.int (0 : Int32)), .val (.int (0 : Int32)), .val (.int (0 : Int32)), .unset] [(.int (1 : Int32))])) _
          refine XS.goto X44.here hx rfl (pc0 := 101) (pc' := 105) rfl (hb hby at_101) (by decide) (by decide) ?_
          show Steps p.tables e below (T44.setTop (mkF m 105 #[.val (.int x0), .val (.int (1 : Int32)), .val (.ref w_WIDENS), .val (.int (0 : Int32)), .val (.int (0 : Int32)), .val (.int (0 : Int32)), .unset] [(.int (1 : Int32))])) _
          refine XS.istore X44.here hx rfl (hb hby at_105) rfl (l' := #[.val (.int x0), .val (.int (1 : Int32)), .val (.ref w_WIDENS), .val (.int (0 : Int32)), .val (.int (0 : Int32)), .val (.int (0 : Int32)), .val (.int (1 : Int32))]) rfl ?_
          show Steps p.tables e below (T44.setTop (mkF m 107 #[.val (.int x0), .val (.int (1 : Int32)), .val (.ref w_WIDENS), .val (.int (0 : Int32)), .val (.int (0 : Int32)), .val (.int (0 : Int32)), .val (.int (1 : Int32))] [])) _
          refine XS.iload X44.here hx rfl (hb hby at_107) rfl ?_
          show Steps p.tables e below (T44.setTop (mkF m 109 #[.val (.int x0), .val (.int (1 : Int32)), .val (.ref w_WIDENS), .val (.int (0 : Int32)), .val (.int (0 : Int32)), .val (.int (0 : Int32)), .val (.int (1 : Int32))] [(.int (0 : Int32))])) _
          refine XS.iload X44.here hx rfl (hb hby at_109) rfl ?_
          show Steps p.tables e below (T44.setTop (mkF m 111 #[.val (.int x0), .val (.int (1 : Int32)), .val (.ref w_WIDENS), .val (.int (0 : Int32)), .val (.int (0 : Int32)), .val (.int (0 : Int32)), .val (.int (1 : Int32))] [(.int (1 : Int32)), (.int (0 : Int32))])) _
          refine st52 _ ?_
          show Steps p.tables e below (T52.setTop (mkF m 114 #[.val (.int x0), .val (.int (1 : Int32)), .val (.ref w_WIDENS), .val (.int (0 : Int32)), .val (.int (0 : Int32)), .val (.int (0 : Int32)), .val (.int (1 : Int32))] [(.ref w_NARROWS)])) _
          refine st53.trans ?_
          show Steps p.tables e below (T53.setTop (mkF m 117 #[.val (.int x0), .val (.int (1 : Int32)), .val (.ref w_WIDENS), .val (.int (0 : Int32)), .val (.int (0 : Int32)), .val (.int (0 : Int32)), .val (.int (1 : Int32))] [(.int (1 : Int32))])) _
          refine XS.iload X53.here hx rfl (hb hby at_117) rfl ?_
          show Steps p.tables e below (T53.setTop (mkF m 119 #[.val (.int x0), .val (.int (1 : Int32)), .val (.ref w_WIDENS), .val (.int (0 : Int32)), .val (.int (0 : Int32)), .val (.int (0 : Int32)), .val (.int (1 : Int32))] [(.int (1 : Int32)), (.int (1 : Int32))])) _
          refine XS.icmpNo X53.here hx rfl (hb hby at_119) rfl (teq ((by decide) : (1 : Int32) = (1 : Int32))).2 ?_
          show Steps p.tables e below (T53.setTop (mkF m 122 #[.val (.int x0), .val (.int (1 : Int32)), .val (.ref w_WIDENS), .val (.int (0 : Int32)), .val (.int (0 : Int32)), .val (.int (0 : Int32)), .val (.int (1 : Int32))] [])) _
          refine XS.iconst X53.here hx rfl (hb hby at_122) ?_
          show Steps p.tables e below (T53.setTop (mkF m 123 #[.val (.int x0), .val (.int (1 : Int32)), .val (.ref w_WIDENS), .val (.int (0 : Int32)), .val (.int (0 : Int32)), .val (.int (0 : Int32)), .val (.int (1 : Int32))] [(.int (1 : Int32))])) _
          refine XS.goto X53.here hx rfl (pc0 := 123) (pc' := 127) rfl (hb hby at_123) (by decide) (by decide) ?_
          exact kk)
        obtain ⟨fs, hr, hrun, hended, hW, hsame⟩ := X53.leave (v := some (.int (1 : Int32))) (fun h => by rw [Bd.returns] at h; cases h)
        refine ⟨_, _, pre54 _ ?_, hrun, hended, _, _, rfl, ?_, ⟨_, rfl⟩, hW, hsame.mono (by decide) (by decide)⟩
        · exact retN X53 hx (t := .boolean) Bd.returns (by simp) (hb hby at_127) hr
        · exact ⟨rfl, N53⟩
    ·
      have pre55 : ∀ t, Steps p.tables e below (T44.setTop (mkF m 97 #[.val (.int x0), .val (.int (1 : Int32)), .val (.ref w_WIDENS), .val (.int (0 : Int32)), .val (.int (0 : Int32)), .val (.int (1 : Int32)), .unset] [(.int (x0 &&& (8 : Int32)))])) t → Steps p.tables e below (s₁.setTop (entryFrame m #[(.int x0)] maxLocals)) t := fun t kk => pre45 t (by
        show Steps p.tables e below (T44.setTop (mkF m 83 #[.val (.int x0), .val (.int (1 : Int32)), .val (.ref w_WIDENS), .val (.int (0 : Int32)), .val (.int (0 : Int32)), .unset, .unset] [(.int (x0 &&& (4 : Int32)))])) _
        refine XS.ifNo X44.here hx rfl (hb hby at_83) rfl ((if0 _ _).trans (feq (hc46 : ¬ ((x0 &&& (4 : Int32)) = (0 : Int32)))).1) ?_
        show Steps p.tables e below (T44.setTop (mkF m 86 #[.val (.int x0), .val (.int (1 : Int32)), .val (.ref w_WIDENS), .val (.int (0 : Int32)), .val (.int (0 : Int32)), .unset, .unset] [])) _
        refine XS.iconst X44.here hx rfl (hb hby at_86) ?_
        show Steps p.tables e below (T44.setTop (mkF m 87 #[.val (.int x0), .val (.int (1 : Int32)), .val (.ref w_WIDENS), .val (.int (0 : Int32)), .val (.int (0 : Int32)), .unset, .unset] [(.int (1 : Int32))])) _
        refine XS.goto X44.here hx rfl (pc0 := 87) (pc' := 91) rfl (hb hby at_87) (by decide) (by decide) ?_
        show Steps p.tables e below (T44.setTop (mkF m 91 #[.val (.int x0), .val (.int (1 : Int32)), .val (.ref w_WIDENS), .val (.int (0 : Int32)), .val (.int (0 : Int32)), .unset, .unset] [(.int (1 : Int32))])) _
        refine XS.istore X44.here hx rfl (hb hby at_91) rfl (l' := #[.val (.int x0), .val (.int (1 : Int32)), .val (.ref w_WIDENS), .val (.int (0 : Int32)), .val (.int (0 : Int32)), .val (.int (1 : Int32)), .unset]) rfl ?_
        show Steps p.tables e below (T44.setTop (mkF m 93 #[.val (.int x0), .val (.int (1 : Int32)), .val (.ref w_WIDENS), .val (.int (0 : Int32)), .val (.int (0 : Int32)), .val (.int (1 : Int32)), .unset] [])) _
        refine XS.iloadN X44.here hx rfl (hb hby at_93) rfl ?_
        show Steps p.tables e below (T44.setTop (mkF m 94 #[.val (.int x0), .val (.int (1 : Int32)), .val (.ref w_WIDENS), .val (.int (0 : Int32)), .val (.int (0 : Int32)), .val (.int (1 : Int32)), .unset] [(.int x0)])) _
        refine XS.bipush X44.here hx rfl (hb hby at_94) ?_
        show Steps p.tables e below (T44.setTop (mkF m 96 #[.val (.int x0), .val (.int (1 : Int32)), .val (.ref w_WIDENS), .val (.int (0 : Int32)), .val (.int (0 : Int32)), .val (.int (1 : Int32)), .unset] [(.int (8 : Int32)), (.int x0)])) _
        refine XS.iand X44.here hx rfl (hb hby at_96) rfl ?_
        exact kk)
      by_cases hc56 : (x0 &&& (8 : Int32)) = (0 : Int32)
      ·
        obtain ⟨_, _, ⟨T57, L57, k57, n57⟩, -, X57, ⟨Lc57, hQ57, l57, y57, z57⟩, st57⟩ := Jvm.LawKit.callS X44 hx (y := (⟨"com/example/svratka/svratka/authz/AccessChange", "of", "(ZZ)Lcom/example/svratka/svratka/authz/AccessChange;"⟩ : MethodName)) hown (mvT hZ (hw _ (List.mem_of_getElem? (i := 19) rfl))) (mvT hZ (hw _ (List.mem_of_getElem? (i := 20) rfl))) (mvT hZ (hw _ (List.mem_of_getElem? (i := 1) rfl))) (mvT hZ (hw _ (List.mem_of_getElem? (i := 21) rfl))) (by decide) (backOf (W := 0) (rm6 l Z a0 hw [] w_WIDENS h0 n0 Z0 S_w_WIDENS) hZ (hw _ (List.mem_of_getElem? (i := 21) rfl)) (hw _ (List.mem_of_getElem? (i := 1) rfl)) (by decide) (by decide)) (g := (mkF m 111 #[.val (.int x0), .val (.int (1 : Int32)), .val (.ref w_WIDENS), .val (.int (0 : Int32)), .val (.int (0 : Int32)), .val (.int (1 : Int32)), .val (.int (0 : Int32))] [(.int (0 : Int32)), (.int (1 : Int32))])) rfl (by rw [hml]; rfl) (argsL := [(.int (1 : Int32)), (.int (0 : Int32))]) (rest := []) (lenOf pd_1 rfl) rfl (by show 2 * 0 + _ ≤ _; exact Nat.le_of_eq rfl) (hb hby at_111) (fun _ _ => ⟨rfl, e44, (by decide : 0 + 0 ≤ _), (by decide : 0 + 0 ≤ _)⟩)
        dsimp only [Pt.U, Pt.locs, Pt.cells, Pt.slots] at X57 l57 y57 z57 st57 hQ57
        subst l57 y57 z57
        obtain ⟨rfl, N57q, e57⟩ := hQ57
        have N57 := Fr.app N44 N57q
        obtain ⟨cq58, kq58, q58a, q58b, q58c⟩ := isOf hZ e57 E_w_WIDENS
        obtain ⟨_, _, ⟨T58, L58, k58, n58⟩, -, X58, ⟨Lc58, hQ58, l58, y58, z58⟩, st58⟩ := X57.virtualBack hx (y := (⟨"com/example/svratka/svratka/authz/AccessChange", "narrows", "()Z"⟩ : MethodName)) (z := (⟨"com/example/svratka/svratka/authz/AccessChange", "narrows", "()Z"⟩ : MethodName)) hown (mvT hZ (hw _ (List.mem_of_getElem? (i := 3) rfl))) (mvT hZ (hw _ (List.mem_of_getElem? (i := 4) rfl))) (notFace_of_selects (args := #[]) (mvT hZ (hw _ (List.mem_of_getElem? (i := 6) rfl)))) (mvT hZ (hw _ (List.mem_of_getElem? (i := 6) rfl))) (mvT hZ (hw _ (List.mem_of_getElem? (i := 5) rfl))) (by decide) (backOf (W := 0) (rm1 l Z a0 hw [] w_WIDENS w_NARROWS w_MIXED h0 n0 Z0 S_w_NARROWS ((Fld.ne F_ordinal_w_WIDENS F_ordinal_w_NARROWS (by decide))) S_w_MIXED ((Fld.ne F_ordinal_w_WIDENS F_ordinal_w_MIXED (by decide)))) hZ (hw _ (List.mem_of_getElem? (i := 7) rfl)) (hw _ (List.mem_of_getElem? (i := 1) rfl)) (by decide) (by decide)) q58a q58c (g := (mkF m 114 #[.val (.int x0), .val (.int (1 : Int32)), .val (.ref w_WIDENS), .val (.int (0 : Int32)), .val (.int (0 : Int32)), .val (.int (1 : Int32)), .val (.int (0 : Int32))] [(.ref w_WIDENS)])) rfl (by rw [hml]; rfl) (Steps.refl _) (argsL := []) (rest := []) (lenOf pd_0 rfl) rfl (by show 2 * 0 + _ ≤ _; exact Nat.le_of_eq rfl) (hb hby at_114) (fun _ _ => ⟨rfl, e57, (by decide : 0 + 0 ≤ _), (by decide : 0 + 0 ≤ _)⟩)
        dsimp only [Pt.U, Pt.locs, Pt.cells, Pt.slots] at X58 l58 y58 z58 st58 hQ58
        subst l58 y58 z58
        obtain ⟨rfl, N58q, e58⟩ := hQ58
        have N58 := Fr.app N57 N58q
        have pre59 : ∀ t, Steps p.tables e below (T58.setTop (mkF m 127 #[.val (.int x0), .val (.int (1 : Int32)), .val (.ref w_WIDENS), .val (.int (0 : Int32)), .val (.int (0 : Int32)), .val (.int (1 : Int32)), .val (.int (0 : Int32))] [(.int (1 : Int32))])) t → Steps p.tables e below (s₁.setTop (entryFrame m #[(.int x0)] maxLocals)) t := fun t kk => pre55 t (by
          show Steps p.tables e below (T44.setTop (mkF m 97 #[.val (.int x0), .val (.int (1 : Int32)), .val (.ref w_WIDENS), .val (.int (0 : Int32)), .val (.int (0 : Int32)), .val (.int (1 : Int32)), .unset] [(.int (x0 &&& (8 : Int32)))])) _
          refine XS.ifYes X44.here hx rfl (pc0 := 97) (pc' := 104) rfl (hb hby at_97) rfl ((if0 _ _).trans (teq (hc56 : (x0 &&& (8 : Int32)) = (0 : Int32))).1) (by decide) (by decide) ?_
          show Steps p.tables e below (T44.setTop (mkF m 104 #[.val (.int x0), .val (.int (1 : Int32)), .val (.ref w_WIDENS), .val (.int (0 : Int32)), .val (.int (0 : Int32)), .val (.int (1 : Int32)), .unset] [])) _
          refine XS.iconst X44.here hx rfl (hb hby at_104) ?_
          show Steps p.tables e below (T44.setTop (mkF m 105 #[.val (.int x0), .val (.int (1 : Int32)), .val (.ref w_WIDENS), .val (.int (0 : Int32)), .val (.int (0 : Int32)), .val (.int (1 : Int32)), .unset] [(.int (0 : Int32))])) _
          refine XS.istore X44.here hx rfl (hb hby at_105) rfl (l' := #[.val (.int x0), .val (.int (1 : Int32)), .val (.ref w_WIDENS), .val (.int (0 : Int32)), .val (.int (0 : Int32)), .val (.int (1 : Int32)), .val (.int (0 : Int32))]) rfl ?_
          show Steps p.tables e below (T44.setTop (mkF m 107 #[.val (.int x0), .val (.int (1 : Int32)), .val (.ref w_WIDENS), .val (.int (0 : Int32)), .val (.int (0 : Int32)), .val (.int (1 : Int32)), .val (.int (0 : Int32))] [])) _
          refine XS.iload X44.here hx rfl (hb hby at_107) rfl ?_
          show Steps p.tables e below (T44.setTop (mkF m 109 #[.val (.int x0), .val (.int (1 : Int32)), .val (.ref w_WIDENS), .val (.int (0 : Int32)), .val (.int (0 : Int32)), .val (.int (1 : Int32)), .val (.int (0 : Int32))] [(.int (1 : Int32))])) _
          refine XS.iload X44.here hx rfl (hb hby at_109) rfl ?_
          show Steps p.tables e below (T44.setTop (mkF m 111 #[.val (.int x0), .val (.int (1 : Int32)), .val (.ref w_WIDENS), .val (.int (0 : Int32)), .val (.int (0 : Int32)), .val (.int (1 : Int32)), .val (.int (0 : Int32))] [(.int (0 : Int32)), (.int (1 : Int32))])) _
          refine st57 _ ?_
          show Steps p.tables e below (T57.setTop (mkF m 114 #[.val (.int x0), .val (.int (1 : Int32)), .val (.ref w_WIDENS), .val (.int (0 : Int32)), .val (.int (0 : Int32)), .val (.int (1 : Int32)), .val (.int (0 : Int32))] [(.ref w_WIDENS)])) _
          refine st58.trans ?_
          show Steps p.tables e below (T58.setTop (mkF m 117 #[.val (.int x0), .val (.int (1 : Int32)), .val (.ref w_WIDENS), .val (.int (0 : Int32)), .val (.int (0 : Int32)), .val (.int (1 : Int32)), .val (.int (0 : Int32))] [(.int (0 : Int32))])) _
          refine XS.iload X58.here hx rfl (hb hby at_117) rfl ?_
          show Steps p.tables e below (T58.setTop (mkF m 119 #[.val (.int x0), .val (.int (1 : Int32)), .val (.ref w_WIDENS), .val (.int (0 : Int32)), .val (.int (0 : Int32)), .val (.int (1 : Int32)), .val (.int (0 : Int32))] [(.int (0 : Int32)), (.int (0 : Int32))])) _
          refine XS.icmpNo X58.here hx rfl (hb hby at_119) rfl (teq ((by decide) : (0 : Int32) = (0 : Int32))).2 ?_
          show Steps p.tables e below (T58.setTop (mkF m 122 #[.val (.int x0), .val (.int (1 : Int32)), .val (.ref w_WIDENS), .val (.int (0 : Int32)), .val (.int (0 : Int32)), .val (.int (1 : Int32)), .val (.int (0 : Int32))] [])) _
          refine XS.iconst X58.here hx rfl (hb hby at_122) ?_
          show Steps p.tables e below (T58.setTop (mkF m 123 #[.val (.int x0), .val (.int (1 : Int32)), .val (.ref w_WIDENS), .val (.int (0 : Int32)), .val (.int (0 : Int32)), .val (.int (1 : Int32)), .val (.int (0 : Int32))] [(.int (1 : Int32))])) _
          refine XS.goto X58.here hx rfl (pc0 := 123) (pc' := 127) rfl (hb hby at_123) (by decide) (by decide) ?_
          exact kk)
        obtain ⟨fs, hr, hrun, hended, hW, hsame⟩ := X58.leave (v := some (.int (1 : Int32))) (fun h => by rw [Bd.returns] at h; cases h)
        refine ⟨_, _, pre59 _ ?_, hrun, hended, _, _, rfl, ?_, ⟨_, rfl⟩, hW, hsame.mono (by decide) (by decide)⟩
        · exact retN X58 hx (t := .boolean) Bd.returns (by simp) (hb hby at_127) hr
        · exact ⟨rfl, N58⟩
      ·
        obtain ⟨_, _, ⟨T60, L60, k60, n60⟩, -, X60, ⟨Lc60, hQ60, l60, y60, z60⟩, st60⟩ := Jvm.LawKit.callS X44 hx (y := (⟨"com/example/svratka/svratka/authz/AccessChange", "of", "(ZZ)Lcom/example/svratka/svratka/authz/AccessChange;"⟩ : MethodName)) hown (mvT hZ (hw _ (List.mem_of_getElem? (i := 19) rfl))) (mvT hZ (hw _ (List.mem_of_getElem? (i := 20) rfl))) (mvT hZ (hw _ (List.mem_of_getElem? (i := 1) rfl))) (mvT hZ (hw _ (List.mem_of_getElem? (i := 21) rfl))) (by decide) (backOf (W := 0) (rm7 l Z a0 hw [] w_MIXED h0 n0 Z0 S_w_MIXED) hZ (hw _ (List.mem_of_getElem? (i := 21) rfl)) (hw _ (List.mem_of_getElem? (i := 1) rfl)) (by decide) (by decide)) (g := (mkF m 111 #[.val (.int x0), .val (.int (1 : Int32)), .val (.ref w_WIDENS), .val (.int (0 : Int32)), .val (.int (0 : Int32)), .val (.int (1 : Int32)), .val (.int (1 : Int32))] [(.int (1 : Int32)), (.int (1 : Int32))])) rfl (by rw [hml]; rfl) (argsL := [(.int (1 : Int32)), (.int (1 : Int32))]) (rest := []) (lenOf pd_1 rfl) rfl (by show 2 * 0 + _ ≤ _; exact Nat.le_of_eq rfl) (hb hby at_111) (fun _ _ => ⟨rfl, e44, (by decide : 0 + 0 ≤ _), (by decide : 0 + 0 ≤ _)⟩)
        dsimp only [Pt.U, Pt.locs, Pt.cells, Pt.slots] at X60 l60 y60 z60 st60 hQ60
        subst l60 y60 z60
        obtain ⟨rfl, N60q, e60⟩ := hQ60
        have N60 := Fr.app N44 N60q
        obtain ⟨cq61, kq61, q61a, q61b, q61c⟩ := isOf hZ e60 E_w_MIXED
        obtain ⟨_, _, ⟨T61, L61, k61, n61⟩, -, X61, ⟨Lc61, hQ61, l61, y61, z61⟩, st61⟩ := X60.virtualBack hx (y := (⟨"com/example/svratka/svratka/authz/AccessChange", "narrows", "()Z"⟩ : MethodName)) (z := (⟨"com/example/svratka/svratka/authz/AccessChange", "narrows", "()Z"⟩ : MethodName)) hown (mvT hZ (hw _ (List.mem_of_getElem? (i := 3) rfl))) (mvT hZ (hw _ (List.mem_of_getElem? (i := 4) rfl))) (notFace_of_selects (args := #[]) (mvT hZ (hw _ (List.mem_of_getElem? (i := 6) rfl)))) (mvT hZ (hw _ (List.mem_of_getElem? (i := 6) rfl))) (mvT hZ (hw _ (List.mem_of_getElem? (i := 5) rfl))) (by decide) (backOf (W := 0) (rm8 l Z a0 hw [] w_MIXED w_NARROWS h0 n0 Z0 S_w_NARROWS ((Fld.ne F_ordinal_w_MIXED F_ordinal_w_NARROWS (by decide))) S_w_MIXED) hZ (hw _ (List.mem_of_getElem? (i := 7) rfl)) (hw _ (List.mem_of_getElem? (i := 1) rfl)) (by decide) (by decide)) q61a q61c (g := (mkF m 114 #[.val (.int x0), .val (.int (1 : Int32)), .val (.ref w_WIDENS), .val (.int (0 : Int32)), .val (.int (0 : Int32)), .val (.int (1 : Int32)), .val (.int (1 : Int32))] [(.ref w_MIXED)])) rfl (by rw [hml]; rfl) (Steps.refl _) (argsL := []) (rest := []) (lenOf pd_0 rfl) rfl (by show 2 * 0 + _ ≤ _; exact Nat.le_of_eq rfl) (hb hby at_114) (fun _ _ => ⟨rfl, e60, (by decide : 0 + 0 ≤ _), (by decide : 0 + 0 ≤ _)⟩)
        dsimp only [Pt.U, Pt.locs, Pt.cells, Pt.slots] at X61 l61 y61 z61 st61 hQ61
        subst l61 y61 z61
        obtain ⟨rfl, N61q, e61⟩ := hQ61
        have N61 := Fr.app N60 N61q
        have pre62 : ∀ t, Steps p.tables e below (T61.setTop (mkF m 127 #[.val (.int x0), .val (.int (1 : Int32)), .val (.ref w_WIDENS), .val (.int (0 : Int32)), .val (.int (0 : Int32)), .val (.int (1 : Int32)), .val (.int (1 : Int32))] [(.int (1 : Int32))])) t → Steps p.tables e below (s₁.setTop (entryFrame m #[(.int x0)] maxLocals)) t := fun t kk => pre55 t (by
          show Steps p.tables e below (T44.setTop (mkF m 97 #[.val (.int x0), .val (.int (1 : Int32)), .val (.ref w_WIDENS), .val (.int (0 : Int32)), .val (.int (0 : Int32)), .val (.int (1 : Int32)), .unset] [(.int (x0 &&& (8 : Int32)))])) _
          refine XS.ifNo X44.here hx rfl (hb hby at_97) rfl ((if0 _ _).trans (feq (hc56 : ¬ ((x0 &&& (8 : Int32)) = (0 : Int32)))).1) ?_
          show Steps p.tables e below (T44.setTop (mkF m 100 #[.val (.int x0), .val (.int (1 : Int32)), .val (.ref w_WIDENS), .val (.int (0 : Int32)), .val (.int (0 : Int32)), .val (.int (1 : Int32)), .unset] [])) _
          refine XS.iconst X44.here hx rfl (hb hby at_100) ?_
          show Steps p.tables e below (T44.setTop (mkF m 101 #[.val (.int x0), .val (.int (1 : Int32)), .val (.ref w_WIDENS), .val (.int (0 : Int32)), .val (.int (0 : Int32)), .val (.int (1 : Int32)), .unset] [(.int (1 : Int32))])) _
          refine XS.goto X44.here hx rfl (pc0 := 101) (pc' := 105) rfl (hb hby at_101) (by decide) (by decide) ?_
          show Steps p.tables e below (T44.setTop (mkF m 105 #[.val (.int x0), .val (.int (1 : Int32)), .val (.ref w_WIDENS), .val (.int (0 : Int32)), .val (.int (0 : Int32)), .val (.int (1 : Int32)), .unset] [(.int (1 : Int32))])) _
          refine XS.istore X44.here hx rfl (hb hby at_105) rfl (l' := #[.val (.int x0), .val (.int (1 : Int32)), .val (.ref w_WIDENS), .val (.int (0 : Int32)), .val (.int (0 : Int32)), .val (.int (1 : Int32)), .val (.int (1 : Int32))]) rfl ?_
          show Steps p.tables e below (T44.setTop (mkF m 107 #[.val (.int x0), .val (.int (1 : Int32)), .val (.ref w_WIDENS), .val (.int (0 : Int32)), .val (.int (0 : Int32)), .val (.int (1 : Int32)), .val (.int (1 : Int32))] [])) _
          refine XS.iload X44.here hx rfl (hb hby at_107) rfl ?_
          show Steps p.tables e below (T44.setTop (mkF m 109 #[.val (.int x0), .val (.int (1 : Int32)), .val (.ref w_WIDENS), .val (.int (0 : Int32)), .val (.int (0 : Int32)), .val (.int (1 : Int32)), .val (.int (1 : Int32))] [(.int (1 : Int32))])) _
          refine XS.iload X44.here hx rfl (hb hby at_109) rfl ?_
          show Steps p.tables e below (T44.setTop (mkF m 111 #[.val (.int x0), .val (.int (1 : Int32)), .val (.ref w_WIDENS), .val (.int (0 : Int32)), .val (.int (0 : Int32)), .val (.int (1 : Int32)), .val (.int (1 : Int32))] [(.int (1 : Int32)), (.int (1 : Int32))])) _
          refine st60 _ ?_
          show Steps p.tables e below (T60.setTop (mkF m 114 #[.val (.int x0), .val (.int (1 : Int32)), .val (.ref w_WIDENS), .val (.int (0 : Int32)), .val (.int (0 : Int32)), .val (.int (1 : Int32)), .val (.int (1 : Int32))] [(.ref w_MIXED)])) _
          refine st61.trans ?_
          show Steps p.tables e below (T61.setTop (mkF m 117 #[.val (.int x0), .val (.int (1 : Int32)), .val (.ref w_WIDENS), .val (.int (0 : Int32)), .val (.int (0 : Int32)), .val (.int (1 : Int32)), .val (.int (1 : Int32))] [(.int (1 : Int32))])) _
          refine XS.iload X61.here hx rfl (hb hby at_117) rfl ?_
          show Steps p.tables e below (T61.setTop (mkF m 119 #[.val (.int x0), .val (.int (1 : Int32)), .val (.ref w_WIDENS), .val (.int (0 : Int32)), .val (.int (0 : Int32)), .val (.int (1 : Int32)), .val (.int (1 : Int32))] [(.int (1 : Int32)), (.int (1 : Int32))])) _
          refine XS.icmpNo X61.here hx rfl (hb hby at_119) rfl (teq ((by decide) : (1 : Int32) = (1 : Int32))).2 ?_
          show Steps p.tables e below (T61.setTop (mkF m 122 #[.val (.int x0), .val (.int (1 : Int32)), .val (.ref w_WIDENS), .val (.int (0 : Int32)), .val (.int (0 : Int32)), .val (.int (1 : Int32)), .val (.int (1 : Int32))] [])) _
          refine XS.iconst X61.here hx rfl (hb hby at_122) ?_
          show Steps p.tables e below (T61.setTop (mkF m 123 #[.val (.int x0), .val (.int (1 : Int32)), .val (.ref w_WIDENS), .val (.int (0 : Int32)), .val (.int (0 : Int32)), .val (.int (1 : Int32)), .val (.int (1 : Int32))] [(.int (1 : Int32))])) _
          refine XS.goto X61.here hx rfl (pc0 := 123) (pc' := 127) rfl (hb hby at_123) (by decide) (by decide) ?_
          exact kk)
        obtain ⟨fs, hr, hrun, hended, hW, hsame⟩ := X61.leave (v := some (.int (1 : Int32))) (fun h => by rw [Bd.returns] at h; cases h)
        refine ⟨_, _, pre62 _ ?_, hrun, hended, _, _, rfl, ?_, ⟨_, rfl⟩, hW, hsame.mono (by decide) (by decide)⟩
        · exact retN X61 hx (t := .boolean) Bd.returns (by simp) (hb hby at_127) hr
        · exact ⟨rfl, N61⟩
  ·
    have pre63 := pre15
    rw [hv16] at pre63
    obtain ⟨T64, X64, e64, st64⟩ := getS2 X0 hx hZ hown (host := "") (Or.inl (hw _ (List.mem_of_getElem? (i := 24) rfl))) Via.refl e0 S_w_NARROWS (g := (mkF m 36 #[.val (.int x0), .val (.int (2 : Int32)), .unset, .unset, .unset, .unset, .unset] [])) rfl (hb hby at_36)
    obtain ⟨cq65, kq65, q65a, q65b, q65c⟩ := isOf hZ e64 E_w_NARROWS
    obtain ⟨_, _, ⟨T65, L65, k65, n65⟩, -, X65, ⟨Lc65, hQ65, l65, y65, z65⟩, st65⟩ := X64.virtualBack hx (y := (⟨"com/example/svratka/svratka/authz/AccessChange", "narrows", "()Z"⟩ : MethodName)) (z := (⟨"com/example/svratka/svratka/authz/AccessChange", "narrows", "()Z"⟩ : MethodName)) hown (mvT hZ (hw _ (List.mem_of_getElem? (i := 3) rfl))) (mvT hZ (hw _ (List.mem_of_getElem? (i := 4) rfl))) (notFace_of_selects (args := #[]) (mvT hZ (hw _ (List.mem_of_getElem? (i := 6) rfl)))) (mvT hZ (hw _ (List.mem_of_getElem? (i := 6) rfl))) (mvT hZ (hw _ (List.mem_of_getElem? (i := 5) rfl))) (by decide) (backOf (W := 0) (rm5 l Z a0 hw [] w_NARROWS h0 n0 Z0 S_w_NARROWS) hZ (hw _ (List.mem_of_getElem? (i := 7) rfl)) (hw _ (List.mem_of_getElem? (i := 1) rfl)) (by decide) (by decide)) q65a q65c (g := (mkF m 52 #[.val (.int x0), .val (.int (2 : Int32)), .val (.ref w_NARROWS), .val (.int (1 : Int32)), .unset, .unset, .unset] [(.ref w_NARROWS)])) rfl (by rw [hml]; rfl) (Steps.refl _) (argsL := []) (rest := []) (lenOf pd_0 rfl) rfl (by show 2 * 0 + _ ≤ _; exact Nat.le_of_eq rfl) (hb hby at_52) (fun _ _ => ⟨rfl, e64, (by decide : 0 + 0 ≤ _), (by decide : 0 + 0 ≤ _)⟩)
    dsimp only [Pt.U, Pt.locs, Pt.cells, Pt.slots] at X65 l65 y65 z65 st65 hQ65
    subst l65 y65 z65
    obtain ⟨rfl, N65q, e65⟩ := hQ65
    have N65 := Fr.app N0 N65q
    obtain ⟨cq66, kq66, q66a, q66b, q66c⟩ := isOf hZ e65 E_w_NARROWS
    obtain ⟨_, _, ⟨T66, L66, k66, n66⟩, -, X66, ⟨Lc66, hQ66, l66, y66, z66⟩, st66⟩ := X65.virtualBack hx (y := (⟨"com/example/svratka/svratka/authz/AccessChange", "widens", "()Z"⟩ : MethodName)) (z := (⟨"com/example/svratka/svratka/authz/AccessChange", "widens", "()Z"⟩ : MethodName)) hown (mvT hZ (hw _ (List.mem_of_getElem? (i := 12) rfl))) (mvT hZ (hw _ (List.mem_of_getElem? (i := 13) rfl))) (notFace_of_selects (args := #[]) (mvT hZ (hw _ (List.mem_of_getElem? (i := 15) rfl)))) (mvT hZ (hw _ (List.mem_of_getElem? (i := 15) rfl))) (mvT hZ (hw _ (List.mem_of_getElem? (i := 14) rfl))) (by decide) (backOf (W := 0) (rm2 l Z a0 hw [] w_NARROWS w_WIDENS w_MIXED h0 n0 Z0 S_w_WIDENS ((Fld.ne F_ordinal_w_NARROWS F_ordinal_w_WIDENS (by decide))) S_w_MIXED ((Fld.ne F_ordinal_w_NARROWS F_ordinal_w_MIXED (by decide)))) hZ (hw _ (List.mem_of_getElem? (i := 16) rfl)) (hw _ (List.mem_of_getElem? (i := 1) rfl)) (by decide) (by decide)) q66a q66c (g := (mkF m 66 #[.val (.int x0), .val (.int (2 : Int32)), .val (.ref w_NARROWS), .val (.int (1 : Int32)), .val (.int (1 : Int32)), .unset, .unset] [(.ref w_NARROWS)])) rfl (by rw [hml]; rfl) (Steps.refl _) (argsL := []) (rest := []) (lenOf pd_0 rfl) rfl (by show 2 * 0 + _ ≤ _; exact Nat.le_of_eq rfl) (hb hby at_66) (fun _ _ => ⟨rfl, e65, (by decide : 0 + 0 ≤ _), (by decide : 0 + 0 ≤ _)⟩)
    dsimp only [Pt.U, Pt.locs, Pt.cells, Pt.slots] at X66 l66 y66 z66 st66 hQ66
    subst l66 y66 z66
    obtain ⟨rfl, N66q, e66⟩ := hQ66
    have N66 := Fr.app N65 N66q
    obtain ⟨_, _, ⟨T67, L67, k67, n67⟩, -, X67, ⟨Lc67, hQ67, l67, y67, z67⟩, st67⟩ := Jvm.LawKit.callS X66 hx (y := (⟨"com/example/svratka/svratka/authz/AccessChange", "of", "(ZZ)Lcom/example/svratka/svratka/authz/AccessChange;"⟩ : MethodName)) hown (mvT hZ (hw _ (List.mem_of_getElem? (i := 19) rfl))) (mvT hZ (hw _ (List.mem_of_getElem? (i := 20) rfl))) (mvT hZ (hw _ (List.mem_of_getElem? (i := 1) rfl))) (mvT hZ (hw _ (List.mem_of_getElem? (i := 21) rfl))) (by decide) (backOf (W := 0) (rm4 l Z a0 hw [] w_NARROWS h0 n0 Z0 S_w_NARROWS) hZ (hw _ (List.mem_of_getElem? (i := 21) rfl)) (hw _ (List.mem_of_getElem? (i := 1) rfl)) (by decide) (by decide)) (g := (mkF m 71 #[.val (.int x0), .val (.int (2 : Int32)), .val (.ref w_NARROWS), .val (.int (1 : Int32)), .val (.int (1 : Int32)), .unset, .unset] [(.int (1 : Int32)), (.int (0 : Int32))])) rfl (by rw [hml]; rfl) (argsL := [(.int (0 : Int32)), (.int (1 : Int32))]) (rest := []) (lenOf pd_1 rfl) rfl (by show 2 * 0 + _ ≤ _; exact Nat.le_of_eq rfl) (hb hby at_71) (fun _ _ => ⟨rfl, e66, (by decide : 0 + 0 ≤ _), (by decide : 0 + 0 ≤ _)⟩)
    dsimp only [Pt.U, Pt.locs, Pt.cells, Pt.slots] at X67 l67 y67 z67 st67 hQ67
    subst l67 y67 z67
    obtain ⟨rfl, N67q, e67⟩ := hQ67
    have N67 := Fr.app N66 N67q
    have pre68 : ∀ t, Steps p.tables e below (T67.setTop (mkF m 83 #[.val (.int x0), .val (.int (2 : Int32)), .val (.ref w_NARROWS), .val (.int (1 : Int32)), .val (.int (1 : Int32)), .unset, .unset] [(.int (x0 &&& (4 : Int32)))])) t → Steps p.tables e below (s₁.setTop (entryFrame m #[(.int x0)] maxLocals)) t := fun t kk => pre63 t (by
      show Steps p.tables e below (s₁.setTop (mkF m 3 #[.val (.int x0), .unset, .unset, .unset, .unset, .unset, .unset] [(.int (2 : Int32))])) _
      refine XS.istoreN X0.here hx rfl (hb hby at_3) rfl (l' := #[.val (.int x0), .val (.int (2 : Int32)), .unset, .unset, .unset, .unset, .unset]) rfl ?_
      show Steps p.tables e below (s₁.setTop (mkF m 4 #[.val (.int x0), .val (.int (2 : Int32)), .unset, .unset, .unset, .unset, .unset] [])) _
      refine XS.iloadN X0.here hx rfl (hb hby at_4) rfl ?_
      show Steps p.tables e below (s₁.setTop (mkF m 5 #[.val (.int x0), .val (.int (2 : Int32)), .unset, .unset, .unset, .unset, .unset] [(.int (2 : Int32))])) _
      refine XS.ifYes X0.here hx rfl (pc0 := 5) (pc' := 17) rfl (hb hby at_5) rfl ((if0 _ _).trans (feq ((by decide) : ¬ ((2 : Int32) = (0 : Int32)))).2) (by decide) (by decide) ?_
      show Steps p.tables e below (s₁.setTop (mkF m 17 #[.val (.int x0), .val (.int (2 : Int32)), .unset, .unset, .unset, .unset, .unset] [])) _
      refine XS.iloadN X0.here hx rfl (hb hby at_17) rfl ?_
      show Steps p.tables e below (s₁.setTop (mkF m 18 #[.val (.int x0), .val (.int (2 : Int32)), .unset, .unset, .unset, .unset, .unset] [(.int (2 : Int32))])) _
      refine XS.iconst X0.here hx rfl (hb hby at_18) ?_
      show Steps p.tables e below (s₁.setTop (mkF m 19 #[.val (.int x0), .val (.int (2 : Int32)), .unset, .unset, .unset, .unset, .unset] [(.int (1 : Int32)), (.int (2 : Int32))])) _
      refine XS.icmpYes X0.here hx rfl (pc0 := 19) (pc' := 31) rfl (hb hby at_19) rfl (feq ((by decide) : ¬ ((2 : Int32) = (1 : Int32)))).2 (by decide) (by decide) ?_
      show Steps p.tables e below (s₁.setTop (mkF m 31 #[.val (.int x0), .val (.int (2 : Int32)), .unset, .unset, .unset, .unset, .unset] [])) _
      refine XS.iloadN X0.here hx rfl (hb hby at_31) rfl ?_
      show Steps p.tables e below (s₁.setTop (mkF m 32 #[.val (.int x0), .val (.int (2 : Int32)), .unset, .unset, .unset, .unset, .unset] [(.int (2 : Int32))])) _
      refine XS.iconst X0.here hx rfl (hb hby at_32) ?_
      show Steps p.tables e below (s₁.setTop (mkF m 33 #[.val (.int x0), .val (.int (2 : Int32)), .unset, .unset, .unset, .unset, .unset] [(.int (2 : Int32)), (.int (2 : Int32))])) _
      refine XS.icmpNo X0.here hx rfl (hb hby at_33) rfl (teq ((by decide) : (2 : Int32) = (2 : Int32))).2 ?_
      show Steps p.tables e below (s₁.setTop (mkF m 36 #[.val (.int x0), .val (.int (2 : Int32)), .unset, .unset, .unset, .unset, .unset] [])) _
      refine st64 _ ?_
      show Steps p.tables e below (T64.setTop (mkF m 39 #[.val (.int x0), .val (.int (2 : Int32)), .unset, .unset, .unset, .unset, .unset] [(.ref w_NARROWS)])) _
      refine XS.astoreN X64.here hx rfl (hb hby at_39) rfl rfl (l' := #[.val (.int x0), .val (.int (2 : Int32)), .val (.ref w_NARROWS), .unset, .unset, .unset, .unset]) rfl ?_
      show Steps p.tables e below (T64.setTop (mkF m 40 #[.val (.int x0), .val (.int (2 : Int32)), .val (.ref w_NARROWS), .unset, .unset, .unset, .unset] [])) _
      refine XS.iconst X64.here hx rfl (hb hby at_40) ?_
      show Steps p.tables e below (T64.setTop (mkF m 41 #[.val (.int x0), .val (.int (2 : Int32)), .val (.ref w_NARROWS), .unset, .unset, .unset, .unset] [(.int (1 : Int32))])) _
      refine XS.istoreN X64.here hx rfl (hb hby at_41) rfl (l' := #[.val (.int x0), .val (.int (2 : Int32)), .val (.ref w_NARROWS), .val (.int (1 : Int32)), .unset, .unset, .unset]) rfl ?_
      show Steps p.tables e below (T64.setTop (mkF m 42 #[.val (.int x0), .val (.int (2 : Int32)), .val (.ref w_NARROWS), .val (.int (1 : Int32)), .unset, .unset, .unset] [])) _
      refine XS.goto X64.here hx rfl (pc0 := 42) (pc' := 51) rfl (hb hby at_42) (by decide) (by decide) ?_
      show Steps p.tables e below (T64.setTop (mkF m 51 #[.val (.int x0), .val (.int (2 : Int32)), .val (.ref w_NARROWS), .val (.int (1 : Int32)), .unset, .unset, .unset] [])) _
      refine XS.aloadN X64.here hx rfl (hb hby at_51) rfl rfl ?_
      show Steps p.tables e below (T64.setTop (mkF m 52 #[.val (.int x0), .val (.int (2 : Int32)), .val (.ref w_NARROWS), .val (.int (1 : Int32)), .unset, .unset, .unset] [(.ref w_NARROWS)])) _
      refine st65.trans ?_
      show Steps p.tables e below (T65.setTop (mkF m 55 #[.val (.int x0), .val (.int (2 : Int32)), .val (.ref w_NARROWS), .val (.int (1 : Int32)), .unset, .unset, .unset] [(.int (1 : Int32))])) _
      refine XS.istore X65.here hx rfl (hb hby at_55) rfl (l' := #[.val (.int x0), .val (.int (2 : Int32)), .val (.ref w_NARROWS), .val (.int (1 : Int32)), .val (.int (1 : Int32)), .unset, .unset]) rfl ?_
      show Steps p.tables e below (T65.setTop (mkF m 57 #[.val (.int x0), .val (.int (2 : Int32)), .val (.ref w_NARROWS), .val (.int (1 : Int32)), .val (.int (1 : Int32)), .unset, .unset] [])) _
      refine XS.iload X65.here hx rfl (hb hby at_57) rfl ?_
      show Steps p.tables e below (T65.setTop (mkF m 59 #[.val (.int x0), .val (.int (2 : Int32)), .val (.ref w_NARROWS), .val (.int (1 : Int32)), .val (.int (1 : Int32)), .unset, .unset] [(.int (1 : Int32))])) _
      refine XS.iloadN X65.here hx rfl (hb hby at_59) rfl ?_
      show Steps p.tables e below (T65.setTop (mkF m 60 #[.val (.int x0), .val (.int (2 : Int32)), .val (.ref w_NARROWS), .val (.int (1 : Int32)), .val (.int (1 : Int32)), .unset, .unset] [(.int (1 : Int32)), (.int (1 : Int32))])) _
      refine XS.icmpYes X65.here hx rfl (pc0 := 60) (pc' := 65) rfl (hb hby at_60) rfl (teq ((by decide) : (1 : Int32) = (1 : Int32))).1 (by decide) (by decide) ?_
      show Steps p.tables e below (T65.setTop (mkF m 65 #[.val (.int x0), .val (.int (2 : Int32)), .val (.ref w_NARROWS), .val (.int (1 : Int32)), .val (.int (1 : Int32)), .unset, .unset] [])) _
      refine XS.aloadN X65.here hx rfl (hb hby at_65) rfl rfl ?_
      show Steps p.tables e below (T65.setTop (mkF m 66 #[.val (.int x0), .val (.int (2 : Int32)), .val (.ref w_NARROWS), .val (.int (1 : Int32)), .val (.int (1 : Int32)), .unset, .unset] [(.ref w_NARROWS)])) _
      refine st66.trans ?_
      show Steps p.tables e below (T66.setTop (mkF m 69 #[.val (.int x0), .val (.int (2 : Int32)), .val (.ref w_NARROWS), .val (.int (1 : Int32)), .val (.int (1 : Int32)), .unset, .unset] [(.int (0 : Int32))])) _
      refine XS.iload X66.here hx rfl (hb hby at_69) rfl ?_
      show Steps p.tables e below (T66.setTop (mkF m 71 #[.val (.int x0), .val (.int (2 : Int32)), .val (.ref w_NARROWS), .val (.int (1 : Int32)), .val (.int (1 : Int32)), .unset, .unset] [(.int (1 : Int32)), (.int (0 : Int32))])) _
      refine st67 _ ?_
      show Steps p.tables e below (T67.setTop (mkF m 74 #[.val (.int x0), .val (.int (2 : Int32)), .val (.ref w_NARROWS), .val (.int (1 : Int32)), .val (.int (1 : Int32)), .unset, .unset] [(.ref w_NARROWS)])) _
      refine XS.aloadN X67.here hx rfl (hb hby at_74) rfl rfl ?_
      show Steps p.tables e below (T67.setTop (mkF m 75 #[.val (.int x0), .val (.int (2 : Int32)), .val (.ref w_NARROWS), .val (.int (1 : Int32)), .val (.int (1 : Int32)), .unset, .unset] [(.ref w_NARROWS), (.ref w_NARROWS)])) _
      refine Jvm.RoadKit.acmp (g := (mkF m 75 #[.val (.int x0), .val (.int (2 : Int32)), .val (.ref w_NARROWS), .val (.int (1 : Int32)), .val (.int (1 : Int32)), .unset, .unset] [(.ref w_NARROWS), (.ref w_NARROWS)])) X67 hx rfl rfl rfl (pc0 := 75) (pc' := 80) (same := true) rfl (hb hby at_75) rfl (decide_eq_true rfl) (by decide) (by decide) ?_
      show Steps p.tables e below (T67.setTop (mkF m 80 #[.val (.int x0), .val (.int (2 : Int32)), .val (.ref w_NARROWS), .val (.int (1 : Int32)), .val (.int (1 : Int32)), .unset, .unset] [])) _
      refine XS.iloadN X67.here hx rfl (hb hby at_80) rfl ?_
      show Steps p.tables e below (T67.setTop (mkF m 81 #[.val (.int x0), .val (.int (2 : Int32)), .val (.ref w_NARROWS), .val (.int (1 : Int32)), .val (.int (1 : Int32)), .unset, .unset] [(.int x0)])) _
      refine XS.iconst X67.here hx rfl (hb hby at_81) ?_
      show Steps p.tables e below (T67.setTop (mkF m 82 #[.val (.int x0), .val (.int (2 : Int32)), .val (.ref w_NARROWS), .val (.int (1 : Int32)), .val (.int (1 : Int32)), .unset, .unset] [(.int (4 : Int32)), (.int x0)])) _
      refine XS.iand X67.here hx rfl (hb hby at_82) rfl ?_
      exact kk)
    by_cases hc69 : (x0 &&& (4 : Int32)) = (0 : Int32)
    ·
      have pre70 : ∀ t, Steps p.tables e below (T67.setTop (mkF m 97 #[.val (.int x0), .val (.int (2 : Int32)), .val (.ref w_NARROWS), .val (.int (1 : Int32)), .val (.int (1 : Int32)), .val (.int (0 : Int32)), .unset] [(.int (x0 &&& (8 : Int32)))])) t → Steps p.tables e below (s₁.setTop (entryFrame m #[(.int x0)] maxLocals)) t := fun t kk => pre68 t (by
        show Steps p.tables e below (T67.setTop (mkF m 83 #[.val (.int x0), .val (.int (2 : Int32)), .val (.ref w_NARROWS), .val (.int (1 : Int32)), .val (.int (1 : Int32)), .unset, .unset] [(.int (x0 &&& (4 : Int32)))])) _
        refine XS.ifYes X67.here hx rfl (pc0 := 83) (pc' := 90) rfl (hb hby at_83) rfl ((if0 _ _).trans (teq (hc69 : (x0 &&& (4 : Int32)) = (0 : Int32))).1) (by decide) (by decide) ?_
        show Steps p.tables e below (T67.setTop (mkF m 90 #[.val (.int x0), .val (.int (2 : Int32)), .val (.ref w_NARROWS), .val (.int (1 : Int32)), .val (.int (1 : Int32)), .unset, .unset] [])) _
        refine XS.iconst X67.here hx rfl (hb hby at_90) ?_
        show Steps p.tables e below (T67.setTop (mkF m 91 #[.val (.int x0), .val (.int (2 : Int32)), .val (.ref w_NARROWS), .val (.int (1 : Int32)), .val (.int (1 : Int32)), .unset, .unset] [(.int (0 : Int32))])) _
        refine XS.istore X67.here hx rfl (hb hby at_91) rfl (l' := #[.val (.int x0), .val (.int (2 : Int32)), .val (.ref w_NARROWS), .val (.int (1 : Int32)), .val (.int (1 : Int32)), .val (.int (0 : Int32)), .unset]) rfl ?_
        show Steps p.tables e below (T67.setTop (mkF m 93 #[.val (.int x0), .val (.int (2 : Int32)), .val (.ref w_NARROWS), .val (.int (1 : Int32)), .val (.int (1 : Int32)), .val (.int (0 : Int32)), .unset] [])) _
        refine XS.iloadN X67.here hx rfl (hb hby at_93) rfl ?_
        show Steps p.tables e below (T67.setTop (mkF m 94 #[.val (.int x0), .val (.int (2 : Int32)), .val (.ref w_NARROWS), .val (.int (1 : Int32)), .val (.int (1 : Int32)), .val (.int (0 : Int32)), .unset] [(.int x0)])) _
        refine XS.bipush X67.here hx rfl (hb hby at_94) ?_
        show Steps p.tables e below (T67.setTop (mkF m 96 #[.val (.int x0), .val (.int (2 : Int32)), .val (.ref w_NARROWS), .val (.int (1 : Int32)), .val (.int (1 : Int32)), .val (.int (0 : Int32)), .unset] [(.int (8 : Int32)), (.int x0)])) _
        refine XS.iand X67.here hx rfl (hb hby at_96) rfl ?_
        exact kk)
      by_cases hc71 : (x0 &&& (8 : Int32)) = (0 : Int32)
      ·
        obtain ⟨_, _, ⟨T72, L72, k72, n72⟩, -, X72, ⟨Lc72, hQ72, l72, y72, z72⟩, st72⟩ := Jvm.LawKit.callS X67 hx (y := (⟨"com/example/svratka/svratka/authz/AccessChange", "of", "(ZZ)Lcom/example/svratka/svratka/authz/AccessChange;"⟩ : MethodName)) hown (mvT hZ (hw _ (List.mem_of_getElem? (i := 19) rfl))) (mvT hZ (hw _ (List.mem_of_getElem? (i := 20) rfl))) (mvT hZ (hw _ (List.mem_of_getElem? (i := 1) rfl))) (mvT hZ (hw _ (List.mem_of_getElem? (i := 21) rfl))) (by decide) (backOf (W := 0) (rm3 l Z a0 hw [] w_NONE h0 n0 Z0 S_w_NONE) hZ (hw _ (List.mem_of_getElem? (i := 21) rfl)) (hw _ (List.mem_of_getElem? (i := 1) rfl)) (by decide) (by decide)) (g := (mkF m 111 #[.val (.int x0), .val (.int (2 : Int32)), .val (.ref w_NARROWS), .val (.int (1 : Int32)), .val (.int (1 : Int32)), .val (.int (0 : Int32)), .val (.int (0 : Int32))] [(.int (0 : Int32)), (.int (0 : Int32))])) rfl (by rw [hml]; rfl) (argsL := [(.int (0 : Int32)), (.int (0 : Int32))]) (rest := []) (lenOf pd_1 rfl) rfl (by show 2 * 0 + _ ≤ _; exact Nat.le_of_eq rfl) (hb hby at_111) (fun _ _ => ⟨rfl, e67, (by decide : 0 + 0 ≤ _), (by decide : 0 + 0 ≤ _)⟩)
        dsimp only [Pt.U, Pt.locs, Pt.cells, Pt.slots] at X72 l72 y72 z72 st72 hQ72
        subst l72 y72 z72
        obtain ⟨rfl, N72q, e72⟩ := hQ72
        have N72 := Fr.app N67 N72q
        obtain ⟨cq73, kq73, q73a, q73b, q73c⟩ := isOf hZ e72 E_w_NONE
        obtain ⟨_, _, ⟨T73, L73, k73, n73⟩, -, X73, ⟨Lc73, hQ73, l73, y73, z73⟩, st73⟩ := X72.virtualBack hx (y := (⟨"com/example/svratka/svratka/authz/AccessChange", "narrows", "()Z"⟩ : MethodName)) (z := (⟨"com/example/svratka/svratka/authz/AccessChange", "narrows", "()Z"⟩ : MethodName)) hown (mvT hZ (hw _ (List.mem_of_getElem? (i := 3) rfl))) (mvT hZ (hw _ (List.mem_of_getElem? (i := 4) rfl))) (notFace_of_selects (args := #[]) (mvT hZ (hw _ (List.mem_of_getElem? (i := 6) rfl)))) (mvT hZ (hw _ (List.mem_of_getElem? (i := 6) rfl))) (mvT hZ (hw _ (List.mem_of_getElem? (i := 5) rfl))) (by decide) (backOf (W := 0) (rm1 l Z a0 hw [] w_NONE w_NARROWS w_MIXED h0 n0 Z0 S_w_NARROWS ((Fld.ne F_ordinal_w_NONE F_ordinal_w_NARROWS (by decide))) S_w_MIXED ((Fld.ne F_ordinal_w_NONE F_ordinal_w_MIXED (by decide)))) hZ (hw _ (List.mem_of_getElem? (i := 7) rfl)) (hw _ (List.mem_of_getElem? (i := 1) rfl)) (by decide) (by decide)) q73a q73c (g := (mkF m 114 #[.val (.int x0), .val (.int (2 : Int32)), .val (.ref w_NARROWS), .val (.int (1 : Int32)), .val (.int (1 : Int32)), .val (.int (0 : Int32)), .val (.int (0 : Int32))] [(.ref w_NONE)])) rfl (by rw [hml]; rfl) (Steps.refl _) (argsL := []) (rest := []) (lenOf pd_0 rfl) rfl (by show 2 * 0 + _ ≤ _; exact Nat.le_of_eq rfl) (hb hby at_114) (fun _ _ => ⟨rfl, e72, (by decide : 0 + 0 ≤ _), (by decide : 0 + 0 ≤ _)⟩)
        dsimp only [Pt.U, Pt.locs, Pt.cells, Pt.slots] at X73 l73 y73 z73 st73 hQ73
        subst l73 y73 z73
        obtain ⟨rfl, N73q, e73⟩ := hQ73
        have N73 := Fr.app N72 N73q
        have pre74 : ∀ t, Steps p.tables e below (T73.setTop (mkF m 127 #[.val (.int x0), .val (.int (2 : Int32)), .val (.ref w_NARROWS), .val (.int (1 : Int32)), .val (.int (1 : Int32)), .val (.int (0 : Int32)), .val (.int (0 : Int32))] [(.int (1 : Int32))])) t → Steps p.tables e below (s₁.setTop (entryFrame m #[(.int x0)] maxLocals)) t := fun t kk => pre70 t (by
          show Steps p.tables e below (T67.setTop (mkF m 97 #[.val (.int x0), .val (.int (2 : Int32)), .val (.ref w_NARROWS), .val (.int (1 : Int32)), .val (.int (1 : Int32)), .val (.int (0 : Int32)), .unset] [(.int (x0 &&& (8 : Int32)))])) _
          refine XS.ifYes X67.here hx rfl (pc0 := 97) (pc' := 104) rfl (hb hby at_97) rfl ((if0 _ _).trans (teq (hc71 : (x0 &&& (8 : Int32)) = (0 : Int32))).1) (by decide) (by decide) ?_
          show Steps p.tables e below (T67.setTop (mkF m 104 #[.val (.int x0), .val (.int (2 : Int32)), .val (.ref w_NARROWS), .val (.int (1 : Int32)), .val (.int (1 : Int32)), .val (.int (0 : Int32)), .unset] [])) _
          refine XS.iconst X67.here hx rfl (hb hby at_104) ?_
          show Steps p.tables e below (T67.setTop (mkF m 105 #[.val (.int x0), .val (.int (2 : Int32)), .val (.ref w_NARROWS), .val (.int (1 : Int32)), .val (.int (1 : Int32)), .val (.int (0 : Int32)), .unset] [(.int (0 : Int32))])) _
          refine XS.istore X67.here hx rfl (hb hby at_105) rfl (l' := #[.val (.int x0), .val (.int (2 : Int32)), .val (.ref w_NARROWS), .val (.int (1 : Int32)), .val (.int (1 : Int32)), .val (.int (0 : Int32)), .val (.int (0 : Int32))]) rfl ?_
          show Steps p.tables e below (T67.setTop (mkF m 107 #[.val (.int x0), .val (.int (2 : Int32)), .val (.ref w_NARROWS), .val (.int (1 : Int32)), .val (.int (1 : Int32)), .val (.int (0 : Int32)), .val (.int (0 : Int32))] [])) _
          refine XS.iload X67.here hx rfl (hb hby at_107) rfl ?_
          show Steps p.tables e below (T67.setTop (mkF m 109 #[.val (.int x0), .val (.int (2 : Int32)), .val (.ref w_NARROWS), .val (.int (1 : Int32)), .val (.int (1 : Int32)), .val (.int (0 : Int32)), .val (.int (0 : Int32))] [(.int (0 : Int32))])) _
          refine XS.iload X67.here hx rfl (hb hby at_109) rfl ?_
          show Steps p.tables e below (T67.setTop (mkF m 111 #[.val (.int x0), .val (.int (2 : Int32)), .val (.ref w_NARROWS), .val (.int (1 : Int32)), .val (.int (1 : Int32)), .val (.int (0 : Int32)), .val (.int (0 : Int32))] [(.int (0 : Int32)), (.int (0 : Int32))])) _
          refine st72 _ ?_
          show Steps p.tables e below (T72.setTop (mkF m 114 #[.val (.int x0), .val (.int (2 : Int32)), .val (.ref w_NARROWS), .val (.int (1 : Int32)), .val (.int (1 : Int32)), .val (.int (0 : Int32)), .val (.int (0 : Int32))] [(.ref w_NONE)])) _
          refine st73.trans ?_
          show Steps p.tables e below (T73.setTop (mkF m 117 #[.val (.int x0), .val (.int (2 : Int32)), .val (.ref w_NARROWS), .val (.int (1 : Int32)), .val (.int (1 : Int32)), .val (.int (0 : Int32)), .val (.int (0 : Int32))] [(.int (0 : Int32))])) _
          refine XS.iload X73.here hx rfl (hb hby at_117) rfl ?_
          show Steps p.tables e below (T73.setTop (mkF m 119 #[.val (.int x0), .val (.int (2 : Int32)), .val (.ref w_NARROWS), .val (.int (1 : Int32)), .val (.int (1 : Int32)), .val (.int (0 : Int32)), .val (.int (0 : Int32))] [(.int (0 : Int32)), (.int (0 : Int32))])) _
          refine XS.icmpNo X73.here hx rfl (hb hby at_119) rfl (teq ((by decide) : (0 : Int32) = (0 : Int32))).2 ?_
          show Steps p.tables e below (T73.setTop (mkF m 122 #[.val (.int x0), .val (.int (2 : Int32)), .val (.ref w_NARROWS), .val (.int (1 : Int32)), .val (.int (1 : Int32)), .val (.int (0 : Int32)), .val (.int (0 : Int32))] [])) _
          refine XS.iconst X73.here hx rfl (hb hby at_122) ?_
          show Steps p.tables e below (T73.setTop (mkF m 123 #[.val (.int x0), .val (.int (2 : Int32)), .val (.ref w_NARROWS), .val (.int (1 : Int32)), .val (.int (1 : Int32)), .val (.int (0 : Int32)), .val (.int (0 : Int32))] [(.int (1 : Int32))])) _
          refine XS.goto X73.here hx rfl (pc0 := 123) (pc' := 127) rfl (hb hby at_123) (by decide) (by decide) ?_
          exact kk)
        obtain ⟨fs, hr, hrun, hended, hW, hsame⟩ := X73.leave (v := some (.int (1 : Int32))) (fun h => by rw [Bd.returns] at h; cases h)
        refine ⟨_, _, pre74 _ ?_, hrun, hended, _, _, rfl, ?_, ⟨_, rfl⟩, hW, hsame.mono (by decide) (by decide)⟩
        · exact retN X73 hx (t := .boolean) Bd.returns (by simp) (hb hby at_127) hr
        · exact ⟨rfl, N73⟩
      ·
        obtain ⟨_, _, ⟨T75, L75, k75, n75⟩, -, X75, ⟨Lc75, hQ75, l75, y75, z75⟩, st75⟩ := Jvm.LawKit.callS X67 hx (y := (⟨"com/example/svratka/svratka/authz/AccessChange", "of", "(ZZ)Lcom/example/svratka/svratka/authz/AccessChange;"⟩ : MethodName)) hown (mvT hZ (hw _ (List.mem_of_getElem? (i := 19) rfl))) (mvT hZ (hw _ (List.mem_of_getElem? (i := 20) rfl))) (mvT hZ (hw _ (List.mem_of_getElem? (i := 1) rfl))) (mvT hZ (hw _ (List.mem_of_getElem? (i := 21) rfl))) (by decide) (backOf (W := 0) (rm4 l Z a0 hw [] w_NARROWS h0 n0 Z0 S_w_NARROWS) hZ (hw _ (List.mem_of_getElem? (i := 21) rfl)) (hw _ (List.mem_of_getElem? (i := 1) rfl)) (by decide) (by decide)) (g := (mkF m 111 #[.val (.int x0), .val (.int (2 : Int32)), .val (.ref w_NARROWS), .val (.int (1 : Int32)), .val (.int (1 : Int32)), .val (.int (0 : Int32)), .val (.int (1 : Int32))] [(.int (1 : Int32)), (.int (0 : Int32))])) rfl (by rw [hml]; rfl) (argsL := [(.int (0 : Int32)), (.int (1 : Int32))]) (rest := []) (lenOf pd_1 rfl) rfl (by show 2 * 0 + _ ≤ _; exact Nat.le_of_eq rfl) (hb hby at_111) (fun _ _ => ⟨rfl, e67, (by decide : 0 + 0 ≤ _), (by decide : 0 + 0 ≤ _)⟩)
        dsimp only [Pt.U, Pt.locs, Pt.cells, Pt.slots] at X75 l75 y75 z75 st75 hQ75
        subst l75 y75 z75
        obtain ⟨rfl, N75q, e75⟩ := hQ75
        have N75 := Fr.app N67 N75q
        obtain ⟨cq76, kq76, q76a, q76b, q76c⟩ := isOf hZ e75 E_w_NARROWS
        obtain ⟨_, _, ⟨T76, L76, k76, n76⟩, -, X76, ⟨Lc76, hQ76, l76, y76, z76⟩, st76⟩ := X75.virtualBack hx (y := (⟨"com/example/svratka/svratka/authz/AccessChange", "narrows", "()Z"⟩ : MethodName)) (z := (⟨"com/example/svratka/svratka/authz/AccessChange", "narrows", "()Z"⟩ : MethodName)) hown (mvT hZ (hw _ (List.mem_of_getElem? (i := 3) rfl))) (mvT hZ (hw _ (List.mem_of_getElem? (i := 4) rfl))) (notFace_of_selects (args := #[]) (mvT hZ (hw _ (List.mem_of_getElem? (i := 6) rfl)))) (mvT hZ (hw _ (List.mem_of_getElem? (i := 6) rfl))) (mvT hZ (hw _ (List.mem_of_getElem? (i := 5) rfl))) (by decide) (backOf (W := 0) (rm5 l Z a0 hw [] w_NARROWS h0 n0 Z0 S_w_NARROWS) hZ (hw _ (List.mem_of_getElem? (i := 7) rfl)) (hw _ (List.mem_of_getElem? (i := 1) rfl)) (by decide) (by decide)) q76a q76c (g := (mkF m 114 #[.val (.int x0), .val (.int (2 : Int32)), .val (.ref w_NARROWS), .val (.int (1 : Int32)), .val (.int (1 : Int32)), .val (.int (0 : Int32)), .val (.int (1 : Int32))] [(.ref w_NARROWS)])) rfl (by rw [hml]; rfl) (Steps.refl _) (argsL := []) (rest := []) (lenOf pd_0 rfl) rfl (by show 2 * 0 + _ ≤ _; exact Nat.le_of_eq rfl) (hb hby at_114) (fun _ _ => ⟨rfl, e75, (by decide : 0 + 0 ≤ _), (by decide : 0 + 0 ≤ _)⟩)
        dsimp only [Pt.U, Pt.locs, Pt.cells, Pt.slots] at X76 l76 y76 z76 st76 hQ76
        subst l76 y76 z76
        obtain ⟨rfl, N76q, e76⟩ := hQ76
        have N76 := Fr.app N75 N76q
        have pre77 : ∀ t, Steps p.tables e below (T76.setTop (mkF m 127 #[.val (.int x0), .val (.int (2 : Int32)), .val (.ref w_NARROWS), .val (.int (1 : Int32)), .val (.int (1 : Int32)), .val (.int (0 : Int32)), .val (.int (1 : Int32))] [(.int (1 : Int32))])) t → Steps p.tables e below (s₁.setTop (entryFrame m #[(.int x0)] maxLocals)) t := fun t kk => pre70 t (by
          show Steps p.tables e below (T67.setTop (mkF m 97 #[.val (.int x0), .val (.int (2 : Int32)), .val (.ref w_NARROWS), .val (.int (1 : Int32)), .val (.int (1 : Int32)), .val (.int (0 : Int32)), .unset] [(.int (x0 &&& (8 : Int32)))])) _
          refine XS.ifNo X67.here hx rfl (hb hby at_97) rfl ((if0 _ _).trans (feq (hc71 : ¬ ((x0 &&& (8 : Int32)) = (0 : Int32)))).1) ?_
          show Steps p.tables e below (T67.setTop (mkF m 100 #[.val (.int x0), .val (.int (2 : Int32)), .val (.ref w_NARROWS), .val (.int (1 : Int32)), .val (.int (1 : Int32)), .val (.int (0 : Int32)), .unset] [])) _
          refine XS.iconst X67.here hx rfl (hb hby at_100) ?_
          show Steps p.tables e below (T67.setTop (mkF m 101 #[.val (.int x0), .val (.int (2 : Int32)), .val (.ref w_NARROWS), .val (.int (1 : Int32)), .val (.int (1 : Int32)), .val (.int (0 : Int32)), .unset] [(.int (1 : Int32))])) _
          refine XS.goto X67.here hx rfl (pc0 := 101) (pc' := 105) rfl (hb hby at_101) (by decide) (by decide) ?_
          show Steps p.tables e below (T67.setTop (mkF m 105 #[.val (.int x0), .val (.int (2 : Int32)), .val (.ref w_NARROWS), .val (.int (1 : Int32)), .val (.int (1 : Int32)), .val (.int (0 : Int32)), .unset] [(.int (1 : Int32))])) _
          refine XS.istore X67.here hx rfl (hb hby at_105) rfl (l' := #[.val (.int x0), .val (.int (2 : Int32)), .val (.ref w_NARROWS), .val (.int (1 : Int32)), .val (.int (1 : Int32)), .val (.int (0 : Int32)), .val (.int (1 : Int32))]) rfl ?_
          show Steps p.tables e below (T67.setTop (mkF m 107 #[.val (.int x0), .val (.int (2 : Int32)), .val (.ref w_NARROWS), .val (.int (1 : Int32)), .val (.int (1 : Int32)), .val (.int (0 : Int32)), .val (.int (1 : Int32))] [])) _
          refine XS.iload X67.here hx rfl (hb hby at_107) rfl ?_
          show Steps p.tables e below (T67.setTop (mkF m 109 #[.val (.int x0), .val (.int (2 : Int32)), .val (.ref w_NARROWS), .val (.int (1 : Int32)), .val (.int (1 : Int32)), .val (.int (0 : Int32)), .val (.int (1 : Int32))] [(.int (0 : Int32))])) _
          refine XS.iload X67.here hx rfl (hb hby at_109) rfl ?_
          show Steps p.tables e below (T67.setTop (mkF m 111 #[.val (.int x0), .val (.int (2 : Int32)), .val (.ref w_NARROWS), .val (.int (1 : Int32)), .val (.int (1 : Int32)), .val (.int (0 : Int32)), .val (.int (1 : Int32))] [(.int (1 : Int32)), (.int (0 : Int32))])) _
          refine st75 _ ?_
          show Steps p.tables e below (T75.setTop (mkF m 114 #[.val (.int x0), .val (.int (2 : Int32)), .val (.ref w_NARROWS), .val (.int (1 : Int32)), .val (.int (1 : Int32)), .val (.int (0 : Int32)), .val (.int (1 : Int32))] [(.ref w_NARROWS)])) _
          refine st76.trans ?_
          show Steps p.tables e below (T76.setTop (mkF m 117 #[.val (.int x0), .val (.int (2 : Int32)), .val (.ref w_NARROWS), .val (.int (1 : Int32)), .val (.int (1 : Int32)), .val (.int (0 : Int32)), .val (.int (1 : Int32))] [(.int (1 : Int32))])) _
          refine XS.iload X76.here hx rfl (hb hby at_117) rfl ?_
          show Steps p.tables e below (T76.setTop (mkF m 119 #[.val (.int x0), .val (.int (2 : Int32)), .val (.ref w_NARROWS), .val (.int (1 : Int32)), .val (.int (1 : Int32)), .val (.int (0 : Int32)), .val (.int (1 : Int32))] [(.int (1 : Int32)), (.int (1 : Int32))])) _
          refine XS.icmpNo X76.here hx rfl (hb hby at_119) rfl (teq ((by decide) : (1 : Int32) = (1 : Int32))).2 ?_
          show Steps p.tables e below (T76.setTop (mkF m 122 #[.val (.int x0), .val (.int (2 : Int32)), .val (.ref w_NARROWS), .val (.int (1 : Int32)), .val (.int (1 : Int32)), .val (.int (0 : Int32)), .val (.int (1 : Int32))] [])) _
          refine XS.iconst X76.here hx rfl (hb hby at_122) ?_
          show Steps p.tables e below (T76.setTop (mkF m 123 #[.val (.int x0), .val (.int (2 : Int32)), .val (.ref w_NARROWS), .val (.int (1 : Int32)), .val (.int (1 : Int32)), .val (.int (0 : Int32)), .val (.int (1 : Int32))] [(.int (1 : Int32))])) _
          refine XS.goto X76.here hx rfl (pc0 := 123) (pc' := 127) rfl (hb hby at_123) (by decide) (by decide) ?_
          exact kk)
        obtain ⟨fs, hr, hrun, hended, hW, hsame⟩ := X76.leave (v := some (.int (1 : Int32))) (fun h => by rw [Bd.returns] at h; cases h)
        refine ⟨_, _, pre77 _ ?_, hrun, hended, _, _, rfl, ?_, ⟨_, rfl⟩, hW, hsame.mono (by decide) (by decide)⟩
        · exact retN X76 hx (t := .boolean) Bd.returns (by simp) (hb hby at_127) hr
        · exact ⟨rfl, N76⟩
    ·
      have pre78 : ∀ t, Steps p.tables e below (T67.setTop (mkF m 97 #[.val (.int x0), .val (.int (2 : Int32)), .val (.ref w_NARROWS), .val (.int (1 : Int32)), .val (.int (1 : Int32)), .val (.int (1 : Int32)), .unset] [(.int (x0 &&& (8 : Int32)))])) t → Steps p.tables e below (s₁.setTop (entryFrame m #[(.int x0)] maxLocals)) t := fun t kk => pre68 t (by
        show Steps p.tables e below (T67.setTop (mkF m 83 #[.val (.int x0), .val (.int (2 : Int32)), .val (.ref w_NARROWS), .val (.int (1 : Int32)), .val (.int (1 : Int32)), .unset, .unset] [(.int (x0 &&& (4 : Int32)))])) _
        refine XS.ifNo X67.here hx rfl (hb hby at_83) rfl ((if0 _ _).trans (feq (hc69 : ¬ ((x0 &&& (4 : Int32)) = (0 : Int32)))).1) ?_
        show Steps p.tables e below (T67.setTop (mkF m 86 #[.val (.int x0), .val (.int (2 : Int32)), .val (.ref w_NARROWS), .val (.int (1 : Int32)), .val (.int (1 : Int32)), .unset, .unset] [])) _
        refine XS.iconst X67.here hx rfl (hb hby at_86) ?_
        show Steps p.tables e below (T67.setTop (mkF m 87 #[.val (.int x0), .val (.int (2 : Int32)), .val (.ref w_NARROWS), .val (.int (1 : Int32)), .val (.int (1 : Int32)), .unset, .unset] [(.int (1 : Int32))])) _
        refine XS.goto X67.here hx rfl (pc0 := 87) (pc' := 91) rfl (hb hby at_87) (by decide) (by decide) ?_
        show Steps p.tables e below (T67.setTop (mkF m 91 #[.val (.int x0), .val (.int (2 : Int32)), .val (.ref w_NARROWS), .val (.int (1 : Int32)), .val (.int (1 : Int32)), .unset, .unset] [(.int (1 : Int32))])) _
        refine XS.istore X67.here hx rfl (hb hby at_91) rfl (l' := #[.val (.int x0), .val (.int (2 : Int32)), .val (.ref w_NARROWS), .val (.int (1 : Int32)), .val (.int (1 : Int32)), .val (.int (1 : Int32)), .unset]) rfl ?_
        show Steps p.tables e below (T67.setTop (mkF m 93 #[.val (.int x0), .val (.int (2 : Int32)), .val (.ref w_NARROWS), .val (.int (1 : Int32)), .val (.int (1 : Int32)), .val (.int (1 : Int32)), .unset] [])) _
        refine XS.iloadN X67.here hx rfl (hb hby at_93) rfl ?_
        show Steps p.tables e below (T67.setTop (mkF m 94 #[.val (.int x0), .val (.int (2 : Int32)), .val (.ref w_NARROWS), .val (.int (1 : Int32)), .val (.int (1 : Int32)), .val (.int (1 : Int32)), .unset] [(.int x0)])) _
        refine XS.bipush X67.here hx rfl (hb hby at_94) ?_
        show Steps p.tables e below (T67.setTop (mkF m 96 #[.val (.int x0), .val (.int (2 : Int32)), .val (.ref w_NARROWS), .val (.int (1 : Int32)), .val (.int (1 : Int32)), .val (.int (1 : Int32)), .unset] [(.int (8 : Int32)), (.int x0)])) _
        refine XS.iand X67.here hx rfl (hb hby at_96) rfl ?_
        exact kk)
      by_cases hc79 : (x0 &&& (8 : Int32)) = (0 : Int32)
      ·
        obtain ⟨_, _, ⟨T80, L80, k80, n80⟩, -, X80, ⟨Lc80, hQ80, l80, y80, z80⟩, st80⟩ := Jvm.LawKit.callS X67 hx (y := (⟨"com/example/svratka/svratka/authz/AccessChange", "of", "(ZZ)Lcom/example/svratka/svratka/authz/AccessChange;"⟩ : MethodName)) hown (mvT hZ (hw _ (List.mem_of_getElem? (i := 19) rfl))) (mvT hZ (hw _ (List.mem_of_getElem? (i := 20) rfl))) (mvT hZ (hw _ (List.mem_of_getElem? (i := 1) rfl))) (mvT hZ (hw _ (List.mem_of_getElem? (i := 21) rfl))) (by decide) (backOf (W := 0) (rm6 l Z a0 hw [] w_WIDENS h0 n0 Z0 S_w_WIDENS) hZ (hw _ (List.mem_of_getElem? (i := 21) rfl)) (hw _ (List.mem_of_getElem? (i := 1) rfl)) (by decide) (by decide)) (g := (mkF m 111 #[.val (.int x0), .val (.int (2 : Int32)), .val (.ref w_NARROWS), .val (.int (1 : Int32)), .val (.int (1 : Int32)), .val (.int (1 : Int32)), .val (.int (0 : Int32))] [(.int (0 : Int32)), (.int (1 : Int32))])) rfl (by rw [hml]; rfl) (argsL := [(.int (1 : Int32)), (.int (0 : Int32))]) (rest := []) (lenOf pd_1 rfl) rfl (by show 2 * 0 + _ ≤ _; exact Nat.le_of_eq rfl) (hb hby at_111) (fun _ _ => ⟨rfl, e67, (by decide : 0 + 0 ≤ _), (by decide : 0 + 0 ≤ _)⟩)
        dsimp only [Pt.U, Pt.locs, Pt.cells, Pt.slots] at X80 l80 y80 z80 st80 hQ80
        subst l80 y80 z80
        obtain ⟨rfl, N80q, e80⟩ := hQ80
        have N80 := Fr.app N67 N80q
        obtain ⟨cq81, kq81, q81a, q81b, q81c⟩ := isOf hZ e80 E_w_WIDENS
        obtain ⟨_, _, ⟨T81, L81, k81, n81⟩, -, X81, ⟨Lc81, hQ81, l81, y81, z81⟩, st81⟩ := X80.virtualBack hx (y := (⟨"com/example/svratka/svratka/authz/AccessChange", "narrows", "()Z"⟩ : MethodName)) (z := (⟨"com/example/svratka/svratka/authz/AccessChange", "narrows", "()Z"⟩ : MethodName)) hown (mvT hZ (hw _ (List.mem_of_getElem? (i := 3) rfl))) (mvT hZ (hw _ (List.mem_of_getElem? (i := 4) rfl))) (notFace_of_selects (args := #[]) (mvT hZ (hw _ (List.mem_of_getElem? (i := 6) rfl)))) (mvT hZ (hw _ (List.mem_of_getElem? (i := 6) rfl))) (mvT hZ (hw _ (List.mem_of_getElem? (i := 5) rfl))) (by decide) (backOf (W := 0) (rm1 l Z a0 hw [] w_WIDENS w_NARROWS w_MIXED h0 n0 Z0 S_w_NARROWS ((Fld.ne F_ordinal_w_WIDENS F_ordinal_w_NARROWS (by decide))) S_w_MIXED ((Fld.ne F_ordinal_w_WIDENS F_ordinal_w_MIXED (by decide)))) hZ (hw _ (List.mem_of_getElem? (i := 7) rfl)) (hw _ (List.mem_of_getElem? (i := 1) rfl)) (by decide) (by decide)) q81a q81c (g := (mkF m 114 #[.val (.int x0), .val (.int (2 : Int32)), .val (.ref w_NARROWS), .val (.int (1 : Int32)), .val (.int (1 : Int32)), .val (.int (1 : Int32)), .val (.int (0 : Int32))] [(.ref w_WIDENS)])) rfl (by rw [hml]; rfl) (Steps.refl _) (argsL := []) (rest := []) (lenOf pd_0 rfl) rfl (by show 2 * 0 + _ ≤ _; exact Nat.le_of_eq rfl) (hb hby at_114) (fun _ _ => ⟨rfl, e80, (by decide : 0 + 0 ≤ _), (by decide : 0 + 0 ≤ _)⟩)
        dsimp only [Pt.U, Pt.locs, Pt.cells, Pt.slots] at X81 l81 y81 z81 st81 hQ81
        subst l81 y81 z81
        obtain ⟨rfl, N81q, e81⟩ := hQ81
        have N81 := Fr.app N80 N81q
        have pre82 : ∀ t, Steps p.tables e below (T81.setTop (mkF m 127 #[.val (.int x0), .val (.int (2 : Int32)), .val (.ref w_NARROWS), .val (.int (1 : Int32)), .val (.int (1 : Int32)), .val (.int (1 : Int32)), .val (.int (0 : Int32))] [(.int (1 : Int32))])) t → Steps p.tables e below (s₁.setTop (entryFrame m #[(.int x0)] maxLocals)) t := fun t kk => pre78 t (by
          show Steps p.tables e below (T67.setTop (mkF m 97 #[.val (.int x0), .val (.int (2 : Int32)), .val (.ref w_NARROWS), .val (.int (1 : Int32)), .val (.int (1 : Int32)), .val (.int (1 : Int32)), .unset] [(.int (x0 &&& (8 : Int32)))])) _
          refine XS.ifYes X67.here hx rfl (pc0 := 97) (pc' := 104) rfl (hb hby at_97) rfl ((if0 _ _).trans (teq (hc79 : (x0 &&& (8 : Int32)) = (0 : Int32))).1) (by decide) (by decide) ?_
          show Steps p.tables e below (T67.setTop (mkF m 104 #[.val (.int x0), .val (.int (2 : Int32)), .val (.ref w_NARROWS), .val (.int (1 : Int32)), .val (.int (1 : Int32)), .val (.int (1 : Int32)), .unset] [])) _
          refine XS.iconst X67.here hx rfl (hb hby at_104) ?_
          show Steps p.tables e below (T67.setTop (mkF m 105 #[.val (.int x0), .val (.int (2 : Int32)), .val (.ref w_NARROWS), .val (.int (1 : Int32)), .val (.int (1 : Int32)), .val (.int (1 : Int32)), .unset] [(.int (0 : Int32))])) _
          refine XS.istore X67.here hx rfl (hb hby at_105) rfl (l' := #[.val (.int x0), .val (.int (2 : Int32)), .val (.ref w_NARROWS), .val (.int (1 : Int32)), .val (.int (1 : Int32)), .val (.int (1 : Int32)), .val (.int (0 : Int32))]) rfl ?_
          show Steps p.tables e below (T67.setTop (mkF m 107 #[.val (.int x0), .val (.int (2 : Int32)), .val (.ref w_NARROWS), .val (.int (1 : Int32)), .val (.int (1 : Int32)), .val (.int (1 : Int32)), .val (.int (0 : Int32))] [])) _
          refine XS.iload X67.here hx rfl (hb hby at_107) rfl ?_
          show Steps p.tables e below (T67.setTop (mkF m 109 #[.val (.int x0), .val (.int (2 : Int32)), .val (.ref w_NARROWS), .val (.int (1 : Int32)), .val (.int (1 : Int32)), .val (.int (1 : Int32)), .val (.int (0 : Int32))] [(.int (1 : Int32))])) _
          refine XS.iload X67.here hx rfl (hb hby at_109) rfl ?_
          show Steps p.tables e below (T67.setTop (mkF m 111 #[.val (.int x0), .val (.int (2 : Int32)), .val (.ref w_NARROWS), .val (.int (1 : Int32)), .val (.int (1 : Int32)), .val (.int (1 : Int32)), .val (.int (0 : Int32))] [(.int (0 : Int32)), (.int (1 : Int32))])) _
          refine st80 _ ?_
          show Steps p.tables e below (T80.setTop (mkF m 114 #[.val (.int x0), .val (.int (2 : Int32)), .val (.ref w_NARROWS), .val (.int (1 : Int32)), .val (.int (1 : Int32)), .val (.int (1 : Int32)), .val (.int (0 : Int32))] [(.ref w_WIDENS)])) _
          refine st81.trans ?_
          show Steps p.tables e below (T81.setTop (mkF m 117 #[.val (.int x0), .val (.int (2 : Int32)), .val (.ref w_NARROWS), .val (.int (1 : Int32)), .val (.int (1 : Int32)), .val (.int (1 : Int32)), .val (.int (0 : Int32))] [(.int (0 : Int32))])) _
          refine XS.iload X81.here hx rfl (hb hby at_117) rfl ?_
          show Steps p.tables e below (T81.setTop (mkF m 119 #[.val (.int x0), .val (.int (2 : Int32)), .val (.ref w_NARROWS), .val (.int (1 : Int32)), .val (.int (1 : Int32)), .val (.int (1 : Int32)), .val (.int (0 : Int32))] [(.int (0 : Int32)), (.int (0 : Int32))])) _
          refine XS.icmpNo X81.here hx rfl (hb hby at_119) rfl (teq ((by decide) : (0 : Int32) = (0 : Int32))).2 ?_
          show Steps p.tables e below (T81.setTop (mkF m 122 #[.val (.int x0), .val (.int (2 : Int32)), .val (.ref w_NARROWS), .val (.int (1 : Int32)), .val (.int (1 : Int32)), .val (.int (1 : Int32)), .val (.int (0 : Int32))] [])) _
          refine XS.iconst X81.here hx rfl (hb hby at_122) ?_
          show Steps p.tables e below (T81.setTop (mkF m 123 #[.val (.int x0), .val (.int (2 : Int32)), .val (.ref w_NARROWS), .val (.int (1 : Int32)), .val (.int (1 : Int32)), .val (.int (1 : Int32)), .val (.int (0 : Int32))] [(.int (1 : Int32))])) _
          refine XS.goto X81.here hx rfl (pc0 := 123) (pc' := 127) rfl (hb hby at_123) (by decide) (by decide) ?_
          exact kk)
        obtain ⟨fs, hr, hrun, hended, hW, hsame⟩ := X81.leave (v := some (.int (1 : Int32))) (fun h => by rw [Bd.returns] at h; cases h)
        refine ⟨_, _, pre82 _ ?_, hrun, hended, _, _, rfl, ?_, ⟨_, rfl⟩, hW, hsame.mono (by decide) (by decide)⟩
        · exact retN X81 hx (t := .boolean) Bd.returns (by simp) (hb hby at_127) hr
        · exact ⟨rfl, N81⟩
      ·
        obtain ⟨_, _, ⟨T83, L83, k83, n83⟩, -, X83, ⟨Lc83, hQ83, l83, y83, z83⟩, st83⟩ := Jvm.LawKit.callS X67 hx (y := (⟨"com/example/svratka/svratka/authz/AccessChange", "of", "(ZZ)Lcom/example/svratka/svratka/authz/AccessChange;"⟩ : MethodName)) hown (mvT hZ (hw _ (List.mem_of_getElem? (i := 19) rfl))) (mvT hZ (hw _ (List.mem_of_getElem? (i := 20) rfl))) (mvT hZ (hw _ (List.mem_of_getElem? (i := 1) rfl))) (mvT hZ (hw _ (List.mem_of_getElem? (i := 21) rfl))) (by decide) (backOf (W := 0) (rm7 l Z a0 hw [] w_MIXED h0 n0 Z0 S_w_MIXED) hZ (hw _ (List.mem_of_getElem? (i := 21) rfl)) (hw _ (List.mem_of_getElem? (i := 1) rfl)) (by decide) (by decide)) (g := (mkF m 111 #[.val (.int x0), .val (.int (2 : Int32)), .val (.ref w_NARROWS), .val (.int (1 : Int32)), .val (.int (1 : Int32)), .val (.int (1 : Int32)), .val (.int (1 : Int32))] [(.int (1 : Int32)), (.int (1 : Int32))])) rfl (by rw [hml]; rfl) (argsL := [(.int (1 : Int32)), (.int (1 : Int32))]) (rest := []) (lenOf pd_1 rfl) rfl (by show 2 * 0 + _ ≤ _; exact Nat.le_of_eq rfl) (hb hby at_111) (fun _ _ => ⟨rfl, e67, (by decide : 0 + 0 ≤ _), (by decide : 0 + 0 ≤ _)⟩)
        dsimp only [Pt.U, Pt.locs, Pt.cells, Pt.slots] at X83 l83 y83 z83 st83 hQ83
        subst l83 y83 z83
        obtain ⟨rfl, N83q, e83⟩ := hQ83
        have N83 := Fr.app N67 N83q
        obtain ⟨cq84, kq84, q84a, q84b, q84c⟩ := isOf hZ e83 E_w_MIXED
        obtain ⟨_, _, ⟨T84, L84, k84, n84⟩, -, X84, ⟨Lc84, hQ84, l84, y84, z84⟩, st84⟩ := X83.virtualBack hx (y := (⟨"com/example/svratka/svratka/authz/AccessChange", "narrows", "()Z"⟩ : MethodName)) (z := (⟨"com/example/svratka/svratka/authz/AccessChange", "narrows", "()Z"⟩ : MethodName)) hown (mvT hZ (hw _ (List.mem_of_getElem? (i := 3) rfl))) (mvT hZ (hw _ (List.mem_of_getElem? (i := 4) rfl))) (notFace_of_selects (args := #[]) (mvT hZ (hw _ (List.mem_of_getElem? (i := 6) rfl)))) (mvT hZ (hw _ (List.mem_of_getElem? (i := 6) rfl))) (mvT hZ (hw _ (List.mem_of_getElem? (i := 5) rfl))) (by decide) (backOf (W := 0) (rm8 l Z a0 hw [] w_MIXED w_NARROWS h0 n0 Z0 S_w_NARROWS ((Fld.ne F_ordinal_w_MIXED F_ordinal_w_NARROWS (by decide))) S_w_MIXED) hZ (hw _ (List.mem_of_getElem? (i := 7) rfl)) (hw _ (List.mem_of_getElem? (i := 1) rfl)) (by decide) (by decide)) q84a q84c (g := (mkF m 114 #[.val (.int x0), .val (.int (2 : Int32)), .val (.ref w_NARROWS), .val (.int (1 : Int32)), .val (.int (1 : Int32)), .val (.int (1 : Int32)), .val (.int (1 : Int32))] [(.ref w_MIXED)])) rfl (by rw [hml]; rfl) (Steps.refl _) (argsL := []) (rest := []) (lenOf pd_0 rfl) rfl (by show 2 * 0 + _ ≤ _; exact Nat.le_of_eq rfl) (hb hby at_114) (fun _ _ => ⟨rfl, e83, (by decide : 0 + 0 ≤ _), (by decide : 0 + 0 ≤ _)⟩)
        dsimp only [Pt.U, Pt.locs, Pt.cells, Pt.slots] at X84 l84 y84 z84 st84 hQ84
        subst l84 y84 z84
        obtain ⟨rfl, N84q, e84⟩ := hQ84
        have N84 := Fr.app N83 N84q
        have pre85 : ∀ t, Steps p.tables e below (T84.setTop (mkF m 127 #[.val (.int x0), .val (.int (2 : Int32)), .val (.ref w_NARROWS), .val (.int (1 : Int32)), .val (.int (1 : Int32)), .val (.int (1 : Int32)), .val (.int (1 : Int32))] [(.int (1 : Int32))])) t → Steps p.tables e below (s₁.setTop (entryFrame m #[(.int x0)] maxLocals)) t := fun t kk => pre78 t (by
          show Steps p.tables e below (T67.setTop (mkF m 97 #[.val (.int x0), .val (.int (2 : Int32)), .val (.ref w_NARROWS), .val (.int (1 : Int32)), .val (.int (1 : Int32)), .val (.int (1 : Int32)), .unset] [(.int (x0 &&& (8 : Int32)))])) _
          refine XS.ifNo X67.here hx rfl (hb hby at_97) rfl ((if0 _ _).trans (feq (hc79 : ¬ ((x0 &&& (8 : Int32)) = (0 : Int32)))).1) ?_
          show Steps p.tables e below (T67.setTop (mkF m 100 #[.val (.int x0), .val (.int (2 : Int32)), .val (.ref w_NARROWS), .val (.int (1 : Int32)), .val (.int (1 : Int32)), .val (.int (1 : Int32)), .unset] [])) _
          refine XS.iconst X67.here hx rfl (hb hby at_100) ?_
          show Steps p.tables e below (T67.setTop (mkF m 101 #[.val (.int x0), .val (.int (2 : Int32)), .val (.ref w_NARROWS), .val (.int (1 : Int32)), .val (.int (1 : Int32)), .val (.int (1 : Int32)), .unset] [(.int (1 : Int32))])) _
          refine XS.goto X67.here hx rfl (pc0 := 101) (pc' := 105) rfl (hb hby at_101) (by decide) (by decide) ?_
          show Steps p.tables e below (T67.setTop (mkF m 105 #[.val (.int x0), .val (.int (2 : Int32)), .val (.ref w_NARROWS), .val (.int (1 : Int32)), .val (.int (1 : Int32)), .val (.int (1 : Int32)), .unset] [(.int (1 : Int32))])) _
          refine XS.istore X67.here hx rfl (hb hby at_105) rfl (l' := #[.val (.int x0), .val (.int (2 : Int32)), .val (.ref w_NARROWS), .val (.int (1 : Int32)), .val (.int (1 : Int32)), .val (.int (1 : Int32)), .val (.int (1 : Int32))]) rfl ?_
          show Steps p.tables e below (T67.setTop (mkF m 107 #[.val (.int x0), .val (.int (2 : Int32)), .val (.ref w_NARROWS), .val (.int (1 : Int32)), .val (.int (1 : Int32)), .val (.int (1 : Int32)), .val (.int (1 : Int32))] [])) _
          refine XS.iload X67.here hx rfl (hb hby at_107) rfl ?_
          show Steps p.tables e below (T67.setTop (mkF m 109 #[.val (.int x0), .val (.int (2 : Int32)), .val (.ref w_NARROWS), .val (.int (1 : Int32)), .val (.int (1 : Int32)), .val (.int (1 : Int32)), .val (.int (1 : Int32))] [(.int (1 : Int32))])) _
          refine XS.iload X67.here hx rfl (hb hby at_109) rfl ?_
          show Steps p.tables e below (T67.setTop (mkF m 111 #[.val (.int x0), .val (.int (2 : Int32)), .val (.ref w_NARROWS), .val (.int (1 : Int32)), .val (.int (1 : Int32)), .val (.int (1 : Int32)), .val (.int (1 : Int32))] [(.int (1 : Int32)), (.int (1 : Int32))])) _
          refine st83 _ ?_
          show Steps p.tables e below (T83.setTop (mkF m 114 #[.val (.int x0), .val (.int (2 : Int32)), .val (.ref w_NARROWS), .val (.int (1 : Int32)), .val (.int (1 : Int32)), .val (.int (1 : Int32)), .val (.int (1 : Int32))] [(.ref w_MIXED)])) _
          refine st84.trans ?_
          show Steps p.tables e below (T84.setTop (mkF m 117 #[.val (.int x0), .val (.int (2 : Int32)), .val (.ref w_NARROWS), .val (.int (1 : Int32)), .val (.int (1 : Int32)), .val (.int (1 : Int32)), .val (.int (1 : Int32))] [(.int (1 : Int32))])) _
          refine XS.iload X84.here hx rfl (hb hby at_117) rfl ?_
          show Steps p.tables e below (T84.setTop (mkF m 119 #[.val (.int x0), .val (.int (2 : Int32)), .val (.ref w_NARROWS), .val (.int (1 : Int32)), .val (.int (1 : Int32)), .val (.int (1 : Int32)), .val (.int (1 : Int32))] [(.int (1 : Int32)), (.int (1 : Int32))])) _
          refine XS.icmpNo X84.here hx rfl (hb hby at_119) rfl (teq ((by decide) : (1 : Int32) = (1 : Int32))).2 ?_
          show Steps p.tables e below (T84.setTop (mkF m 122 #[.val (.int x0), .val (.int (2 : Int32)), .val (.ref w_NARROWS), .val (.int (1 : Int32)), .val (.int (1 : Int32)), .val (.int (1 : Int32)), .val (.int (1 : Int32))] [])) _
          refine XS.iconst X84.here hx rfl (hb hby at_122) ?_
          show Steps p.tables e below (T84.setTop (mkF m 123 #[.val (.int x0), .val (.int (2 : Int32)), .val (.ref w_NARROWS), .val (.int (1 : Int32)), .val (.int (1 : Int32)), .val (.int (1 : Int32)), .val (.int (1 : Int32))] [(.int (1 : Int32))])) _
          refine XS.goto X84.here hx rfl (pc0 := 123) (pc' := 127) rfl (hb hby at_123) (by decide) (by decide) ?_
          exact kk)
        obtain ⟨fs, hr, hrun, hended, hW, hsame⟩ := X84.leave (v := some (.int (1 : Int32))) (fun h => by rw [Bd.returns] at h; cases h)
        refine ⟨_, _, pre85 _ ?_, hrun, hended, _, _, rfl, ?_, ⟨_, rfl⟩, hW, hsame.mono (by decide) (by decide)⟩
        · exact retN X84 hx (t := .boolean) Bd.returns (by simp) (hb hby at_127) hr
        · exact ⟨rfl, N84⟩
  ·
    have pre86 := pre15
    rw [hv16] at pre86
    obtain ⟨T87, X87, e87, st87⟩ := getS2 X0 hx hZ hown (host := "") (Or.inl (hw _ (List.mem_of_getElem? (i := 23) rfl))) Via.refl e0 S_w_MIXED (g := (mkF m 45 #[.val (.int x0), .val (.int (3 : Int32)), .unset, .unset, .unset, .unset, .unset] [])) rfl (hb hby at_45)
    obtain ⟨cq88, kq88, q88a, q88b, q88c⟩ := isOf hZ e87 E_w_MIXED
    obtain ⟨_, _, ⟨T88, L88, k88, n88⟩, -, X88, ⟨Lc88, hQ88, l88, y88, z88⟩, st88⟩ := X87.virtualBack hx (y := (⟨"com/example/svratka/svratka/authz/AccessChange", "narrows", "()Z"⟩ : MethodName)) (z := (⟨"com/example/svratka/svratka/authz/AccessChange", "narrows", "()Z"⟩ : MethodName)) hown (mvT hZ (hw _ (List.mem_of_getElem? (i := 3) rfl))) (mvT hZ (hw _ (List.mem_of_getElem? (i := 4) rfl))) (notFace_of_selects (args := #[]) (mvT hZ (hw _ (List.mem_of_getElem? (i := 6) rfl)))) (mvT hZ (hw _ (List.mem_of_getElem? (i := 6) rfl))) (mvT hZ (hw _ (List.mem_of_getElem? (i := 5) rfl))) (by decide) (backOf (W := 0) (rm8 l Z a0 hw [] w_MIXED w_NARROWS h0 n0 Z0 S_w_NARROWS ((Fld.ne F_ordinal_w_MIXED F_ordinal_w_NARROWS (by decide))) S_w_MIXED) hZ (hw _ (List.mem_of_getElem? (i := 7) rfl)) (hw _ (List.mem_of_getElem? (i := 1) rfl)) (by decide) (by decide)) q88a q88c (g := (mkF m 52 #[.val (.int x0), .val (.int (3 : Int32)), .val (.ref w_MIXED), .val (.int (1 : Int32)), .unset, .unset, .unset] [(.ref w_MIXED)])) rfl (by rw [hml]; rfl) (Steps.refl _) (argsL := []) (rest := []) (lenOf pd_0 rfl) rfl (by show 2 * 0 + _ ≤ _; exact Nat.le_of_eq rfl) (hb hby at_52) (fun _ _ => ⟨rfl, e87, (by decide : 0 + 0 ≤ _), (by decide : 0 + 0 ≤ _)⟩)
    dsimp only [Pt.U, Pt.locs, Pt.cells, Pt.slots] at X88 l88 y88 z88 st88 hQ88
    subst l88 y88 z88
    obtain ⟨rfl, N88q, e88⟩ := hQ88
    have N88 := Fr.app N0 N88q
    obtain ⟨cq89, kq89, q89a, q89b, q89c⟩ := isOf hZ e88 E_w_MIXED
    obtain ⟨_, _, ⟨T89, L89, k89, n89⟩, -, X89, ⟨Lc89, hQ89, l89, y89, z89⟩, st89⟩ := X88.virtualBack hx (y := (⟨"com/example/svratka/svratka/authz/AccessChange", "widens", "()Z"⟩ : MethodName)) (z := (⟨"com/example/svratka/svratka/authz/AccessChange", "widens", "()Z"⟩ : MethodName)) hown (mvT hZ (hw _ (List.mem_of_getElem? (i := 12) rfl))) (mvT hZ (hw _ (List.mem_of_getElem? (i := 13) rfl))) (notFace_of_selects (args := #[]) (mvT hZ (hw _ (List.mem_of_getElem? (i := 15) rfl)))) (mvT hZ (hw _ (List.mem_of_getElem? (i := 15) rfl))) (mvT hZ (hw _ (List.mem_of_getElem? (i := 14) rfl))) (by decide) (backOf (W := 0) (rm10 l Z a0 hw [] w_MIXED w_WIDENS h0 n0 Z0 S_w_WIDENS ((Fld.ne F_ordinal_w_MIXED F_ordinal_w_WIDENS (by decide))) S_w_MIXED) hZ (hw _ (List.mem_of_getElem? (i := 16) rfl)) (hw _ (List.mem_of_getElem? (i := 1) rfl)) (by decide) (by decide)) q89a q89c (g := (mkF m 66 #[.val (.int x0), .val (.int (3 : Int32)), .val (.ref w_MIXED), .val (.int (1 : Int32)), .val (.int (1 : Int32)), .unset, .unset] [(.ref w_MIXED)])) rfl (by rw [hml]; rfl) (Steps.refl _) (argsL := []) (rest := []) (lenOf pd_0 rfl) rfl (by show 2 * 0 + _ ≤ _; exact Nat.le_of_eq rfl) (hb hby at_66) (fun _ _ => ⟨rfl, e88, (by decide : 0 + 0 ≤ _), (by decide : 0 + 0 ≤ _)⟩)
    dsimp only [Pt.U, Pt.locs, Pt.cells, Pt.slots] at X89 l89 y89 z89 st89 hQ89
    subst l89 y89 z89
    obtain ⟨rfl, N89q, e89⟩ := hQ89
    have N89 := Fr.app N88 N89q
    obtain ⟨_, _, ⟨T90, L90, k90, n90⟩, -, X90, ⟨Lc90, hQ90, l90, y90, z90⟩, st90⟩ := Jvm.LawKit.callS X89 hx (y := (⟨"com/example/svratka/svratka/authz/AccessChange", "of", "(ZZ)Lcom/example/svratka/svratka/authz/AccessChange;"⟩ : MethodName)) hown (mvT hZ (hw _ (List.mem_of_getElem? (i := 19) rfl))) (mvT hZ (hw _ (List.mem_of_getElem? (i := 20) rfl))) (mvT hZ (hw _ (List.mem_of_getElem? (i := 1) rfl))) (mvT hZ (hw _ (List.mem_of_getElem? (i := 21) rfl))) (by decide) (backOf (W := 0) (rm7 l Z a0 hw [] w_MIXED h0 n0 Z0 S_w_MIXED) hZ (hw _ (List.mem_of_getElem? (i := 21) rfl)) (hw _ (List.mem_of_getElem? (i := 1) rfl)) (by decide) (by decide)) (g := (mkF m 71 #[.val (.int x0), .val (.int (3 : Int32)), .val (.ref w_MIXED), .val (.int (1 : Int32)), .val (.int (1 : Int32)), .unset, .unset] [(.int (1 : Int32)), (.int (1 : Int32))])) rfl (by rw [hml]; rfl) (argsL := [(.int (1 : Int32)), (.int (1 : Int32))]) (rest := []) (lenOf pd_1 rfl) rfl (by show 2 * 0 + _ ≤ _; exact Nat.le_of_eq rfl) (hb hby at_71) (fun _ _ => ⟨rfl, e89, (by decide : 0 + 0 ≤ _), (by decide : 0 + 0 ≤ _)⟩)
    dsimp only [Pt.U, Pt.locs, Pt.cells, Pt.slots] at X90 l90 y90 z90 st90 hQ90
    subst l90 y90 z90
    obtain ⟨rfl, N90q, e90⟩ := hQ90
    have N90 := Fr.app N89 N90q
    have pre91 : ∀ t, Steps p.tables e below (T90.setTop (mkF m 83 #[.val (.int x0), .val (.int (3 : Int32)), .val (.ref w_MIXED), .val (.int (1 : Int32)), .val (.int (1 : Int32)), .unset, .unset] [(.int (x0 &&& (4 : Int32)))])) t → Steps p.tables e below (s₁.setTop (entryFrame m #[(.int x0)] maxLocals)) t := fun t kk => pre86 t (by
      show Steps p.tables e below (s₁.setTop (mkF m 3 #[.val (.int x0), .unset, .unset, .unset, .unset, .unset, .unset] [(.int (3 : Int32))])) _
      refine XS.istoreN X0.here hx rfl (hb hby at_3) rfl (l' := #[.val (.int x0), .val (.int (3 : Int32)), .unset, .unset, .unset, .unset, .unset]) rfl ?_
      show Steps p.tables e below (s₁.setTop (mkF m 4 #[.val (.int x0), .val (.int (3 : Int32)), .unset, .unset, .unset, .unset, .unset] [])) _
      refine XS.iloadN X0.here hx rfl (hb hby at_4) rfl ?_
      show Steps p.tables e below (s₁.setTop (mkF m 5 #[.val (.int x0), .val (.int (3 : Int32)), .unset, .unset, .unset, .unset, .unset] [(.int (3 : Int32))])) _
      refine XS.ifYes X0.here hx rfl (pc0 := 5) (pc' := 17) rfl (hb hby at_5) rfl ((if0 _ _).trans (feq ((by decide) : ¬ ((3 : Int32) = (0 : Int32)))).2) (by decide) (by decide) ?_
      show Steps p.tables e below (s₁.setTop (mkF m 17 #[.val (.int x0), .val (.int (3 : Int32)), .unset, .unset, .unset, .unset, .unset] [])) _
      refine XS.iloadN X0.here hx rfl (hb hby at_17) rfl ?_
      show Steps p.tables e below (s₁.setTop (mkF m 18 #[.val (.int x0), .val (.int (3 : Int32)), .unset, .unset, .unset, .unset, .unset] [(.int (3 : Int32))])) _
      refine XS.iconst X0.here hx rfl (hb hby at_18) ?_
      show Steps p.tables e below (s₁.setTop (mkF m 19 #[.val (.int x0), .val (.int (3 : Int32)), .unset, .unset, .unset, .unset, .unset] [(.int (1 : Int32)), (.int (3 : Int32))])) _
      refine XS.icmpYes X0.here hx rfl (pc0 := 19) (pc' := 31) rfl (hb hby at_19) rfl (feq ((by decide) : ¬ ((3 : Int32) = (1 : Int32)))).2 (by decide) (by decide) ?_
      show Steps p.tables e below (s₁.setTop (mkF m 31 #[.val (.int x0), .val (.int (3 : Int32)), .unset, .unset, .unset, .unset, .unset] [])) _
      refine XS.iloadN X0.here hx rfl (hb hby at_31) rfl ?_
      show Steps p.tables e below (s₁.setTop (mkF m 32 #[.val (.int x0), .val (.int (3 : Int32)), .unset, .unset, .unset, .unset, .unset] [(.int (3 : Int32))])) _
      refine XS.iconst X0.here hx rfl (hb hby at_32) ?_
      show Steps p.tables e below (s₁.setTop (mkF m 33 #[.val (.int x0), .val (.int (3 : Int32)), .unset, .unset, .unset, .unset, .unset] [(.int (2 : Int32)), (.int (3 : Int32))])) _
      refine XS.icmpYes X0.here hx rfl (pc0 := 33) (pc' := 45) rfl (hb hby at_33) rfl (feq ((by decide) : ¬ ((3 : Int32) = (2 : Int32)))).2 (by decide) (by decide) ?_
      show Steps p.tables e below (s₁.setTop (mkF m 45 #[.val (.int x0), .val (.int (3 : Int32)), .unset, .unset, .unset, .unset, .unset] [])) _
      refine st87 _ ?_
      show Steps p.tables e below (T87.setTop (mkF m 48 #[.val (.int x0), .val (.int (3 : Int32)), .unset, .unset, .unset, .unset, .unset] [(.ref w_MIXED)])) _
      refine XS.astoreN X87.here hx rfl (hb hby at_48) rfl rfl (l' := #[.val (.int x0), .val (.int (3 : Int32)), .val (.ref w_MIXED), .unset, .unset, .unset, .unset]) rfl ?_
      show Steps p.tables e below (T87.setTop (mkF m 49 #[.val (.int x0), .val (.int (3 : Int32)), .val (.ref w_MIXED), .unset, .unset, .unset, .unset] [])) _
      refine XS.iconst X87.here hx rfl (hb hby at_49) ?_
      show Steps p.tables e below (T87.setTop (mkF m 50 #[.val (.int x0), .val (.int (3 : Int32)), .val (.ref w_MIXED), .unset, .unset, .unset, .unset] [(.int (1 : Int32))])) _
      refine XS.istoreN X87.here hx rfl (hb hby at_50) rfl (l' := #[.val (.int x0), .val (.int (3 : Int32)), .val (.ref w_MIXED), .val (.int (1 : Int32)), .unset, .unset, .unset]) rfl ?_
      show Steps p.tables e below (T87.setTop (mkF m 51 #[.val (.int x0), .val (.int (3 : Int32)), .val (.ref w_MIXED), .val (.int (1 : Int32)), .unset, .unset, .unset] [])) _
      refine XS.aloadN X87.here hx rfl (hb hby at_51) rfl rfl ?_
      show Steps p.tables e below (T87.setTop (mkF m 52 #[.val (.int x0), .val (.int (3 : Int32)), .val (.ref w_MIXED), .val (.int (1 : Int32)), .unset, .unset, .unset] [(.ref w_MIXED)])) _
      refine st88.trans ?_
      show Steps p.tables e below (T88.setTop (mkF m 55 #[.val (.int x0), .val (.int (3 : Int32)), .val (.ref w_MIXED), .val (.int (1 : Int32)), .unset, .unset, .unset] [(.int (1 : Int32))])) _
      refine XS.istore X88.here hx rfl (hb hby at_55) rfl (l' := #[.val (.int x0), .val (.int (3 : Int32)), .val (.ref w_MIXED), .val (.int (1 : Int32)), .val (.int (1 : Int32)), .unset, .unset]) rfl ?_
      show Steps p.tables e below (T88.setTop (mkF m 57 #[.val (.int x0), .val (.int (3 : Int32)), .val (.ref w_MIXED), .val (.int (1 : Int32)), .val (.int (1 : Int32)), .unset, .unset] [])) _
      refine XS.iload X88.here hx rfl (hb hby at_57) rfl ?_
      show Steps p.tables e below (T88.setTop (mkF m 59 #[.val (.int x0), .val (.int (3 : Int32)), .val (.ref w_MIXED), .val (.int (1 : Int32)), .val (.int (1 : Int32)), .unset, .unset] [(.int (1 : Int32))])) _
      refine XS.iloadN X88.here hx rfl (hb hby at_59) rfl ?_
      show Steps p.tables e below (T88.setTop (mkF m 60 #[.val (.int x0), .val (.int (3 : Int32)), .val (.ref w_MIXED), .val (.int (1 : Int32)), .val (.int (1 : Int32)), .unset, .unset] [(.int (1 : Int32)), (.int (1 : Int32))])) _
      refine XS.icmpYes X88.here hx rfl (pc0 := 60) (pc' := 65) rfl (hb hby at_60) rfl (teq ((by decide) : (1 : Int32) = (1 : Int32))).1 (by decide) (by decide) ?_
      show Steps p.tables e below (T88.setTop (mkF m 65 #[.val (.int x0), .val (.int (3 : Int32)), .val (.ref w_MIXED), .val (.int (1 : Int32)), .val (.int (1 : Int32)), .unset, .unset] [])) _
      refine XS.aloadN X88.here hx rfl (hb hby at_65) rfl rfl ?_
      show Steps p.tables e below (T88.setTop (mkF m 66 #[.val (.int x0), .val (.int (3 : Int32)), .val (.ref w_MIXED), .val (.int (1 : Int32)), .val (.int (1 : Int32)), .unset, .unset] [(.ref w_MIXED)])) _
      refine st89.trans ?_
      show Steps p.tables e below (T89.setTop (mkF m 69 #[.val (.int x0), .val (.int (3 : Int32)), .val (.ref w_MIXED), .val (.int (1 : Int32)), .val (.int (1 : Int32)), .unset, .unset] [(.int (1 : Int32))])) _
      refine XS.iload X89.here hx rfl (hb hby at_69) rfl ?_
      show Steps p.tables e below (T89.setTop (mkF m 71 #[.val (.int x0), .val (.int (3 : Int32)), .val (.ref w_MIXED), .val (.int (1 : Int32)), .val (.int (1 : Int32)), .unset, .unset] [(.int (1 : Int32)), (.int (1 : Int32))])) _
      refine st90 _ ?_
      show Steps p.tables e below (T90.setTop (mkF m 74 #[.val (.int x0), .val (.int (3 : Int32)), .val (.ref w_MIXED), .val (.int (1 : Int32)), .val (.int (1 : Int32)), .unset, .unset] [(.ref w_MIXED)])) _
      refine XS.aloadN X90.here hx rfl (hb hby at_74) rfl rfl ?_
      show Steps p.tables e below (T90.setTop (mkF m 75 #[.val (.int x0), .val (.int (3 : Int32)), .val (.ref w_MIXED), .val (.int (1 : Int32)), .val (.int (1 : Int32)), .unset, .unset] [(.ref w_MIXED), (.ref w_MIXED)])) _
      refine Jvm.RoadKit.acmp (g := (mkF m 75 #[.val (.int x0), .val (.int (3 : Int32)), .val (.ref w_MIXED), .val (.int (1 : Int32)), .val (.int (1 : Int32)), .unset, .unset] [(.ref w_MIXED), (.ref w_MIXED)])) X90 hx rfl rfl rfl (pc0 := 75) (pc' := 80) (same := true) rfl (hb hby at_75) rfl (decide_eq_true rfl) (by decide) (by decide) ?_
      show Steps p.tables e below (T90.setTop (mkF m 80 #[.val (.int x0), .val (.int (3 : Int32)), .val (.ref w_MIXED), .val (.int (1 : Int32)), .val (.int (1 : Int32)), .unset, .unset] [])) _
      refine XS.iloadN X90.here hx rfl (hb hby at_80) rfl ?_
      show Steps p.tables e below (T90.setTop (mkF m 81 #[.val (.int x0), .val (.int (3 : Int32)), .val (.ref w_MIXED), .val (.int (1 : Int32)), .val (.int (1 : Int32)), .unset, .unset] [(.int x0)])) _
      refine XS.iconst X90.here hx rfl (hb hby at_81) ?_
      show Steps p.tables e below (T90.setTop (mkF m 82 #[.val (.int x0), .val (.int (3 : Int32)), .val (.ref w_MIXED), .val (.int (1 : Int32)), .val (.int (1 : Int32)), .unset, .unset] [(.int (4 : Int32)), (.int x0)])) _
      refine XS.iand X90.here hx rfl (hb hby at_82) rfl ?_
      exact kk)
    by_cases hc92 : (x0 &&& (4 : Int32)) = (0 : Int32)
    ·
      have pre93 : ∀ t, Steps p.tables e below (T90.setTop (mkF m 97 #[.val (.int x0), .val (.int (3 : Int32)), .val (.ref w_MIXED), .val (.int (1 : Int32)), .val (.int (1 : Int32)), .val (.int (0 : Int32)), .unset] [(.int (x0 &&& (8 : Int32)))])) t → Steps p.tables e below (s₁.setTop (entryFrame m #[(.int x0)] maxLocals)) t := fun t kk => pre91 t (by
        show Steps p.tables e below (T90.setTop (mkF m 83 #[.val (.int x0), .val (.int (3 : Int32)), .val (.ref w_MIXED), .val (.int (1 : Int32)), .val (.int (1 : Int32)), .unset, .unset] [(.int (x0 &&& (4 : Int32)))])) _
        refine XS.ifYes X90.here hx rfl (pc0 := 83) (pc' := 90) rfl (hb hby at_83) rfl ((if0 _ _).trans (teq (hc92 : (x0 &&& (4 : Int32)) = (0 : Int32))).1) (by decide) (by decide) ?_
        show Steps p.tables e below (T90.setTop (mkF m 90 #[.val (.int x0), .val (.int (3 : Int32)), .val (.ref w_MIXED), .val (.int (1 : Int32)), .val (.int (1 : Int32)), .unset, .unset] [])) _
        refine XS.iconst X90.here hx rfl (hb hby at_90) ?_
        show Steps p.tables e below (T90.setTop (mkF m 91 #[.val (.int x0), .val (.int (3 : Int32)), .val (.ref w_MIXED), .val (.int (1 : Int32)), .val (.int (1 : Int32)), .unset, .unset] [(.int (0 : Int32))])) _
        refine XS.istore X90.here hx rfl (hb hby at_91) rfl (l' := #[.val (.int x0), .val (.int (3 : Int32)), .val (.ref w_MIXED), .val (.int (1 : Int32)), .val (.int (1 : Int32)), .val (.int (0 : Int32)), .unset]) rfl ?_
        show Steps p.tables e below (T90.setTop (mkF m 93 #[.val (.int x0), .val (.int (3 : Int32)), .val (.ref w_MIXED), .val (.int (1 : Int32)), .val (.int (1 : Int32)), .val (.int (0 : Int32)), .unset] [])) _
        refine XS.iloadN X90.here hx rfl (hb hby at_93) rfl ?_
        show Steps p.tables e below (T90.setTop (mkF m 94 #[.val (.int x0), .val (.int (3 : Int32)), .val (.ref w_MIXED), .val (.int (1 : Int32)), .val (.int (1 : Int32)), .val (.int (0 : Int32)), .unset] [(.int x0)])) _
        refine XS.bipush X90.here hx rfl (hb hby at_94) ?_
        show Steps p.tables e below (T90.setTop (mkF m 96 #[.val (.int x0), .val (.int (3 : Int32)), .val (.ref w_MIXED), .val (.int (1 : Int32)), .val (.int (1 : Int32)), .val (.int (0 : Int32)), .unset] [(.int (8 : Int32)), (.int x0)])) _
        refine XS.iand X90.here hx rfl (hb hby at_96) rfl ?_
        exact kk)
      by_cases hc94 : (x0 &&& (8 : Int32)) = (0 : Int32)
      ·
        obtain ⟨_, _, ⟨T95, L95, k95, n95⟩, -, X95, ⟨Lc95, hQ95, l95, y95, z95⟩, st95⟩ := Jvm.LawKit.callS X90 hx (y := (⟨"com/example/svratka/svratka/authz/AccessChange", "of", "(ZZ)Lcom/example/svratka/svratka/authz/AccessChange;"⟩ : MethodName)) hown (mvT hZ (hw _ (List.mem_of_getElem? (i := 19) rfl))) (mvT hZ (hw _ (List.mem_of_getElem? (i := 20) rfl))) (mvT hZ (hw _ (List.mem_of_getElem? (i := 1) rfl))) (mvT hZ (hw _ (List.mem_of_getElem? (i := 21) rfl))) (by decide) (backOf (W := 0) (rm3 l Z a0 hw [] w_NONE h0 n0 Z0 S_w_NONE) hZ (hw _ (List.mem_of_getElem? (i := 21) rfl)) (hw _ (List.mem_of_getElem? (i := 1) rfl)) (by decide) (by decide)) (g := (mkF m 111 #[.val (.int x0), .val (.int (3 : Int32)), .val (.ref w_MIXED), .val (.int (1 : Int32)), .val (.int (1 : Int32)), .val (.int (0 : Int32)), .val (.int (0 : Int32))] [(.int (0 : Int32)), (.int (0 : Int32))])) rfl (by rw [hml]; rfl) (argsL := [(.int (0 : Int32)), (.int (0 : Int32))]) (rest := []) (lenOf pd_1 rfl) rfl (by show 2 * 0 + _ ≤ _; exact Nat.le_of_eq rfl) (hb hby at_111) (fun _ _ => ⟨rfl, e90, (by decide : 0 + 0 ≤ _), (by decide : 0 + 0 ≤ _)⟩)
        dsimp only [Pt.U, Pt.locs, Pt.cells, Pt.slots] at X95 l95 y95 z95 st95 hQ95
        subst l95 y95 z95
        obtain ⟨rfl, N95q, e95⟩ := hQ95
        have N95 := Fr.app N90 N95q
        obtain ⟨cq96, kq96, q96a, q96b, q96c⟩ := isOf hZ e95 E_w_NONE
        obtain ⟨_, _, ⟨T96, L96, k96, n96⟩, -, X96, ⟨Lc96, hQ96, l96, y96, z96⟩, st96⟩ := X95.virtualBack hx (y := (⟨"com/example/svratka/svratka/authz/AccessChange", "narrows", "()Z"⟩ : MethodName)) (z := (⟨"com/example/svratka/svratka/authz/AccessChange", "narrows", "()Z"⟩ : MethodName)) hown (mvT hZ (hw _ (List.mem_of_getElem? (i := 3) rfl))) (mvT hZ (hw _ (List.mem_of_getElem? (i := 4) rfl))) (notFace_of_selects (args := #[]) (mvT hZ (hw _ (List.mem_of_getElem? (i := 6) rfl)))) (mvT hZ (hw _ (List.mem_of_getElem? (i := 6) rfl))) (mvT hZ (hw _ (List.mem_of_getElem? (i := 5) rfl))) (by decide) (backOf (W := 0) (rm1 l Z a0 hw [] w_NONE w_NARROWS w_MIXED h0 n0 Z0 S_w_NARROWS ((Fld.ne F_ordinal_w_NONE F_ordinal_w_NARROWS (by decide))) S_w_MIXED ((Fld.ne F_ordinal_w_NONE F_ordinal_w_MIXED (by decide)))) hZ (hw _ (List.mem_of_getElem? (i := 7) rfl)) (hw _ (List.mem_of_getElem? (i := 1) rfl)) (by decide) (by decide)) q96a q96c (g := (mkF m 114 #[.val (.int x0), .val (.int (3 : Int32)), .val (.ref w_MIXED), .val (.int (1 : Int32)), .val (.int (1 : Int32)), .val (.int (0 : Int32)), .val (.int (0 : Int32))] [(.ref w_NONE)])) rfl (by rw [hml]; rfl) (Steps.refl _) (argsL := []) (rest := []) (lenOf pd_0 rfl) rfl (by show 2 * 0 + _ ≤ _; exact Nat.le_of_eq rfl) (hb hby at_114) (fun _ _ => ⟨rfl, e95, (by decide : 0 + 0 ≤ _), (by decide : 0 + 0 ≤ _)⟩)
        dsimp only [Pt.U, Pt.locs, Pt.cells, Pt.slots] at X96 l96 y96 z96 st96 hQ96
        subst l96 y96 z96
        obtain ⟨rfl, N96q, e96⟩ := hQ96
        have N96 := Fr.app N95 N96q
        have pre97 : ∀ t, Steps p.tables e below (T96.setTop (mkF m 127 #[.val (.int x0), .val (.int (3 : Int32)), .val (.ref w_MIXED), .val (.int (1 : Int32)), .val (.int (1 : Int32)), .val (.int (0 : Int32)), .val (.int (0 : Int32))] [(.int (1 : Int32))])) t → Steps p.tables e below (s₁.setTop (entryFrame m #[(.int x0)] maxLocals)) t := fun t kk => pre93 t (by
          show Steps p.tables e below (T90.setTop (mkF m 97 #[.val (.int x0), .val (.int (3 : Int32)), .val (.ref w_MIXED), .val (.int (1 : Int32)), .val (.int (1 : Int32)), .val (.int (0 : Int32)), .unset] [(.int (x0 &&& (8 : Int32)))])) _
          refine XS.ifYes X90.here hx rfl (pc0 := 97) (pc' := 104) rfl (hb hby at_97) rfl ((if0 _ _).trans (teq (hc94 : (x0 &&& (8 : Int32)) = (0 : Int32))).1) (by decide) (by decide) ?_
          show Steps p.tables e below (T90.setTop (mkF m 104 #[.val (.int x0), .val (.int (3 : Int32)), .val (.ref w_MIXED), .val (.int (1 : Int32)), .val (.int (1 : Int32)), .val (.int (0 : Int32)), .unset] [])) _
          refine XS.iconst X90.here hx rfl (hb hby at_104) ?_
          show Steps p.tables e below (T90.setTop (mkF m 105 #[.val (.int x0), .val (.int (3 : Int32)), .val (.ref w_MIXED), .val (.int (1 : Int32)), .val (.int (1 : Int32)), .val (.int (0 : Int32)), .unset] [(.int (0 : Int32))])) _
          refine XS.istore X90.here hx rfl (hb hby at_105) rfl (l' := #[.val (.int x0), .val (.int (3 : Int32)), .val (.ref w_MIXED), .val (.int (1 : Int32)), .val (.int (1 : Int32)), .val (.int (0 : Int32)), .val (.int (0 : Int32))]) rfl ?_
          show Steps p.tables e below (T90.setTop (mkF m 107 #[.val (.int x0), .val (.int (3 : Int32)), .val (.ref w_MIXED), .val (.int (1 : Int32)), .val (.int (1 : Int32)), .val (.int (0 : Int32)), .val (.int (0 : Int32))] [])) _
          refine XS.iload X90.here hx rfl (hb hby at_107) rfl ?_
          show Steps p.tables e below (T90.setTop (mkF m 109 #[.val (.int x0), .val (.int (3 : Int32)), .val (.ref w_MIXED), .val (.int (1 : Int32)), .val (.int (1 : Int32)), .val (.int (0 : Int32)), .val (.int (0 : Int32))] [(.int (0 : Int32))])) _
          refine XS.iload X90.here hx rfl (hb hby at_109) rfl ?_
          show Steps p.tables e below (T90.setTop (mkF m 111 #[.val (.int x0), .val (.int (3 : Int32)), .val (.ref w_MIXED), .val (.int (1 : Int32)), .val (.int (1 : Int32)), .val (.int (0 : Int32)), .val (.int (0 : Int32))] [(.int (0 : Int32)), (.int (0 : Int32))])) _
          refine st95 _ ?_
          show Steps p.tables e below (T95.setTop (mkF m 114 #[.val (.int x0), .val (.int (3 : Int32)), .val (.ref w_MIXED), .val (.int (1 : Int32)), .val (.int (1 : Int32)), .val (.int (0 : Int32)), .val (.int (0 : Int32))] [(.ref w_NONE)])) _
          refine st96.trans ?_
          show Steps p.tables e below (T96.setTop (mkF m 117 #[.val (.int x0), .val (.int (3 : Int32)), .val (.ref w_MIXED), .val (.int (1 : Int32)), .val (.int (1 : Int32)), .val (.int (0 : Int32)), .val (.int (0 : Int32))] [(.int (0 : Int32))])) _
          refine XS.iload X96.here hx rfl (hb hby at_117) rfl ?_
          show Steps p.tables e below (T96.setTop (mkF m 119 #[.val (.int x0), .val (.int (3 : Int32)), .val (.ref w_MIXED), .val (.int (1 : Int32)), .val (.int (1 : Int32)), .val (.int (0 : Int32)), .val (.int (0 : Int32))] [(.int (0 : Int32)), (.int (0 : Int32))])) _
          refine XS.icmpNo X96.here hx rfl (hb hby at_119) rfl (teq ((by decide) : (0 : Int32) = (0 : Int32))).2 ?_
          show Steps p.tables e below (T96.setTop (mkF m 122 #[.val (.int x0), .val (.int (3 : Int32)), .val (.ref w_MIXED), .val (.int (1 : Int32)), .val (.int (1 : Int32)), .val (.int (0 : Int32)), .val (.int (0 : Int32))] [])) _
          refine XS.iconst X96.here hx rfl (hb hby at_122) ?_
          show Steps p.tables e below (T96.setTop (mkF m 123 #[.val (.int x0), .val (.int (3 : Int32)), .val (.ref w_MIXED), .val (.int (1 : Int32)), .val (.int (1 : Int32)), .val (.int (0 : Int32)), .val (.int (0 : Int32))] [(.int (1 : Int32))])) _
          refine XS.goto X96.here hx rfl (pc0 := 123) (pc' := 127) rfl (hb hby at_123) (by decide) (by decide) ?_
          exact kk)
        obtain ⟨fs, hr, hrun, hended, hW, hsame⟩ := X96.leave (v := some (.int (1 : Int32))) (fun h => by rw [Bd.returns] at h; cases h)
        refine ⟨_, _, pre97 _ ?_, hrun, hended, _, _, rfl, ?_, ⟨_, rfl⟩, hW, hsame.mono (by decide) (by decide)⟩
        · exact retN X96 hx (t := .boolean) Bd.returns (by simp) (hb hby at_127) hr
        · exact ⟨rfl, N96⟩
      ·
        obtain ⟨_, _, ⟨T98, L98, k98, n98⟩, -, X98, ⟨Lc98, hQ98, l98, y98, z98⟩, st98⟩ := Jvm.LawKit.callS X90 hx (y := (⟨"com/example/svratka/svratka/authz/AccessChange", "of", "(ZZ)Lcom/example/svratka/svratka/authz/AccessChange;"⟩ : MethodName)) hown (mvT hZ (hw _ (List.mem_of_getElem? (i := 19) rfl))) (mvT hZ (hw _ (List.mem_of_getElem? (i := 20) rfl))) (mvT hZ (hw _ (List.mem_of_getElem? (i := 1) rfl))) (mvT hZ (hw _ (List.mem_of_getElem? (i := 21) rfl))) (by decide) (backOf (W := 0) (rm4 l Z a0 hw [] w_NARROWS h0 n0 Z0 S_w_NARROWS) hZ (hw _ (List.mem_of_getElem? (i := 21) rfl)) (hw _ (List.mem_of_getElem? (i := 1) rfl)) (by decide) (by decide)) (g := (mkF m 111 #[.val (.int x0), .val (.int (3 : Int32)), .val (.ref w_MIXED), .val (.int (1 : Int32)), .val (.int (1 : Int32)), .val (.int (0 : Int32)), .val (.int (1 : Int32))] [(.int (1 : Int32)), (.int (0 : Int32))])) rfl (by rw [hml]; rfl) (argsL := [(.int (0 : Int32)), (.int (1 : Int32))]) (rest := []) (lenOf pd_1 rfl) rfl (by show 2 * 0 + _ ≤ _; exact Nat.le_of_eq rfl) (hb hby at_111) (fun _ _ => ⟨rfl, e90, (by decide : 0 + 0 ≤ _), (by decide : 0 + 0 ≤ _)⟩)
        dsimp only [Pt.U, Pt.locs, Pt.cells, Pt.slots] at X98 l98 y98 z98 st98 hQ98
        subst l98 y98 z98
        obtain ⟨rfl, N98q, e98⟩ := hQ98
        have N98 := Fr.app N90 N98q
        obtain ⟨cq99, kq99, q99a, q99b, q99c⟩ := isOf hZ e98 E_w_NARROWS
        obtain ⟨_, _, ⟨T99, L99, k99, n99⟩, -, X99, ⟨Lc99, hQ99, l99, y99, z99⟩, st99⟩ := X98.virtualBack hx (y := (⟨"com/example/svratka/svratka/authz/AccessChange", "narrows", "()Z"⟩ : MethodName)) (z := (⟨"com/example/svratka/svratka/authz/AccessChange", "narrows", "()Z"⟩ : MethodName)) hown (mvT hZ (hw _ (List.mem_of_getElem? (i := 3) rfl))) (mvT hZ (hw _ (List.mem_of_getElem? (i := 4) rfl))) (notFace_of_selects (args := #[]) (mvT hZ (hw _ (List.mem_of_getElem? (i := 6) rfl)))) (mvT hZ (hw _ (List.mem_of_getElem? (i := 6) rfl))) (mvT hZ (hw _ (List.mem_of_getElem? (i := 5) rfl))) (by decide) (backOf (W := 0) (rm5 l Z a0 hw [] w_NARROWS h0 n0 Z0 S_w_NARROWS) hZ (hw _ (List.mem_of_getElem? (i := 7) rfl)) (hw _ (List.mem_of_getElem? (i := 1) rfl)) (by decide) (by decide)) q99a q99c (g := (mkF m 114 #[.val (.int x0), .val (.int (3 : Int32)), .val (.ref w_MIXED), .val (.int (1 : Int32)), .val (.int (1 : Int32)), .val (.int (0 : Int32)), .val (.int (1 : Int32))] [(.ref w_NARROWS)])) rfl (by rw [hml]; rfl) (Steps.refl _) (argsL := []) (rest := []) (lenOf pd_0 rfl) rfl (by show 2 * 0 + _ ≤ _; exact Nat.le_of_eq rfl) (hb hby at_114) (fun _ _ => ⟨rfl, e98, (by decide : 0 + 0 ≤ _), (by decide : 0 + 0 ≤ _)⟩)
        dsimp only [Pt.U, Pt.locs, Pt.cells, Pt.slots] at X99 l99 y99 z99 st99 hQ99
        subst l99 y99 z99
        obtain ⟨rfl, N99q, e99⟩ := hQ99
        have N99 := Fr.app N98 N99q
        have pre100 : ∀ t, Steps p.tables e below (T99.setTop (mkF m 127 #[.val (.int x0), .val (.int (3 : Int32)), .val (.ref w_MIXED), .val (.int (1 : Int32)), .val (.int (1 : Int32)), .val (.int (0 : Int32)), .val (.int (1 : Int32))] [(.int (1 : Int32))])) t → Steps p.tables e below (s₁.setTop (entryFrame m #[(.int x0)] maxLocals)) t := fun t kk => pre93 t (by
          show Steps p.tables e below (T90.setTop (mkF m 97 #[.val (.int x0), .val (.int (3 : Int32)), .val (.ref w_MIXED), .val (.int (1 : Int32)), .val (.int (1 : Int32)), .val (.int (0 : Int32)), .unset] [(.int (x0 &&& (8 : Int32)))])) _
          refine XS.ifNo X90.here hx rfl (hb hby at_97) rfl ((if0 _ _).trans (feq (hc94 : ¬ ((x0 &&& (8 : Int32)) = (0 : Int32)))).1) ?_
          show Steps p.tables e below (T90.setTop (mkF m 100 #[.val (.int x0), .val (.int (3 : Int32)), .val (.ref w_MIXED), .val (.int (1 : Int32)), .val (.int (1 : Int32)), .val (.int (0 : Int32)), .unset] [])) _
          refine XS.iconst X90.here hx rfl (hb hby at_100) ?_
          show Steps p.tables e below (T90.setTop (mkF m 101 #[.val (.int x0), .val (.int (3 : Int32)), .val (.ref w_MIXED), .val (.int (1 : Int32)), .val (.int (1 : Int32)), .val (.int (0 : Int32)), .unset] [(.int (1 : Int32))])) _
          refine XS.goto X90.here hx rfl (pc0 := 101) (pc' := 105) rfl (hb hby at_101) (by decide) (by decide) ?_
          show Steps p.tables e below (T90.setTop (mkF m 105 #[.val (.int x0), .val (.int (3 : Int32)), .val (.ref w_MIXED), .val (.int (1 : Int32)), .val (.int (1 : Int32)), .val (.int (0 : Int32)), .unset] [(.int (1 : Int32))])) _
          refine XS.istore X90.here hx rfl (hb hby at_105) rfl (l' := #[.val (.int x0), .val (.int (3 : Int32)), .val (.ref w_MIXED), .val (.int (1 : Int32)), .val (.int (1 : Int32)), .val (.int (0 : Int32)), .val (.int (1 : Int32))]) rfl ?_
          show Steps p.tables e below (T90.setTop (mkF m 107 #[.val (.int x0), .val (.int (3 : Int32)), .val (.ref w_MIXED), .val (.int (1 : Int32)), .val (.int (1 : Int32)), .val (.int (0 : Int32)), .val (.int (1 : Int32))] [])) _
          refine XS.iload X90.here hx rfl (hb hby at_107) rfl ?_
          show Steps p.tables e below (T90.setTop (mkF m 109 #[.val (.int x0), .val (.int (3 : Int32)), .val (.ref w_MIXED), .val (.int (1 : Int32)), .val (.int (1 : Int32)), .val (.int (0 : Int32)), .val (.int (1 : Int32))] [(.int (0 : Int32))])) _
          refine XS.iload X90.here hx rfl (hb hby at_109) rfl ?_
          show Steps p.tables e below (T90.setTop (mkF m 111 #[.val (.int x0), .val (.int (3 : Int32)), .val (.ref w_MIXED), .val (.int (1 : Int32)), .val (.int (1 : Int32)), .val (.int (0 : Int32)), .val (.int (1 : Int32))] [(.int (1 : Int32)), (.int (0 : Int32))])) _
          refine st98 _ ?_
          show Steps p.tables e below (T98.setTop (mkF m 114 #[.val (.int x0), .val (.int (3 : Int32)), .val (.ref w_MIXED), .val (.int (1 : Int32)), .val (.int (1 : Int32)), .val (.int (0 : Int32)), .val (.int (1 : Int32))] [(.ref w_NARROWS)])) _
          refine st99.trans ?_
          show Steps p.tables e below (T99.setTop (mkF m 117 #[.val (.int x0), .val (.int (3 : Int32)), .val (.ref w_MIXED), .val (.int (1 : Int32)), .val (.int (1 : Int32)), .val (.int (0 : Int32)), .val (.int (1 : Int32))] [(.int (1 : Int32))])) _
          refine XS.iload X99.here hx rfl (hb hby at_117) rfl ?_
          show Steps p.tables e below (T99.setTop (mkF m 119 #[.val (.int x0), .val (.int (3 : Int32)), .val (.ref w_MIXED), .val (.int (1 : Int32)), .val (.int (1 : Int32)), .val (.int (0 : Int32)), .val (.int (1 : Int32))] [(.int (1 : Int32)), (.int (1 : Int32))])) _
          refine XS.icmpNo X99.here hx rfl (hb hby at_119) rfl (teq ((by decide) : (1 : Int32) = (1 : Int32))).2 ?_
          show Steps p.tables e below (T99.setTop (mkF m 122 #[.val (.int x0), .val (.int (3 : Int32)), .val (.ref w_MIXED), .val (.int (1 : Int32)), .val (.int (1 : Int32)), .val (.int (0 : Int32)), .val (.int (1 : Int32))] [])) _
          refine XS.iconst X99.here hx rfl (hb hby at_122) ?_
          show Steps p.tables e below (T99.setTop (mkF m 123 #[.val (.int x0), .val (.int (3 : Int32)), .val (.ref w_MIXED), .val (.int (1 : Int32)), .val (.int (1 : Int32)), .val (.int (0 : Int32)), .val (.int (1 : Int32))] [(.int (1 : Int32))])) _
          refine XS.goto X99.here hx rfl (pc0 := 123) (pc' := 127) rfl (hb hby at_123) (by decide) (by decide) ?_
          exact kk)
        obtain ⟨fs, hr, hrun, hended, hW, hsame⟩ := X99.leave (v := some (.int (1 : Int32))) (fun h => by rw [Bd.returns] at h; cases h)
        refine ⟨_, _, pre100 _ ?_, hrun, hended, _, _, rfl, ?_, ⟨_, rfl⟩, hW, hsame.mono (by decide) (by decide)⟩
        · exact retN X99 hx (t := .boolean) Bd.returns (by simp) (hb hby at_127) hr
        · exact ⟨rfl, N99⟩
    ·
      have pre101 : ∀ t, Steps p.tables e below (T90.setTop (mkF m 97 #[.val (.int x0), .val (.int (3 : Int32)), .val (.ref w_MIXED), .val (.int (1 : Int32)), .val (.int (1 : Int32)), .val (.int (1 : Int32)), .unset] [(.int (x0 &&& (8 : Int32)))])) t → Steps p.tables e below (s₁.setTop (entryFrame m #[(.int x0)] maxLocals)) t := fun t kk => pre91 t (by
        show Steps p.tables e below (T90.setTop (mkF m 83 #[.val (.int x0), .val (.int (3 : Int32)), .val (.ref w_MIXED), .val (.int (1 : Int32)), .val (.int (1 : Int32)), .unset, .unset] [(.int (x0 &&& (4 : Int32)))])) _
        refine XS.ifNo X90.here hx rfl (hb hby at_83) rfl ((if0 _ _).trans (feq (hc92 : ¬ ((x0 &&& (4 : Int32)) = (0 : Int32)))).1) ?_
        show Steps p.tables e below (T90.setTop (mkF m 86 #[.val (.int x0), .val (.int (3 : Int32)), .val (.ref w_MIXED), .val (.int (1 : Int32)), .val (.int (1 : Int32)), .unset, .unset] [])) _
        refine XS.iconst X90.here hx rfl (hb hby at_86) ?_
        show Steps p.tables e below (T90.setTop (mkF m 87 #[.val (.int x0), .val (.int (3 : Int32)), .val (.ref w_MIXED), .val (.int (1 : Int32)), .val (.int (1 : Int32)), .unset, .unset] [(.int (1 : Int32))])) _
        refine XS.goto X90.here hx rfl (pc0 := 87) (pc' := 91) rfl (hb hby at_87) (by decide) (by decide) ?_
        show Steps p.tables e below (T90.setTop (mkF m 91 #[.val (.int x0), .val (.int (3 : Int32)), .val (.ref w_MIXED), .val (.int (1 : Int32)), .val (.int (1 : Int32)), .unset, .unset] [(.int (1 : Int32))])) _
        refine XS.istore X90.here hx rfl (hb hby at_91) rfl (l' := #[.val (.int x0), .val (.int (3 : Int32)), .val (.ref w_MIXED), .val (.int (1 : Int32)), .val (.int (1 : Int32)), .val (.int (1 : Int32)), .unset]) rfl ?_
        show Steps p.tables e below (T90.setTop (mkF m 93 #[.val (.int x0), .val (.int (3 : Int32)), .val (.ref w_MIXED), .val (.int (1 : Int32)), .val (.int (1 : Int32)), .val (.int (1 : Int32)), .unset] [])) _
        refine XS.iloadN X90.here hx rfl (hb hby at_93) rfl ?_
        show Steps p.tables e below (T90.setTop (mkF m 94 #[.val (.int x0), .val (.int (3 : Int32)), .val (.ref w_MIXED), .val (.int (1 : Int32)), .val (.int (1 : Int32)), .val (.int (1 : Int32)), .unset] [(.int x0)])) _
        refine XS.bipush X90.here hx rfl (hb hby at_94) ?_
        show Steps p.tables e below (T90.setTop (mkF m 96 #[.val (.int x0), .val (.int (3 : Int32)), .val (.ref w_MIXED), .val (.int (1 : Int32)), .val (.int (1 : Int32)), .val (.int (1 : Int32)), .unset] [(.int (8 : Int32)), (.int x0)])) _
        refine XS.iand X90.here hx rfl (hb hby at_96) rfl ?_
        exact kk)
      by_cases hc102 : (x0 &&& (8 : Int32)) = (0 : Int32)
      ·
        obtain ⟨_, _, ⟨T103, L103, k103, n103⟩, -, X103, ⟨Lc103, hQ103, l103, y103, z103⟩, st103⟩ := Jvm.LawKit.callS X90 hx (y := (⟨"com/example/svratka/svratka/authz/AccessChange", "of", "(ZZ)Lcom/example/svratka/svratka/authz/AccessChange;"⟩ : MethodName)) hown (mvT hZ (hw _ (List.mem_of_getElem? (i := 19) rfl))) (mvT hZ (hw _ (List.mem_of_getElem? (i := 20) rfl))) (mvT hZ (hw _ (List.mem_of_getElem? (i := 1) rfl))) (mvT hZ (hw _ (List.mem_of_getElem? (i := 21) rfl))) (by decide) (backOf (W := 0) (rm6 l Z a0 hw [] w_WIDENS h0 n0 Z0 S_w_WIDENS) hZ (hw _ (List.mem_of_getElem? (i := 21) rfl)) (hw _ (List.mem_of_getElem? (i := 1) rfl)) (by decide) (by decide)) (g := (mkF m 111 #[.val (.int x0), .val (.int (3 : Int32)), .val (.ref w_MIXED), .val (.int (1 : Int32)), .val (.int (1 : Int32)), .val (.int (1 : Int32)), .val (.int (0 : Int32))] [(.int (0 : Int32)), (.int (1 : Int32))])) rfl (by rw [hml]; rfl) (argsL := [(.int (1 : Int32)), (.int (0 : Int32))]) (rest := []) (lenOf pd_1 rfl) rfl (by show 2 * 0 + _ ≤ _; exact Nat.le_of_eq rfl) (hb hby at_111) (fun _ _ => ⟨rfl, e90, (by decide : 0 + 0 ≤ _), (by decide : 0 + 0 ≤ _)⟩)
        dsimp only [Pt.U, Pt.locs, Pt.cells, Pt.slots] at X103 l103 y103 z103 st103 hQ103
        subst l103 y103 z103
        obtain ⟨rfl, N103q, e103⟩ := hQ103
        have N103 := Fr.app N90 N103q
        obtain ⟨cq104, kq104, q104a, q104b, q104c⟩ := isOf hZ e103 E_w_WIDENS
        obtain ⟨_, _, ⟨T104, L104, k104, n104⟩, -, X104, ⟨Lc104, hQ104, l104, y104, z104⟩, st104⟩ := X103.virtualBack hx (y := (⟨"com/example/svratka/svratka/authz/AccessChange", "narrows", "()Z"⟩ : MethodName)) (z := (⟨"com/example/svratka/svratka/authz/AccessChange", "narrows", "()Z"⟩ : MethodName)) hown (mvT hZ (hw _ (List.mem_of_getElem? (i := 3) rfl))) (mvT hZ (hw _ (List.mem_of_getElem? (i := 4) rfl))) (notFace_of_selects (args := #[]) (mvT hZ (hw _ (List.mem_of_getElem? (i := 6) rfl)))) (mvT hZ (hw _ (List.mem_of_getElem? (i := 6) rfl))) (mvT hZ (hw _ (List.mem_of_getElem? (i := 5) rfl))) (by decide) (backOf (W := 0) (rm1 l Z a0 hw [] w_WIDENS w_NARROWS w_MIXED h0 n0 Z0 S_w_NARROWS ((Fld.ne F_ordinal_w_WIDENS F_ordinal_w_NARROWS (by decide))) S_w_MIXED ((Fld.ne F_ordinal_w_WIDENS F_ordinal_w_MIXED (by decide)))) hZ (hw _ (List.mem_of_getElem? (i := 7) rfl)) (hw _ (List.mem_of_getElem? (i := 1) rfl)) (by decide) (by decide)) q104a q104c (g := (mkF m 114 #[.val (.int x0), .val (.int (3 : Int32)), .val (.ref w_MIXED), .val (.int (1 : Int32)), .val (.int (1 : Int32)), .val (.int (1 : Int32)), .val (.int (0 : Int32))] [(.ref w_WIDENS)])) rfl (by rw [hml]; rfl) (Steps.refl _) (argsL := []) (rest := []) (lenOf pd_0 rfl) rfl (by show 2 * 0 + _ ≤ _; exact Nat.le_of_eq rfl) (hb hby at_114) (fun _ _ => ⟨rfl, e103, (by decide : 0 + 0 ≤ _), (by decide : 0 + 0 ≤ _)⟩)
        dsimp only [Pt.U, Pt.locs, Pt.cells, Pt.slots] at X104 l104 y104 z104 st104 hQ104
        subst l104 y104 z104
        obtain ⟨rfl, N104q, e104⟩ := hQ104
        have N104 := Fr.app N103 N104q
        have pre105 : ∀ t, Steps p.tables e below (T104.setTop (mkF m 127 #[.val (.int x0), .val (.int (3 : Int32)), .val (.ref w_MIXED), .val (.int (1 : Int32)), .val (.int (1 : Int32)), .val (.int (1 : Int32)), .val (.int (0 : Int32))] [(.int (1 : Int32))])) t → Steps p.tables e below (s₁.setTop (entryFrame m #[(.int x0)] maxLocals)) t := fun t kk => pre101 t (by
          show Steps p.tables e below (T90.setTop (mkF m 97 #[.val (.int x0), .val (.int (3 : Int32)), .val (.ref w_MIXED), .val (.int (1 : Int32)), .val (.int (1 : Int32)), .val (.int (1 : Int32)), .unset] [(.int (x0 &&& (8 : Int32)))])) _
          refine XS.ifYes X90.here hx rfl (pc0 := 97) (pc' := 104) rfl (hb hby at_97) rfl ((if0 _ _).trans (teq (hc102 : (x0 &&& (8 : Int32)) = (0 : Int32))).1) (by decide) (by decide) ?_
          show Steps p.tables e below (T90.setTop (mkF m 104 #[.val (.int x0), .val (.int (3 : Int32)), .val (.ref w_MIXED), .val (.int (1 : Int32)), .val (.int (1 : Int32)), .val (.int (1 : Int32)), .unset] [])) _
          refine XS.iconst X90.here hx rfl (hb hby at_104) ?_
          show Steps p.tables e below (T90.setTop (mkF m 105 #[.val (.int x0), .val (.int (3 : Int32)), .val (.ref w_MIXED), .val (.int (1 : Int32)), .val (.int (1 : Int32)), .val (.int (1 : Int32)), .unset] [(.int (0 : Int32))])) _
          refine XS.istore X90.here hx rfl (hb hby at_105) rfl (l' := #[.val (.int x0), .val (.int (3 : Int32)), .val (.ref w_MIXED), .val (.int (1 : Int32)), .val (.int (1 : Int32)), .val (.int (1 : Int32)), .val (.int (0 : Int32))]) rfl ?_
          show Steps p.tables e below (T90.setTop (mkF m 107 #[.val (.int x0), .val (.int (3 : Int32)), .val (.ref w_MIXED), .val (.int (1 : Int32)), .val (.int (1 : Int32)), .val (.int (1 : Int32)), .val (.int (0 : Int32))] [])) _
          refine XS.iload X90.here hx rfl (hb hby at_107) rfl ?_
          show Steps p.tables e below (T90.setTop (mkF m 109 #[.val (.int x0), .val (.int (3 : Int32)), .val (.ref w_MIXED), .val (.int (1 : Int32)), .val (.int (1 : Int32)), .val (.int (1 : Int32)), .val (.int (0 : Int32))] [(.int (1 : Int32))])) _
          refine XS.iload X90.here hx rfl (hb hby at_109) rfl ?_
          show Steps p.tables e below (T90.setTop (mkF m 111 #[.val (.int x0), .val (.int (3 : Int32)), .val (.ref w_MIXED), .val (.int (1 : Int32)), .val (.int (1 : Int32)), .val (.int (1 : Int32)), .val (.int (0 : Int32))] [(.int (0 : Int32)), (.int (1 : Int32))])) _
          refine st103 _ ?_
          show Steps p.tables e below (T103.setTop (mkF m 114 #[.val (.int x0), .val (.int (3 : Int32)), .val (.ref w_MIXED), .val (.int (1 : Int32)), .val (.int (1 : Int32)), .val (.int (1 : Int32)), .val (.int (0 : Int32))] [(.ref w_WIDENS)])) _
          refine st104.trans ?_
          show Steps p.tables e below (T104.setTop (mkF m 117 #[.val (.int x0), .val (.int (3 : Int32)), .val (.ref w_MIXED), .val (.int (1 : Int32)), .val (.int (1 : Int32)), .val (.int (1 : Int32)), .val (.int (0 : Int32))] [(.int (0 : Int32))])) _
          refine XS.iload X104.here hx rfl (hb hby at_117) rfl ?_
          show Steps p.tables e below (T104.setTop (mkF m 119 #[.val (.int x0), .val (.int (3 : Int32)), .val (.ref w_MIXED), .val (.int (1 : Int32)), .val (.int (1 : Int32)), .val (.int (1 : Int32)), .val (.int (0 : Int32))] [(.int (0 : Int32)), (.int (0 : Int32))])) _
          refine XS.icmpNo X104.here hx rfl (hb hby at_119) rfl (teq ((by decide) : (0 : Int32) = (0 : Int32))).2 ?_
          show Steps p.tables e below (T104.setTop (mkF m 122 #[.val (.int x0), .val (.int (3 : Int32)), .val (.ref w_MIXED), .val (.int (1 : Int32)), .val (.int (1 : Int32)), .val (.int (1 : Int32)), .val (.int (0 : Int32))] [])) _
          refine XS.iconst X104.here hx rfl (hb hby at_122) ?_
          show Steps p.tables e below (T104.setTop (mkF m 123 #[.val (.int x0), .val (.int (3 : Int32)), .val (.ref w_MIXED), .val (.int (1 : Int32)), .val (.int (1 : Int32)), .val (.int (1 : Int32)), .val (.int (0 : Int32))] [(.int (1 : Int32))])) _
          refine XS.goto X104.here hx rfl (pc0 := 123) (pc' := 127) rfl (hb hby at_123) (by decide) (by decide) ?_
          exact kk)
        obtain ⟨fs, hr, hrun, hended, hW, hsame⟩ := X104.leave (v := some (.int (1 : Int32))) (fun h => by rw [Bd.returns] at h; cases h)
        refine ⟨_, _, pre105 _ ?_, hrun, hended, _, _, rfl, ?_, ⟨_, rfl⟩, hW, hsame.mono (by decide) (by decide)⟩
        · exact retN X104 hx (t := .boolean) Bd.returns (by simp) (hb hby at_127) hr
        · exact ⟨rfl, N104⟩
      ·
        obtain ⟨_, _, ⟨T106, L106, k106, n106⟩, -, X106, ⟨Lc106, hQ106, l106, y106, z106⟩, st106⟩ := Jvm.LawKit.callS X90 hx (y := (⟨"com/example/svratka/svratka/authz/AccessChange", "of", "(ZZ)Lcom/example/svratka/svratka/authz/AccessChange;"⟩ : MethodName)) hown (mvT hZ (hw _ (List.mem_of_getElem? (i := 19) rfl))) (mvT hZ (hw _ (List.mem_of_getElem? (i := 20) rfl))) (mvT hZ (hw _ (List.mem_of_getElem? (i := 1) rfl))) (mvT hZ (hw _ (List.mem_of_getElem? (i := 21) rfl))) (by decide) (backOf (W := 0) (rm7 l Z a0 hw [] w_MIXED h0 n0 Z0 S_w_MIXED) hZ (hw _ (List.mem_of_getElem? (i := 21) rfl)) (hw _ (List.mem_of_getElem? (i := 1) rfl)) (by decide) (by decide)) (g := (mkF m 111 #[.val (.int x0), .val (.int (3 : Int32)), .val (.ref w_MIXED), .val (.int (1 : Int32)), .val (.int (1 : Int32)), .val (.int (1 : Int32)), .val (.int (1 : Int32))] [(.int (1 : Int32)), (.int (1 : Int32))])) rfl (by rw [hml]; rfl) (argsL := [(.int (1 : Int32)), (.int (1 : Int32))]) (rest := []) (lenOf pd_1 rfl) rfl (by show 2 * 0 + _ ≤ _; exact Nat.le_of_eq rfl) (hb hby at_111) (fun _ _ => ⟨rfl, e90, (by decide : 0 + 0 ≤ _), (by decide : 0 + 0 ≤ _)⟩)
        dsimp only [Pt.U, Pt.locs, Pt.cells, Pt.slots] at X106 l106 y106 z106 st106 hQ106
        subst l106 y106 z106
        obtain ⟨rfl, N106q, e106⟩ := hQ106
        have N106 := Fr.app N90 N106q
        obtain ⟨cq107, kq107, q107a, q107b, q107c⟩ := isOf hZ e106 E_w_MIXED
        obtain ⟨_, _, ⟨T107, L107, k107, n107⟩, -, X107, ⟨Lc107, hQ107, l107, y107, z107⟩, st107⟩ := X106.virtualBack hx (y := (⟨"com/example/svratka/svratka/authz/AccessChange", "narrows", "()Z"⟩ : MethodName)) (z := (⟨"com/example/svratka/svratka/authz/AccessChange", "narrows", "()Z"⟩ : MethodName)) hown (mvT hZ (hw _ (List.mem_of_getElem? (i := 3) rfl))) (mvT hZ (hw _ (List.mem_of_getElem? (i := 4) rfl))) (notFace_of_selects (args := #[]) (mvT hZ (hw _ (List.mem_of_getElem? (i := 6) rfl)))) (mvT hZ (hw _ (List.mem_of_getElem? (i := 6) rfl))) (mvT hZ (hw _ (List.mem_of_getElem? (i := 5) rfl))) (by decide) (backOf (W := 0) (rm8 l Z a0 hw [] w_MIXED w_NARROWS h0 n0 Z0 S_w_NARROWS ((Fld.ne F_ordinal_w_MIXED F_ordinal_w_NARROWS (by decide))) S_w_MIXED) hZ (hw _ (List.mem_of_getElem? (i := 7) rfl)) (hw _ (List.mem_of_getElem? (i := 1) rfl)) (by decide) (by decide)) q107a q107c (g := (mkF m 114 #[.val (.int x0), .val (.int (3 : Int32)), .val (.ref w_MIXED), .val (.int (1 : Int32)), .val (.int (1 : Int32)), .val (.int (1 : Int32)), .val (.int (1 : Int32))] [(.ref w_MIXED)])) rfl (by rw [hml]; rfl) (Steps.refl _) (argsL := []) (rest := []) (lenOf pd_0 rfl) rfl (by show 2 * 0 + _ ≤ _; exact Nat.le_of_eq rfl) (hb hby at_114) (fun _ _ => ⟨rfl, e106, (by decide : 0 + 0 ≤ _), (by decide : 0 + 0 ≤ _)⟩)
        dsimp only [Pt.U, Pt.locs, Pt.cells, Pt.slots] at X107 l107 y107 z107 st107 hQ107
        subst l107 y107 z107
        obtain ⟨rfl, N107q, e107⟩ := hQ107
        have N107 := Fr.app N106 N107q
        have pre108 : ∀ t, Steps p.tables e below (T107.setTop (mkF m 127 #[.val (.int x0), .val (.int (3 : Int32)), .val (.ref w_MIXED), .val (.int (1 : Int32)), .val (.int (1 : Int32)), .val (.int (1 : Int32)), .val (.int (1 : Int32))] [(.int (1 : Int32))])) t → Steps p.tables e below (s₁.setTop (entryFrame m #[(.int x0)] maxLocals)) t := fun t kk => pre101 t (by
          show Steps p.tables e below (T90.setTop (mkF m 97 #[.val (.int x0), .val (.int (3 : Int32)), .val (.ref w_MIXED), .val (.int (1 : Int32)), .val (.int (1 : Int32)), .val (.int (1 : Int32)), .unset] [(.int (x0 &&& (8 : Int32)))])) _
          refine XS.ifNo X90.here hx rfl (hb hby at_97) rfl ((if0 _ _).trans (feq (hc102 : ¬ ((x0 &&& (8 : Int32)) = (0 : Int32)))).1) ?_
          show Steps p.tables e below (T90.setTop (mkF m 100 #[.val (.int x0), .val (.int (3 : Int32)), .val (.ref w_MIXED), .val (.int (1 : Int32)), .val (.int (1 : Int32)), .val (.int (1 : Int32)), .unset] [])) _
          refine XS.iconst X90.here hx rfl (hb hby at_100) ?_
          show Steps p.tables e below (T90.setTop (mkF m 101 #[.val (.int x0), .val (.int (3 : Int32)), .val (.ref w_MIXED), .val (.int (1 : Int32)), .val (.int (1 : Int32)), .val (.int (1 : Int32)), .unset] [(.int (1 : Int32))])) _
          refine XS.goto X90.here hx rfl (pc0 := 101) (pc' := 105) rfl (hb hby at_101) (by decide) (by decide) ?_
          show Steps p.tables e below (T90.setTop (mkF m 105 #[.val (.int x0), .val (.int (3 : Int32)), .val (.ref w_MIXED), .val (.int (1 : Int32)), .val (.int (1 : Int32)), .val (.int (1 : Int32)), .unset] [(.int (1 : Int32))])) _
          refine XS.istore X90.here hx rfl (hb hby at_105) rfl (l' := #[.val (.int x0), .val (.int (3 : Int32)), .val (.ref w_MIXED), .val (.int (1 : Int32)), .val (.int (1 : Int32)), .val (.int (1 : Int32)), .val (.int (1 : Int32))]) rfl ?_
          show Steps p.tables e below (T90.setTop (mkF m 107 #[.val (.int x0), .val (.int (3 : Int32)), .val (.ref w_MIXED), .val (.int (1 : Int32)), .val (.int (1 : Int32)), .val (.int (1 : Int32)), .val (.int (1 : Int32))] [])) _
          refine XS.iload X90.here hx rfl (hb hby at_107) rfl ?_
          show Steps p.tables e below (T90.setTop (mkF m 109 #[.val (.int x0), .val (.int (3 : Int32)), .val (.ref w_MIXED), .val (.int (1 : Int32)), .val (.int (1 : Int32)), .val (.int (1 : Int32)), .val (.int (1 : Int32))] [(.int (1 : Int32))])) _
          refine XS.iload X90.here hx rfl (hb hby at_109) rfl ?_
          show Steps p.tables e below (T90.setTop (mkF m 111 #[.val (.int x0), .val (.int (3 : Int32)), .val (.ref w_MIXED), .val (.int (1 : Int32)), .val (.int (1 : Int32)), .val (.int (1 : Int32)), .val (.int (1 : Int32))] [(.int (1 : Int32)), (.int (1 : Int32))])) _
          refine st106 _ ?_
          show Steps p.tables e below (T106.setTop (mkF m 114 #[.val (.int x0), .val (.int (3 : Int32)), .val (.ref w_MIXED), .val (.int (1 : Int32)), .val (.int (1 : Int32)), .val (.int (1 : Int32)), .val (.int (1 : Int32))] [(.ref w_MIXED)])) _
          refine st107.trans ?_
          show Steps p.tables e below (T107.setTop (mkF m 117 #[.val (.int x0), .val (.int (3 : Int32)), .val (.ref w_MIXED), .val (.int (1 : Int32)), .val (.int (1 : Int32)), .val (.int (1 : Int32)), .val (.int (1 : Int32))] [(.int (1 : Int32))])) _
          refine XS.iload X107.here hx rfl (hb hby at_117) rfl ?_
          show Steps p.tables e below (T107.setTop (mkF m 119 #[.val (.int x0), .val (.int (3 : Int32)), .val (.ref w_MIXED), .val (.int (1 : Int32)), .val (.int (1 : Int32)), .val (.int (1 : Int32)), .val (.int (1 : Int32))] [(.int (1 : Int32)), (.int (1 : Int32))])) _
          refine XS.icmpNo X107.here hx rfl (hb hby at_119) rfl (teq ((by decide) : (1 : Int32) = (1 : Int32))).2 ?_
          show Steps p.tables e below (T107.setTop (mkF m 122 #[.val (.int x0), .val (.int (3 : Int32)), .val (.ref w_MIXED), .val (.int (1 : Int32)), .val (.int (1 : Int32)), .val (.int (1 : Int32)), .val (.int (1 : Int32))] [])) _
          refine XS.iconst X107.here hx rfl (hb hby at_122) ?_
          show Steps p.tables e below (T107.setTop (mkF m 123 #[.val (.int x0), .val (.int (3 : Int32)), .val (.ref w_MIXED), .val (.int (1 : Int32)), .val (.int (1 : Int32)), .val (.int (1 : Int32)), .val (.int (1 : Int32))] [(.int (1 : Int32))])) _
          refine XS.goto X107.here hx rfl (pc0 := 123) (pc' := 127) rfl (hb hby at_123) (by decide) (by decide) ?_
          exact kk)
        obtain ⟨fs, hr, hrun, hended, hW, hsame⟩ := X107.leave (v := some (.int (1 : Int32))) (fun h => by rw [Bd.returns] at h; cases h)
        refine ⟨_, _, pre108 _ ?_, hrun, hended, _, _, rfl, ?_, ⟨_, rfl⟩, hW, hsame.mono (by decide) (by decide)⟩
        · exact retN X107 hx (t := .boolean) Bd.returns (by simp) (hb hby at_127) hr
        · exact ⟨rfl, N107⟩
set_option maxRecDepth 65536 in
set_option maxHeartbeats 40000000 in
theorem comes_1 {Post : Tables → Env → Array Value → State → Outcome → State → Prop} (hpost : ∀ tb e args s v u, (limb_1_1.after args s (.returned v) u = true ∧ limb_1_2.after args s (.returned v) u = true ∧ True) → FrameEnd s (.returned v) u (Jvm.fieldLocs frame_1_writes args s ++ Jvm.arrayLocs frame_1_arrays args s ++ Jvm.staticLocs frame_1_statics s) 0 0 → Post tb e args s (.returned v) u) :
    ArmFor flags0 classFile x code maxLocals ret World_1 tables_1 room_1 Calls_1 rest_1 Pre_1 Post := by
  intro l hfl _ _ p e ha hc hk s m args below hf hA hF happ hP
  obtain ⟨hcalls, hrest, hpre⟩ := hP
  obtain ⟨-, -, -, hnamed, -, -, -, hat⟩ := (Spec.applies_iff hf).mp happ
  obtain ⟨hg, hn⟩ := and_e (Cond.before_iff.mp (show (Jvm.Cond.and given_1 narrow_1).before args s = true from hpre))
  obtain ⟨hcount, hgs⟩ := and_e hg
  obtain ⟨v0, rfl⟩ : ∃ v0 : Value, args = #[v0] := by
    have hs : args.size = 1 := by simpa [Cond.value, given_1] using hcount
    obtain ⟨L⟩ := args
    match L, hs with
    | [v0], _ => exact ⟨v0, rfl⟩
  have hw := fun d (hd : d ∈ tables_1) => atoms_spec (ws := Jvm.Cond.code x code maxLocals ret :: tables_1) hat d (List.mem_cons_of_mem _ hd)
  have hfit : Fit s := fun {y c} hc i hi => by
    obtain ⟨ha, rfl⟩ := Array.getElem?_eq_some_iff.mp hc
    have q := List.all_eq_true.mp ((Array.all_eq_true_iff_forall_mem.mp hF) _ (Array.getElem_mem ha)) i (List.mem_range.mpr hi)
    simpa [Array.getElem?_eq_getElem hi] using q
  obtain ⟨i0, ei0⟩ := is_v hgs
  obtain rfl : v0 = (.int i0) := Option.some.inj ei0
  obtain ⟨n1, n2⟩ := and_e hn
  obtain ⟨n3, n4⟩ := and_e n2
  obtain ⟨n5, n6⟩ := and_e n4
  obtain ⟨n7, n8⟩ := and_e n6
  obtain ⟨n9, n10⟩ := and_e n8
  obtain ⟨n11, n12⟩ := and_e n10
  obtain ⟨n13, n14⟩ := and_e n12
  obtain ⟨w_NONE, e_w_NONE⟩ := exa_v n1
  obtain ⟨w_NARROWS, e_w_NARROWS⟩ := exa_v n3
  obtain ⟨w_MIXED, e_w_MIXED⟩ := exa_v n9
  obtain ⟨w_WIDENS, e_w_WIDENS⟩ := exa_v n13
  have h_S_w_NONE := Sta.start e_w_NONE (Or.inr ⟨(hw _ (List.mem_of_getElem? (i := 1) rfl)), (hw _ (List.mem_of_getElem? (i := 2) rfl))⟩)
  have h_E_w_NONE := Exa.start e_w_NONE n1
  have h_S_w_NARROWS := Sta.start e_w_NARROWS (Or.inr ⟨(hw _ (List.mem_of_getElem? (i := 1) rfl)), (hw _ (List.mem_of_getElem? (i := 9) rfl))⟩)
  have h_E_w_NARROWS := Exa.start e_w_NARROWS n3
  have h_S_w_MIXED := Sta.start e_w_MIXED (Or.inr ⟨(hw _ (List.mem_of_getElem? (i := 1) rfl)), (hw _ (List.mem_of_getElem? (i := 11) rfl))⟩)
  have h_E_w_MIXED := Exa.start e_w_MIXED n9
  have h_S_w_WIDENS := Sta.start e_w_WIDENS (Or.inr ⟨(hw _ (List.mem_of_getElem? (i := 1) rfl)), (hw _ (List.mem_of_getElem? (i := 18) rfl))⟩)
  have h_E_w_WIDENS := Exa.start e_w_WIDENS n13
  have h_F_ordinal_w_NONE := own_fld e_w_NONE n5
  have h_F_ordinal_w_NARROWS := own_fld e_w_NARROWS n7
  have h_F_ordinal_w_MIXED := own_fld e_w_MIXED n11
  have h_F_ordinal_w_WIDENS := own_fld e_w_WIDENS n14
  obtain ⟨n, o, h1, h2, h3, _, L, rfl, ⟨rfl, N⟩, hq⟩ := rm0 l s _ hw tables_1 i0 w_NONE w_NARROWS w_MIXED w_WIDENS s.heap s.heap.size (Nat.le_refl _) h_S_w_NONE h_E_w_NONE h_S_w_NARROWS h_E_w_NARROWS h_S_w_MIXED h_E_w_MIXED h_S_w_WIDENS h_E_w_WIDENS h_F_ordinal_w_NONE h_F_ordinal_w_NARROWS h_F_ordinal_w_MIXED h_F_ordinal_w_WIDENS p e ha hc hk s m _ below hf ((Spec.applies_iff_loose hf).mp happ).1 ⟨rfl, State.Warmed39.refl s, rfl⟩ trivial
  exact ⟨n, _, h1, h2, h3, hpost _ _ _ _ _ _ ⟨Cond.after_iff.mpr rfl, Cond.after_iff.mpr (eq_i res_at (Term.int_eval (1)) rfl), trivial⟩ ⟨hq.1, hq.2.1, (hq.2.2.sift fun y hy => Or.inr (N y hy)).mono (by decide) (by decide)⟩⟩
theorem main_1_1 : Claimed_1_1 := comes_1 fun _ _ _ _ _ _ h hF => ⟨h.1, hF⟩
theorem main_1_2 : Claimed_1_2 := comes_1 fun _ _ _ _ _ _ h hF => ⟨h.2.1, hF⟩
end Jvm.Pilot.@@N@@
namespace Jvm.Pilot.@@N@@
open Jvm Jvm.ClassFile Sem Op Lib Jvm.Free Jvm.Stand Jvm.Pilot.@@N@@.Jvm.D
/-! MADE BY PROGRAM (witnessworld.py) out of the Statement's table words and the real class files: 12 classes; the members and pool entries that the words name. The judged class is class 1, her method 1. -/
namespace start1
open Jvm.ClassFile
def u (s : String) : CpInfo := .utf8 (stringToUtf16 s)
/-- a pool by its gaps: so many unusable entries, then the entry; so many at the end -/
def gap : Nat → List CpInfo → List CpInfo
  | 0, r => r
  | n + 1, r => .unusable :: gap n r
def poolList (es : List (Nat × CpInfo)) (last : Nat) : List CpInfo := es.foldr (fun e r => gap e.1 (e.2 :: r)) (gap last [])
def pool (es : List (Nat × CpInfo)) (last : Nat) : Array CpInfo := ⟨poolList es last⟩
def fileOf (pool : Array CpInfo) (this : Nat) (attrs : Array Attribute := #[]) (ms : Array MethodInfo := #[]) (fl : Nat := 33) (sup : Nat := 0) (ifs : Array Nat := #[]) (fds : Array FieldInfo := #[]) : ClassFile where
  minorVersion := 0
  majorVersion := 65
  constantPool := pool
  accessFlags := fl
  thisClass := this
  superClass := sup
  interfaces := ifs
  fields := fds
  methods := ms
  attributes := attrs
def plain (name : String) (sup : Option ClassId) : Class where
  name := name
  kind := .ordinary
  loader := none
  accessFlags := 33
  super := sup
  interfaces := #[]
  cf := none
  fields := #[]
  methods := #[]
  instanceTypes := #[]
  staticTypes := #[]
  resolved := #[]
  callSites := []
  init := .initialized
  statics := none
  mirror := none

def pool0 : Array CpInfo := pool [(5, u "<init>"), (0, u "()V"), (1, .class_ 10), (1, u "java/lang/Object")] 113

def k0m0 : Method := { name := "<init>", desc := "()V", sig := { parameters := [], returnType := none }, accessFlags := 1, code := none }
/-- java/lang/Object -/
def k0 : Class := { plain "java/lang/Object" none with
  accessFlags := 33
  interfaces := #[]
  cf := some (fileOf pool0 8 #[] #[{ accessFlags := 1, nameIndex := 5, descriptorIndex := 6, attributes := #[] }] 33 0 #[] #[])
  fields := #[]
  methods := #[k0m0]
  instanceTypes := #[]
  staticTypes := #[]
  resolved := Array.replicate 124 none
  statics := none }

def pool1 : Array CpInfo := pool [(2, .class_ 4), (1, u "java/lang/Object"), (0, u "<init>"), (0, u "()V"), (0, .fieldref 8 9), (0, .class_ 10), (0, .nameAndType 11 12), (0, u "com/example/svratka/svratka/authz/AccessChange"), (0, u "NONE"), (0, u "Lcom/example/svratka/svratka/authz/AccessChange;"), (0, .fieldref 8 14), (0, .nameAndType 15 12), (0, u "WIDENS"), (0, .fieldref 8 17), (0, .nameAndType 18 12), (0, u "NARROWS"), (0, .fieldref 8 20), (0, .nameAndType 21 12), (0, u "MIXED"), (0, .methodref 8 23), (0, .nameAndType 24 25), (0, u "narrows"), (0, u "()Z"), (0, .methodref 8 27), (0, .nameAndType 28 25), (0, u "widens"), (0, .methodref 8 30), (0, .nameAndType 31 32), (0, u "of"), (0, u "(ZZ)Lcom/example/svratka/svratka/authz/AccessChange;"), (0, .class_ 34), (0, u "com/example/svratka/svratka/authz/AccessChangeNarrowsPinLaw"), (2, u "law"), (0, u "(I)Z")] 3

def k1m0 : Method := { name := "<init>", desc := "()V", sig := { parameters := [], returnType := none }, accessFlags := 1, code := none }
def k1c1 : Code := { maxStack := 2, maxLocals := 7, code := code, exceptionTable := #[], attributes := #[] }
def k1m1 : Method := { name := "law", desc := "(I)Z", sig := { parameters := [.int], returnType := some .boolean }, accessFlags := 9, code := some k1c1 }
/-- com/example/svratka/svratka/authz/AccessChangeNarrowsPinLaw -/
def k1 : Class := { plain "com/example/svratka/svratka/authz/AccessChangeNarrowsPinLaw" (some 0) with
  accessFlags := 49
  interfaces := #[]
  cf := some (fileOf pool1 33 #[] #[{ accessFlags := 1, nameIndex := 5, descriptorIndex := 6, attributes := #[] }, { accessFlags := 9, nameIndex := 37, descriptorIndex := 38, attributes := #[] }] 49 2 #[] #[])
  fields := #[]
  methods := #[k1m0, k1m1]
  instanceTypes := #[]
  staticTypes := #[]
  resolved := Array.replicate 42 none
  statics := none }

def pool2 : Array CpInfo := pool [(1, .class_ 2), (0, u "java/lang/constant/Constable"), (0, .class_ 4), (0, u "java/lang/Object")] 6

/-- java/lang/constant/Constable -/
def k2 : Class := { plain "java/lang/constant/Constable" (some 0) with
  accessFlags := 1537
  interfaces := #[]
  cf := some (fileOf pool2 1 #[] #[] 1537 3 #[] #[])
  fields := #[]
  methods := #[]
  instanceTypes := #[]
  staticTypes := #[]
  resolved := Array.replicate 11 none
  statics := none }

def pool3 : Array CpInfo := pool [(1, .class_ 2), (0, u "java/lang/Comparable"), (0, .class_ 4), (0, u "java/lang/Object")] 7

/-- java/lang/Comparable -/
def k3 : Class := { plain "java/lang/Comparable" (some 0) with
  accessFlags := 1537
  interfaces := #[]
  cf := some (fileOf pool3 1 #[] #[] 1537 3 #[] #[])
  fields := #[]
  methods := #[]
  instanceTypes := #[]
  staticTypes := #[]
  resolved := Array.replicate 12 none
  statics := none }

def pool4 : Array CpInfo := pool [(1, .class_ 2), (0, u "java/io/Serializable"), (0, .class_ 4), (0, u "java/lang/Object")] 2

/-- java/io/Serializable -/
def k4 : Class := { plain "java/io/Serializable" (some 0) with
  accessFlags := 1537
  interfaces := #[]
  cf := some (fileOf pool4 1 #[] #[] 1537 3 #[] #[])
  fields := #[]
  methods := #[]
  instanceTypes := #[]
  staticTypes := #[]
  resolved := Array.replicate 7 none
  statics := none }

def pool5 : Array CpInfo := pool [(2, .class_ 4), (1, u "java/lang/Enum"), (0, u "name"), (0, u "Ljava/lang/String;"), (2, u "ordinal"), (0, u "I"), (1, .class_ 14), (1, u "java/lang/Object"), (4, u "hash"), (86, .class_ 108), (1, u "java/lang/Enum$EnumDesc"), (2, .class_ 112), (0, u "java/lang/constant/Constable"), (0, .class_ 114), (0, u "java/lang/Comparable"), (0, .class_ 116), (0, u "java/io/Serializable")] 87

/-- java/lang/Enum -/
def k5 : Class := { plain "java/lang/Enum" (some 0) with
  accessFlags := 1057
  interfaces := #[2, 3, 4]
  cf := some (fileOf pool5 2 #[.nestMembers #[106]] #[] 1057 12 #[111, 113, 115] #[{ accessFlags := 18, nameIndex := 5, descriptorIndex := 6, attributes := #[] }, { accessFlags := 18, nameIndex := 9, descriptorIndex := 10, attributes := #[] }, { accessFlags := 2, nameIndex := 19, descriptorIndex := 10, attributes := #[] }])
  fields := #[{ name := "name", type := (.object "java/lang/String"), accessFlags := 18, slot := 0, constantValue := 0 }, { name := "ordinal", type := .int, accessFlags := 18, slot := 1, constantValue := 0 }, { name := "hash", type := .int, accessFlags := 2, slot := 2, constantValue := 0 }]
  methods := #[]
  instanceTypes := #[(.object "java/lang/String"), .int, .int]
  staticTypes := #[]
  resolved := Array.replicate 204 none
  statics := none }

def pool6 : Array CpInfo := pool [(1, .class_ 2), (0, u "com/example/svratka/svratka/authz/AccessChange"), (0, .fieldref 1 4), (0, .nameAndType 5 6), (0, u "NONE"), (0, u "Lcom/example/svratka/svratka/authz/AccessChange;"), (0, .fieldref 1 8), (0, .nameAndType 9 6), (0, u "WIDENS"), (0, .fieldref 1 11), (0, .nameAndType 12 6), (0, u "NARROWS"), (0, .fieldref 1 14), (0, .nameAndType 15 6), (0, u "MIXED"), (2, u "$VALUES"), (0, u "[Lcom/example/svratka/svratka/authz/AccessChange;"), (6, .class_ 28), (1, u "java/lang/Enum"), (22, u "of"), (0, u "(ZZ)Lcom/example/svratka/svratka/authz/AccessChange;"), (1, u "widens"), (0, u "()Z"), (0, u "narrows")] 4

def k6c0 : Code := { maxStack := 1, maxLocals := 3, code := prog_4_method_4_code, exceptionTable := #[], attributes := #[] }
def k6m0 : Method := { name := "of", desc := "(ZZ)Lcom/example/svratka/svratka/authz/AccessChange;", sig := { parameters := [.boolean, .boolean], returnType := some (.object "com/example/svratka/svratka/authz/AccessChange") }, accessFlags := 8, code := some k6c0 }
def k6c1 : Code := { maxStack := 2, maxLocals := 1, code := prog_4_method_5_code, exceptionTable := #[], attributes := #[] }
def k6m1 : Method := { name := "widens", desc := "()Z", sig := { parameters := [], returnType := some .boolean }, accessFlags := 0, code := some k6c1 }
def k6c2 : Code := { maxStack := 2, maxLocals := 1, code := prog_4_method_6_code, exceptionTable := #[], attributes := #[] }
def k6m2 : Method := { name := "narrows", desc := "()Z", sig := { parameters := [], returnType := some .boolean }, accessFlags := 0, code := some k6c2 }
/-- com/example/svratka/svratka/authz/AccessChange -/
def k6 : Class := { plain "com/example/svratka/svratka/authz/AccessChange" (some 5) with
  accessFlags := 16433
  interfaces := #[]
  cf := some (fileOf pool6 1 #[] #[{ accessFlags := 8, nameIndex := 51, descriptorIndex := 52, attributes := #[] }, { accessFlags := 0, nameIndex := 54, descriptorIndex := 55, attributes := #[] }, { accessFlags := 0, nameIndex := 56, descriptorIndex := 55, attributes := #[] }] 16433 26 #[] #[{ accessFlags := 16409, nameIndex := 5, descriptorIndex := 6, attributes := #[] }, { accessFlags := 16409, nameIndex := 9, descriptorIndex := 6, attributes := #[] }, { accessFlags := 16409, nameIndex := 12, descriptorIndex := 6, attributes := #[] }, { accessFlags := 16409, nameIndex := 15, descriptorIndex := 6, attributes := #[] }, { accessFlags := 4122, nameIndex := 18, descriptorIndex := 19, attributes := #[] }])
  fields := #[{ name := "NONE", type := (.object "com/example/svratka/svratka/authz/AccessChange"), accessFlags := 16409, slot := 0, constantValue := 0 }, { name := "WIDENS", type := (.object "com/example/svratka/svratka/authz/AccessChange"), accessFlags := 16409, slot := 1, constantValue := 0 }, { name := "NARROWS", type := (.object "com/example/svratka/svratka/authz/AccessChange"), accessFlags := 16409, slot := 2, constantValue := 0 }, { name := "MIXED", type := (.object "com/example/svratka/svratka/authz/AccessChange"), accessFlags := 16409, slot := 3, constantValue := 0 }, { name := "$VALUES", type := (.array (.object "com/example/svratka/svratka/authz/AccessChange")), accessFlags := 4122, slot := 4, constantValue := 0 }]
  methods := #[k6m0, k6m1, k6m2]
  instanceTypes := #[(.object "java/lang/String"), .int, .int]
  staticTypes := #[(.object "com/example/svratka/svratka/authz/AccessChange"), (.object "com/example/svratka/svratka/authz/AccessChange"), (.object "com/example/svratka/svratka/authz/AccessChange"), (.object "com/example/svratka/svratka/authz/AccessChange"), (.array (.object "com/example/svratka/svratka/authz/AccessChange"))]
  resolved := Array.replicate 61 none
  statics := some 0 }

def pool7 : Array CpInfo := pool [(1, u "java/lang/Cloneable"), (0, .class_ 1), (0, u "java/lang/Object"), (0, .class_ 3)] 3

/-- java/lang/Cloneable -/
def k7 : Class := { plain "java/lang/Cloneable" (some 0) with
  accessFlags := 1537
  interfaces := #[]
  cf := some (fileOf pool7 2 #[] #[] 1537 4 #[] #[])
  fields := #[]
  methods := #[]
  instanceTypes := #[]
  staticTypes := #[]
  resolved := Array.replicate 8 none
  statics := none }

/-- the primitive byte -/
def k8 : Class := { plain "byte" none with kind := .primitive 'B', accessFlags := 0x411 }
/-- [B -/
def k9 : Class := { plain "[B" (some 0) with kind := .array 8 .byte, interfaces := #[7, 4], accessFlags := 1041 }

/-- the primitive int -/
def k10 : Class := { plain "int" none with kind := .primitive 'I', accessFlags := 0x411 }
/-- [I -/
def k11 : Class := { plain "[I" (some 0) with kind := .array 10 .int, interfaces := #[7, 4], accessFlags := 1041 }

def heap : Heap := #[{ cls := 6, slots := #[.ref 1, .ref 4, .ref 2, .ref 3, .null], vm := .statics 6 },
  { cls := 6, slots := #[.null, .int 0, .int 0], vm := .none },
  { cls := 6, slots := #[.null, .int 2, .int 0], vm := .none },
  { cls := 6, slots := #[.null, .int 3, .int 0], vm := .none },
  { cls := 6, slots := #[.null, .int 1, .int 0], vm := .none }]
def classes : Array Class := #[k0, k1, k2, k3, k4, k5, k6, k7, k8, k9, k10, k11]
def interned : List (Array UInt16 × Addr) := []
def slotsUsed : Nat := 17
def theMethod : MethodId := ⟨1, 1⟩
def args0 : Array Value := #[.int 5]
def aboutOver (below : List Frame) : State where
  vm := { classes := classes, interned := interned.toArray }
  heap := heap
  slotsUsed := slotsUsed
  threads := #[{ frames := .invoking theMethod args0 :: below }]
def below0 : List Frame := [.native { method := ⟨0, 0⟩, args := #[] }]
def about1 : State := aboutOver below0
def p0 : Program := .bare "" "" ""
def e0 : Env := launch0.env 0 0 0
theorem w_frames : about1.frames = Frame.invoking theMethod args0 :: below0 := rfl
set_option maxRecDepth 65536 in
theorem w_args : argsFit about1.vm theMethod args0 = true := by decide +kernel
set_option maxRecDepth 65536 in
theorem w_heap : heapFits about1 = true := by decide +kernel
set_option maxRecDepth 65536 in
theorem w_runnable : about1.curStatus? = some .runnable := by decide +kernel
set_option maxRecDepth 65536 in
theorem w_alone : about1.alone = true := by decide +kernel
set_option maxRecDepth 65536 in
theorem w_named : about1.methodNamed? x = some theMethod := by decide +kernel
set_option maxRecDepth 65536 in
theorem w_hears : about1.hears theMethod below0 = true := by decide +kernel
set_option maxRecDepth 65536 in
theorem w_ripe : about1.ripe theMethod args0 below0 = true := by decide +kernel
theorem w_running : about1.status = .running := rfl
set_option maxRecDepth 65536 in
theorem w_room : about1.hasRoom e0.platform room_1 = true :=
  launch0.hasRoom_least _ room_1 (by decide +kernel) (by decide +kernel) (by decide +kernel) (by decide +kernel) (by decide +kernel) (by decide +kernel)
theorem allAtoms_all (ts : List Jvm.Cond) (a : Array Jvm.Value) (st : Jvm.State) : (allAtoms ts).before a st = ts.all (fun c => c.before a st) := by
  induction ts with
  | nil => rfl
  | cons c t ih =>
    show (Jvm.Cond.and c (allAtoms t)).before a st = _
    rw [Jvm.Cond.before_and, ih, List.all_cons]
def words1 : List Jvm.Cond := Jvm.Cond.code x code maxLocals ret :: tables_1
/-- a 'code' word, met by the world's own term for the bytes: nothing is compared byte by byte -/
theorem code_word {y : MethodName} {bytes : ByteArray} {mx : Nat} {rt : Option FieldType} {a : Array Value} {s : State} {m : MethodId} {meth : Method} {c : Code} (h1 : s.methodNamed? y = some m) (h2 : s.vm.method? m = some meth) (h3 : meth.code = some c) (h4 : c.code = bytes)
    (h5 : (c.maxLocals == mx && c.exceptionTable.isEmpty && decide (c.maxStack ≤ mostOperands) && decide (meth.sig.returnType = rt) && !meth.locks && decide (parseMethodDescriptor y.desc = some meth.sig)) = true) : (Jvm.Cond.code y bytes mx rt).before a s = true := by
  simp only [Bool.and_eq_true, beq_iff_eq, Bool.not_eq_true', decide_eq_true_eq] at h5
  obtain ⟨⟨⟨⟨⟨g1, g2⟩, g3⟩, g4⟩, g5⟩, g6⟩ := h5
  simp [Cond.before, Cond.holds, Cond.value, h1, h2, h3, h4, g1, g2, g3, g4, g5, g6]
def isCode : Jvm.Cond → Bool
  | .code _ _ _ _ => true
  | _ => false
theorem all_split {L : List Jvm.Cond} {P : Jvm.Cond → Bool} (h1 : L.all (fun c => isCode c || P c) = true) (h2 : ∀ c ∈ L.filter isCode, P c = true) : L.all P = true := by
  refine List.all_eq_true.mpr fun c hc => ?_
  have h := List.all_eq_true.mp h1 c hc
  rcases Bool.eq_false_or_eq_true (isCode c) with hi | hi
  · exact h2 c (List.mem_filter.mpr ⟨hc, hi⟩)
  · simpa [hi] using h
set_option maxRecDepth 65536 in
theorem w_c0 : (Jvm.Cond.code x code maxLocals ret).before args0 about1 = true := code_word (m := ⟨1, 1⟩) (meth := k1m1) (c := k1c1) (by decide +kernel) rfl rfl rfl (by decide +kernel)
set_option maxRecDepth 65536 in
theorem w_c1 : (Jvm.Cond.code ({ cls := "com/example/svratka/svratka/authz/AccessChange", name := "narrows", desc := "()Z" } : Jvm.MethodName) prog_4_method_6_code (1 : Nat) (Option.some Jvm.ClassFile.FieldType.boolean)).before args0 about1 = true := code_word (m := ⟨6, 2⟩) (meth := k6m2) (c := k6c2) (by decide +kernel) rfl rfl rfl (by decide +kernel)
set_option maxRecDepth 65536 in
theorem w_c2 : (Jvm.Cond.code ({ cls := "com/example/svratka/svratka/authz/AccessChange", name := "widens", desc := "()Z" } : Jvm.MethodName) prog_4_method_5_code (1 : Nat) (Option.some Jvm.ClassFile.FieldType.boolean)).before args0 about1 = true := code_word (m := ⟨6, 1⟩) (meth := k6m1) (c := k6c1) (by decide +kernel) rfl rfl rfl (by decide +kernel)
set_option maxRecDepth 65536 in
theorem w_c3 : (Jvm.Cond.code ({ cls := "com/example/svratka/svratka/authz/AccessChange", name := "of", desc := "(ZZ)Lcom/example/svratka/svratka/authz/AccessChange;" } : Jvm.MethodName) prog_4_method_4_code (3 : Nat) (Option.some (Jvm.ClassFile.FieldType.object "com/example/svratka/svratka/authz/AccessChange"))).before args0 about1 = true := code_word (m := ⟨6, 0⟩) (meth := k6m0) (c := k6c0) (by decide +kernel) rfl rfl rfl (by decide +kernel)
def codes1 : List Jvm.Cond := [Jvm.Cond.code x code maxLocals ret, Jvm.Cond.code ({ cls := "com/example/svratka/svratka/authz/AccessChange", name := "narrows", desc := "()Z" } : Jvm.MethodName) prog_4_method_6_code (1 : Nat) (Option.some Jvm.ClassFile.FieldType.boolean), Jvm.Cond.code ({ cls := "com/example/svratka/svratka/authz/AccessChange", name := "widens", desc := "()Z" } : Jvm.MethodName) prog_4_method_5_code (1 : Nat) (Option.some Jvm.ClassFile.FieldType.boolean), Jvm.Cond.code ({ cls := "com/example/svratka/svratka/authz/AccessChange", name := "of", desc := "(ZZ)Lcom/example/svratka/svratka/authz/AccessChange;" } : Jvm.MethodName) prog_4_method_4_code (3 : Nat) (Option.some (Jvm.ClassFile.FieldType.object "com/example/svratka/svratka/authz/AccessChange"))]
set_option maxRecDepth 65536 in
theorem codes_eq : words1.filter isCode = codes1 := rfl
theorem w_codes : ∀ c ∈ words1.filter isCode, c.before args0 about1 = true := by
  rw [codes_eq]
  intro c hc
  simp only [codes1, List.mem_cons, List.not_mem_nil, or_false] at hc
  rcases hc with rfl | rfl | rfl | rfl
  · exact w_c0
  · exact w_c1
  · exact w_c2
  · exact w_c3
set_option maxRecDepth 65536 in
theorem w_t1 : (words1.take 24).all (fun c => isCode c || c.before args0 about1) = true := by decide +kernel
set_option maxRecDepth 65536 in
theorem w_t2 : (words1.drop 24).all (fun c => isCode c || c.before args0 about1) = true := by decide +kernel
theorem w_tables : (allAtoms (Jvm.Cond.code x code maxLocals ret :: tables_1)).before args0 about1 = true := by
  rw [allAtoms_all]
  show words1.all (fun c => c.before args0 about1) = true
  refine all_split ?_ w_codes
  rw [← List.take_append_drop 24 words1, List.all_append, w_t1, w_t2]
  rfl
set_option maxRecDepth 65536 in
theorem w_case : (Jvm.Cond.and given_1 narrow_1).before args0 about1 = true := by decide +kernel
theorem w_applies : (headSpec (Jvm.Cond.code x code maxLocals ret :: tables_1) room_1).applies x e0.platform about1 = true :=
  (Spec.applies_iff w_frames).mpr ⟨w_running, w_runnable, w_alone, w_named, w_hears, w_ripe, w_room, w_tables⟩
theorem atStart : AtStart classFile x code maxLocals ret World_1 tables_1 room_1 Calls_1 rest_1 Pre_1 launch0 p0 e0 about1 theMethod args0 below0 :=
  ⟨lists_1, trivial, launch0.admits_env _ _ _, launch0.least_env, fairChoices_fair.cas, fairChoices_fair.clock, w_frames, w_args, w_heap, w_applies, trivial, trivial, w_case⟩
end start1
theorem witness_1 : WitnessClaimed_1 := ⟨start1.p0, start1.e0, start1.about1, start1.theMethod, start1.args0, start1.below0, start1.atStart⟩
end Jvm.Pilot.@@N@@
