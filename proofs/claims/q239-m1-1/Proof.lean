import JvmDerived
import JvmDerived.Pilot.@@N@@Statement
import JvmDerived.Pilot.@@N@@Code
set_option linter.unusedVariables false
set_option linter.unusedSimpArgs false
namespace Jvm.RoadKit
open Sem ClassFile Op Lib Jvm.Stand Jvm.Free Jvm.LawKit
section New
variable {p : Program} {l : Launch} {e : Env} {R : Room} {s : State} {m : MethodId} {args : Array Value} {below : List Frame} {meth : Method} {c : Code} {T : State} {locs : List Loc} {cells slots : Nat}
theorem retI (X : Stand p l e R s m args below meth c T locs cells slots) (hx : p.tables.exec = Jvm.exec) {pc : Nat} {Ls : Array Slot} {z : Int32} {rest : List Value} (hret : meth.sig.returnType = some .int) (hd : decode c.code pc = .ok (.ireturn, 1)) {fs : List Frame}
    (hl : ∀ (f : JFrame) (acts : List Action), f.method = m → f.locked = none → f.entered = [] → (doReturn e (T.setTop f) acts (some (.int z))).1 = T.setFrames fs) : Steps p.tables e below (T.setTop (mkF m pc Ls (.int z :: rest))) (T.setFrames fs) := by
  have hm' : T.vm.method? m = some meth := X.method'
  have hn : narrow .int (.int z) = .int z := rfl
  show Steps p.tables e below (T.setTop { method := m, pc := pc, locals := Ls, stack := _ :: rest, locked := none }) _
  jvm_step X.here [X.here.top, hx, hd, hm', hret, hn]
  first | (intro acts; rw [hl _ acts rfl rfl rfl]) | rw [hl _ _ rfl rfl rfl]
  exact Steps.refl _
end New
end Jvm.RoadKit
namespace Jvm.Pilot.@@N@@
open Jvm Jvm.ClassFile Sem Op Lib Jvm.Free Jvm.Stand Jvm.LawKit Jvm.RoadKit Bundle Jvm.Pilot.@@N@@.Jvm.D
theorem own_fld {Z : State} {args : Array Value} {t : Term} {C n d : String} {k : Int32} {x : Addr} (ht : t.eval args Z none [] Z = some (.ref x)) (h : (Jvm.Cond.eq (Term.field t C n d) (Term.int k)).value args Z none Z [] = some true) : Fld Z Z.heap x C n d (.int k) := by
  refine Fld.start ?_
  have e := fld_at (C := C) (n := n) (dd := d) ht
  obtain ⟨u, w, e1, e2, -, -⟩ := cmp_v (Or.inl h)
  rw [e] at e1
  have e3 : (Term.int k).eval args Z none [] Z = some (.int k) := Term.int_eval k
  cases e3.symm.trans e2
  have e4 : (Term.field t C n d).eval args Z none [] Z = some u := e.trans e1
  have h' := h
  cases u <;> simp [Jvm.Cond.value, e4, e3] at h'
  subst h'
  exact e1
theorem own_eqI {Z : State} {args : Array Value} {t : Term} {k : Int32} (h : (Jvm.Cond.eq t (Term.int k)).value args Z none Z [] = some true) : t.eval args Z none [] Z = some (.int k) := by
  obtain ⟨u, w, e1, e2, -, -⟩ := cmp_v (Or.inl h)
  have e3 : (Term.int k).eval args Z none [] Z = some (.int k) := Term.int_eval k
  cases e3.symm.trans e2
  have h' := h
  cases u <;> simp [Jvm.Cond.value, e1, e3] at h'
  subst h'
  exact e1
theorem own_maskHi (x m : Int32) (k : Nat) (hk : k ≤ 31) (hm : m.toBitVec.toNat = 2 ^ k - 1) : (x &&& m).toInt < ((2 ^ k : Nat) : Int) := by
  rw [c_mask x m k hk hm]; exact Int.emod_lt_of_pos _ (Int.natCast_pos.mpr (Nat.two_pow_pos k))
theorem own_maskLo (x m : Int32) (k : Nat) (hk : k ≤ 31) (hm : m.toBitVec.toNat = 2 ^ k - 1) : 0 ≤ (x &&& m).toInt := by
  rw [c_mask x m k hk hm]; exact Int.emod_nonneg _ (Int.natCast_ne_zero.mpr (Nat.ne_of_gt (Nat.two_pow_pos k)))
theorem own_remLo (x y : Int32) (hx : 0 ≤ x.toInt) (hy : 0 < y.toInt) : 0 ≤ (x % y).toInt := ((c_iremV x y).1 hx hy).1
theorem own_remHi (x y : Int32) (hx : 0 ≤ x.toInt) (hy : 0 < y.toInt) : (x % y).toInt < y.toInt := ((c_iremV x y).1 hx hy).2.1
theorem own_nf {s : State} {args : Array Value} {C : String} {z y : MethodName} (hsel : (Jvm.Cond.selects C z z).before args s = true) (e : z.cls = y.cls) : NotFace s y := fun r0 h0 => by
  obtain ⟨c2, r2, m2, -, -, q3, -, kP, hkP, hkPi⟩ := Cond.selects_spec hsel
  have a := findClass_of_methodNamed q3
  rw [e] at a
  have b : m2.cls = r0.cls := Option.some.inj (a.symm.trans (findClass_of_methodNamed h0))
  exact ⟨kP, b ▸ hkP, hkPi⟩
theorem own_privateBack {p : Program} {l : Launch} {e : Env} {R : Room} {s : State} {m : MethodId} {args : Array Value} {below : List Frame} {meth : Method} {c : Code} {T : State} {locs : List Loc} {cells slots : Nat} (X : Stand p l e R s m args below meth c T locs cells slots) (hexec : p.tables.exec = Jvm.exec) {own : String} {index : Nat} {y : MethodName} {bytes : ByteArray} {maxL : Nat} {ret : Option FieldType}
    (hown : s.vm.findClass own = some m.cls) (hlink : (Jvm.Cond.methodLink own index y).before args s = true) (hinst : (Jvm.Cond.instanceMethod y).before args s = true) (hnf : NotFace s y)
    (hpriv : s.PrivateAt y) (hcode : (Jvm.Cond.code y bytes maxL ret).before args s = true) (hy : y.cls ≠ "java/lang/invoke/MethodHandle" ∧ y.cls ≠ "java/lang/invoke/VarHandle")
    {W : Nat} {Pre : Pt → Array Value → Prop} {Post : Pt → Array Value → Option Value → Pt → Prop} (hK : Back l R p e below s args y 3 W Pre Post)
    {g : JFrame} (hg : g.method = m) (hsize : g.locals.size = c.maxLocals) {s₀ : State} (hcome : Steps p.tables e below s₀ (T.setTop g)) {a : Addr} {cell : Cell} (hcell : T.heap[a]? = some cell) (hobj : ∀ q, cell.vm ≠ .statics q)
    {argsL rest : List Value} (hlen : ∀ sig, parseMethodDescriptor y.desc = some sig → argsL.length = sig.parameters.length)
    (hstack : g.stack = argsL.reverse ++ .ref a :: rest) (hW : 2 * g.monitorRoom + (rest.map fun v => v.category).sum ≤ W) (hdg : decode c.code g.pc = .ok (.invokevirtual index, 3))
    (hpre : ∀ vm₁, s.WarmedH vm₁ → Pre ⟨T.setVm vm₁, locs, cells, slots⟩ (.ref a :: argsL).toArray) :
    ∃ (v : Option Value) (vm₁ : Vm) (B : Pt), s.WarmedH vm₁ ∧ Stand p l e R s m args below meth c B.U B.locs B.cells B.slots ∧ Post ⟨T.setVm vm₁, locs, cells, slots⟩ (.ref a :: argsL).toArray v B ∧
      Steps p.tables e below s₀ (B.U.setTop { g with pc := g.pc + 3, stack := v.toList ++ rest }) := by
  obtain ⟨mk, methM, hnamed, hmethM, hstM, habM⟩ := Cond.instanceMethod_spec hinst
  obtain ⟨_, _, hmeth2, -, -, -, -, -, -, hsigM⟩ := Cond.code_spec hnamed hcode
  cases hmethM.symm.trans hmeth2
  obtain ⟨kP, hkP, hkPi⟩ := hnf mk hnamed
  have hselP : selectMethod e.platform s.vm cell.cls mk = .method mk := selectMethod_private hmethM (hpriv mk methM hnamed hmethM)
  obtain ⟨vm₁, X₁, hstep₁⟩ := X.invokevirtual hexec hown hlink hnamed hmethM hstM hkP hkPi hy (a := a) (cell := cell) hcell hobj hselP hmethM habM hkP hkPi (g := g) hg (argsL := argsL) (rest := rest) (hlen _ hsigM) hstack hdg
  obtain ⟨v, B, X2, hpost, hsteps⟩ := hK m meth c ⟨T.setVm vm₁, locs, cells, slots⟩ { g with stack := rest } (.invokevirtual index) mk (.ref a :: argsL).toArray X₁ hg hsize hdg hW (X₁.named hnamed) (hpre vm₁ X₁.warmed)
  exact ⟨v, vm₁, B, X₁.warmed, X2, hpost, (hcome.trans (hstep₁ _ fun acts => by rw [doInvoke_state]; exact Steps.refl _)).trans hsteps⟩
theorem own_staKeep {Z : State} {h h' : Heap} {C n d : String} {v : Value} {ws : List Addr} (F : Sta Z h C n d v) (K : Keep h h' ws) (hn : ∀ x ∈ ws, ∀ cell : Cell, h[x]? = some cell → cell.vm.isStatics = false) : Sta Z h' C n d v := by
  obtain ⟨cf, i, k, f, st, cell, h1, h2, h3, h4, h5, h6, h7⟩ := F
  exact ⟨cf, i, k, f, st, cell, h1, h2, h3, h4, K.2.1 _ _ h5 (fun q => by rw [hn st q cell h5] at h6; cases h6), h6, h7⟩
theorem ef_0 (m : MethodId) (x0 : Int32) : entryFrame m #[(.int x0)] maxLocals = mkF m 0 #[.val (.int x0), .unset, .unset, .unset] [] := by first | (simp [entryFrame, mkF, argsToLocals, Value.category, maxLocals]; done) | rfl
theorem pn_0 : plainName "com/example/ballotwire/ballotwire/protocol/KindClaimsPinLaw" = true := by first | (simp [plainName, overriddenIn]; done) | decide +kernel
theorem own_lt8 (e : Int32) (h0 : 0 ≤ e.toInt) (h1 : e.toInt < 8) : e = (0 : Int32) ∨ e = (1 : Int32) ∨ e = (2 : Int32) ∨ e = (3 : Int32) ∨ e = (4 : Int32) ∨ e = (5 : Int32) ∨ e = (6 : Int32) ∨ e = (7 : Int32) := by
  have h2 : e.toInt = 0 ∨ e.toInt = 1 ∨ e.toInt = 2 ∨ e.toInt = 3 ∨ e.toInt = 4 ∨ e.toInt = 5 ∨ e.toInt = 6 ∨ e.toInt = 7 := by omega
  rcases h2 with h | h | h | h | h | h | h | h
  · exact (Or.inl (Int32.toInt_inj.mp (h.trans (by decide))))
  · exact (Or.inr (Or.inl (Int32.toInt_inj.mp (h.trans (by decide)))))
  · exact (Or.inr (Or.inr (Or.inl (Int32.toInt_inj.mp (h.trans (by decide))))))
  · exact (Or.inr (Or.inr (Or.inr (Or.inl (Int32.toInt_inj.mp (h.trans (by decide)))))))
  · exact (Or.inr (Or.inr (Or.inr (Or.inr (Or.inl (Int32.toInt_inj.mp (h.trans (by decide))))))))
  · exact (Or.inr (Or.inr (Or.inr (Or.inr (Or.inr (Or.inl (Int32.toInt_inj.mp (h.trans (by decide)))))))))
  · exact (Or.inr (Or.inr (Or.inr (Or.inr (Or.inr (Or.inr (Or.inl (Int32.toInt_inj.mp (h.trans (by decide))))))))))
  · exact (Or.inr (Or.inr (Or.inr (Or.inr (Or.inr (Or.inr (Or.inr (Int32.toInt_inj.mp (h.trans (by decide))))))))))
theorem d_method_3_0 : decode method_3_code 0 = .ok (.iload_n 0, 1) := by decide +kernel
theorem d_method_3_1 : decode method_3_code 1 = .ok (.ifCond .ne 7, 3) := by decide +kernel
theorem d_method_3_4 : decode method_3_code 4 = .ok (.getstatic 19, 3) := by decide +kernel
theorem d_method_3_7 : decode method_3_code 7 = .ok (.areturn, 1) := by decide +kernel
theorem ef_1 (m : MethodId)  : entryFrame m #[(.int (0 : Int32))] 1 = mkF m 0 #[.val (.int (0 : Int32))] [] := by first | (simp [entryFrame, mkF, argsToLocals, Value.category, maxLocals]; done) | rfl
def Q1 (Z : State) (a1 : Addr) (h0 : Heap) (n0 : Nat) (v : Option Value) (h : Heap) (L : List Loc) : Prop := v = some (.ref a1) ∧ Fr n0 L ∧ h = h0
set_option maxRecDepth 65536 in
set_option maxHeartbeats 40000000 in
theorem rm1 (l : Launch) (Z : State) (a0 : Array Value) (hw : ∀ d ∈ tables_1, d.before a0 Z = true) (ws : List Jvm.Cond) (a1 : Addr) (h0 : Heap) (n0 : Nat) (Z0 : n0 ≤ h0.size) (S_ELECTION : Sta Z h0 "com/example/ballotwire/ballotwire/protocol/Message$Kind" "ELECTION" "Lcom/example/ballotwire/ballotwire/protocol/Message$Kind;" (.ref a1)) :
    MetFree l (⟨"com/example/ballotwire/ballotwire/protocol/KindClaimsPinLaw", "kindOf", "(I)Lcom/example/ballotwire/ballotwire/protocol/Message$Kind;"⟩ : MethodName) (head1 (Jvm.Cond.code (⟨"com/example/ballotwire/ballotwire/protocol/KindClaimsPinLaw", "kindOf", "(I)Lcom/example/ballotwire/ballotwire/protocol/Message$Kind;"⟩ : MethodName) method_3_code 1 (some (.object "com/example/ballotwire/ballotwire/protocol/Message$Kind")) :: ws) ({ frames := 0, cells := 0, slots := 0, locals := 0 } : Room)) (fun a U => a = #[(.int (0 : Int32))] ∧ Z.Warmed39 U.vm ∧ U.heap = h0) (fun _ _ _ _ _ => True) (fun _ U o U' => ∃ v L, o = .returned v ∧ Q1 Z a1 h0 n0 v U'.heap L ∧ FrameEnd U o U' L ({ frames := 0, cells := 0, slots := 0, locals := 0 } : Room).cells ({ frames := 0, cells := 0, slots := 0, locals := 0 } : Room).slots) := by
  refine MetFree.of_bodySF (plainFor_of_name pn_0) hisR ?_
  intro p e s m args below meth c s₁ Bd hml0 hP hK
  obtain ⟨rfl, hZ, hh⟩ := hP
  have hx := Bd.exec
  have hby := Bd.bytes
  have hml : c.maxLocals = 1 := hml0
  have hown : s.vm.findClass "com/example/ballotwire/ballotwire/protocol/KindClaimsPinLaw" = some m.cls := findClass_of_methodNamed Bd.named
  have hnm := (name_of_methodNamed Bd.named Bd.method).1
  have X0 : Stand p l e ({ frames := 0, cells := 0, slots := 0, locals := 0 } : Room) s m #[(.int (0 : Int32))] below meth c s₁ [] 0 0 := Stand.of_body Bd
  have e0 : s₁.heap = h0 := by rw [← hh, Bd.state]; rfl
  have N0 := Fr.nil n0
  have pre0 : ∀ t, Steps p.tables e below (s₁.setTop (mkF m 0 #[.val (.int (0 : Int32))] [])) t → Steps p.tables e below (s₁.setTop (entryFrame m #[(.int (0 : Int32))] 1)) t := fun t k => castTop (ef_1 m ) k
  obtain ⟨T2, X2, e2, st2⟩ := getS2 X0 hx hZ hown (host := "") (Or.inl (hw _ (List.mem_of_getElem? (i := 4) rfl))) Via.refl e0 S_ELECTION (g := (mkF m 4 #[.val (.int (0 : Int32))] [])) rfl (hb hby d_method_3_4)
  have pre3 : ∀ t, Steps p.tables e below (T2.setTop (mkF m 7 #[.val (.int (0 : Int32))] [(.ref a1)])) t → Steps p.tables e below (s₁.setTop (entryFrame m #[(.int (0 : Int32))] 1)) t := fun t kk => pre0 t (by
    show Steps p.tables e below (s₁.setTop (mkF m 0 #[.val (.int (0 : Int32))] [])) _
    refine XS.iloadN X0.here hx rfl (hb hby d_method_3_0) rfl ?_
    show Steps p.tables e below (s₁.setTop (mkF m 1 #[.val (.int (0 : Int32))] [(.int (0 : Int32))])) _
    refine XS.ifNo X0.here hx rfl (hb hby d_method_3_1) rfl ((if0 _ _).trans (teq ((by decide) : (0 : Int32) = (0 : Int32))).2) ?_
    show Steps p.tables e below (s₁.setTop (mkF m 4 #[.val (.int (0 : Int32))] [])) _
    refine st2 _ ?_
    exact kk)
  obtain ⟨fs, hr, hrun, hended, hW, hsame⟩ := X2.leave (v := some (.ref a1)) (fun h => by rw [Bd.returns] at h; cases h)
  refine ⟨_, _, pre3 _ ?_, hrun, hended, _, _, rfl, ?_, ⟨_, rfl⟩, hW, hsame.mono (by decide) (by decide)⟩
  · exact retOut X2 hx Bd.returns rfl (Or.inr (Or.inr (Or.inr (Or.inr ⟨rfl, rfl, rfl⟩)))) (hb hby d_method_3_7) hr
  · show Q1 Z a1 h0 n0 _ T2.heap _
    rw [e2]
    exact ⟨rfl, N0, rfl⟩
theorem pd_0 : parseMethodDescriptor "(I)Lcom/example/ballotwire/ballotwire/protocol/Message$Kind;" = some ⟨[.int], some (.object "com/example/ballotwire/ballotwire/protocol/Message$Kind")⟩ := by decide +kernel
theorem d_prog_66_method_5_0 : decode prog_66_method_5_code 0 = .ok (.aload_n 0, 1) := by decide +kernel
theorem d_prog_66_method_5_1 : decode prog_66_method_5_code 1 = .ok (.getstatic 7, 3) := by decide +kernel
theorem d_prog_66_method_5_4 : decode prog_66_method_5_code 4 = .ok (.if_acmp .eq 17, 3) := by decide +kernel
theorem d_prog_66_method_5_7 : decode prog_66_method_5_code 7 = .ok (.aload_n 0, 1) := by decide +kernel
theorem d_prog_66_method_5_8 : decode prog_66_method_5_code 8 = .ok (.getstatic 10, 3) := by decide +kernel
theorem d_prog_66_method_5_11 : decode prog_66_method_5_code 11 = .ok (.if_acmp .eq 10, 3) := by decide +kernel
theorem d_prog_66_method_5_14 : decode prog_66_method_5_code 14 = .ok (.aload_n 0, 1) := by decide +kernel
theorem d_prog_66_method_5_15 : decode prog_66_method_5_code 15 = .ok (.getstatic 13, 3) := by decide +kernel
theorem d_prog_66_method_5_18 : decode prog_66_method_5_code 18 = .ok (.if_acmp .ne 7, 3) := by decide +kernel
theorem d_prog_66_method_5_25 : decode prog_66_method_5_code 25 = .ok (.iconst 0, 1) := by decide +kernel
theorem d_prog_66_method_5_26 : decode prog_66_method_5_code 26 = .ok (.ireturn, 1) := by decide +kernel
theorem ef_2 (m : MethodId) (x0 : Addr) : entryFrame m #[(.ref x0)] 1 = mkF m 0 #[.val (.ref x0)] [] := by first | (simp [entryFrame, mkF, argsToLocals, Value.category, maxLocals]; done) | rfl
theorem pn_1 : plainName "com/example/ballotwire/ballotwire/protocol/Message$Kind" = true := by first | (simp [plainName, overriddenIn]; done) | decide +kernel
def Q2 (Z : State) (a1 : Addr) (a2 : Addr) (a4 : Addr) (a6 : Addr) (h0 : Heap) (n0 : Nat) (v : Option Value) (h : Heap) (L : List Loc) : Prop := v = some (.int (0 : Int32)) ∧ Fr n0 L ∧ h = h0
set_option maxRecDepth 65536 in
set_option maxHeartbeats 40000000 in
theorem rm2 (l : Launch) (Z : State) (a0 : Array Value) (hw : ∀ d ∈ tables_1, d.before a0 Z = true) (ws : List Jvm.Cond) (a1 : Addr) (a2 : Addr) (a4 : Addr) (a6 : Addr) (h0 : Heap) (n0 : Nat) (Z0 : n0 ≤ h0.size) (S_COORDINATOR : Sta Z h0 "com/example/ballotwire/ballotwire/protocol/Message$Kind" "COORDINATOR" "Lcom/example/ballotwire/ballotwire/protocol/Message$Kind;" (.ref a2)) (ne_a1_a2 : a1 ≠ a2) (S_HEARTBEAT : Sta Z h0 "com/example/ballotwire/ballotwire/protocol/Message$Kind" "HEARTBEAT" "Lcom/example/ballotwire/ballotwire/protocol/Message$Kind;" (.ref a4)) (ne_a1_a4 : a1 ≠ a4) (S_CLAIM : Sta Z h0 "com/example/ballotwire/ballotwire/protocol/Message$Kind" "CLAIM" "Lcom/example/ballotwire/ballotwire/protocol/Message$Kind;" (.ref a6)) (ne_a1_a6 : a1 ≠ a6) :
    MetFree l (⟨"com/example/ballotwire/ballotwire/protocol/Message$Kind", "claims", "()Z"⟩ : MethodName) (head1 (Jvm.Cond.code (⟨"com/example/ballotwire/ballotwire/protocol/Message$Kind", "claims", "()Z"⟩ : MethodName) prog_66_method_5_code 1 (some .boolean) :: ws) ({ frames := 0, cells := 0, slots := 0, locals := 0 } : Room)) (fun a U => a = #[(.ref a1)] ∧ Z.Warmed39 U.vm ∧ U.heap = h0) (fun _ _ _ _ _ => True) (fun _ U o U' => ∃ v L, o = .returned v ∧ Q2 Z a1 a2 a4 a6 h0 n0 v U'.heap L ∧ FrameEnd U o U' L ({ frames := 0, cells := 0, slots := 0, locals := 0 } : Room).cells ({ frames := 0, cells := 0, slots := 0, locals := 0 } : Room).slots) := by
  refine MetFree.of_bodySF (plainFor_of_name pn_1) hisR ?_
  intro p e s m args below meth c s₁ Bd hml0 hP hK
  obtain ⟨rfl, hZ, hh⟩ := hP
  have hx := Bd.exec
  have hby := Bd.bytes
  have hml : c.maxLocals = 1 := hml0
  have hown : s.vm.findClass "com/example/ballotwire/ballotwire/protocol/Message$Kind" = some m.cls := findClass_of_methodNamed Bd.named
  have hnm := (name_of_methodNamed Bd.named Bd.method).1
  have X0 : Stand p l e ({ frames := 0, cells := 0, slots := 0, locals := 0 } : Room) s m #[(.ref a1)] below meth c s₁ [] 0 0 := Stand.of_body Bd
  have e0 : s₁.heap = h0 := by rw [← hh, Bd.state]; rfl
  have N0 := Fr.nil n0
  have pre0 : ∀ t, Steps p.tables e below (s₁.setTop (mkF m 0 #[.val (.ref a1)] [])) t → Steps p.tables e below (s₁.setTop (entryFrame m #[(.ref a1)] 1)) t := fun t k => castTop (ef_2 m a1) k
  obtain ⟨T3, X3, e3, st3⟩ := getS2 X0 hx hZ hown (host := "") (Or.inl (hw _ (List.mem_of_getElem? (i := 12) rfl))) Via.refl e0 S_COORDINATOR (g := (mkF m 1 #[.val (.ref a1)] [(.ref a1)])) rfl (hb hby d_prog_66_method_5_1)
  obtain ⟨T5, X5, e5, st5⟩ := getS2 X3 hx hZ hown (host := "") (Or.inl (hw _ (List.mem_of_getElem? (i := 14) rfl))) Via.refl e3 S_HEARTBEAT (g := (mkF m 8 #[.val (.ref a1)] [(.ref a1)])) rfl (hb hby d_prog_66_method_5_8)
  obtain ⟨T7, X7, e7, st7⟩ := getS2 X5 hx hZ hown (host := "") (Or.inl (hw _ (List.mem_of_getElem? (i := 16) rfl))) Via.refl e5 S_CLAIM (g := (mkF m 15 #[.val (.ref a1)] [(.ref a1)])) rfl (hb hby d_prog_66_method_5_15)
  have pre8 : ∀ t, Steps p.tables e below (T7.setTop (mkF m 26 #[.val (.ref a1)] [(.int (0 : Int32))])) t → Steps p.tables e below (s₁.setTop (entryFrame m #[(.ref a1)] 1)) t := fun t kk => pre0 t (by
    show Steps p.tables e below (s₁.setTop (mkF m 0 #[.val (.ref a1)] [])) _
    refine XS.aloadN X0.here hx rfl (hb hby d_prog_66_method_5_0) rfl rfl ?_
    show Steps p.tables e below (s₁.setTop (mkF m 1 #[.val (.ref a1)] [(.ref a1)])) _
    refine st3 _ ?_
    show Steps p.tables e below (T3.setTop (mkF m 4 #[.val (.ref a1)] [(.ref a2), (.ref a1)])) _
    refine Jvm.RoadKit.acmp (g := (mkF m 4 #[.val (.ref a1)] [(.ref a2), (.ref a1)])) X3 hx rfl rfl rfl (pc0 := 4) (pc' := 7) (same := false) rfl (hb hby d_prog_66_method_5_4) rfl (decide_eq_false fun q => ne_a1_a2 (Value.ref.inj q)) (by decide) (by decide) ?_
    show Steps p.tables e below (T3.setTop (mkF m 7 #[.val (.ref a1)] [])) _
    refine XS.aloadN X3.here hx rfl (hb hby d_prog_66_method_5_7) rfl rfl ?_
    show Steps p.tables e below (T3.setTop (mkF m 8 #[.val (.ref a1)] [(.ref a1)])) _
    refine st5 _ ?_
    show Steps p.tables e below (T5.setTop (mkF m 11 #[.val (.ref a1)] [(.ref a4), (.ref a1)])) _
    refine Jvm.RoadKit.acmp (g := (mkF m 11 #[.val (.ref a1)] [(.ref a4), (.ref a1)])) X5 hx rfl rfl rfl (pc0 := 11) (pc' := 14) (same := false) rfl (hb hby d_prog_66_method_5_11) rfl (decide_eq_false fun q => ne_a1_a4 (Value.ref.inj q)) (by decide) (by decide) ?_
    show Steps p.tables e below (T5.setTop (mkF m 14 #[.val (.ref a1)] [])) _
    refine XS.aloadN X5.here hx rfl (hb hby d_prog_66_method_5_14) rfl rfl ?_
    show Steps p.tables e below (T5.setTop (mkF m 15 #[.val (.ref a1)] [(.ref a1)])) _
    refine st7 _ ?_
    show Steps p.tables e below (T7.setTop (mkF m 18 #[.val (.ref a1)] [(.ref a6), (.ref a1)])) _
    refine Jvm.RoadKit.acmp (g := (mkF m 18 #[.val (.ref a1)] [(.ref a6), (.ref a1)])) X7 hx rfl rfl rfl (pc0 := 18) (pc' := 25) (same := false) rfl (hb hby d_prog_66_method_5_18) rfl (decide_eq_false fun q => ne_a1_a6 (Value.ref.inj q)) (by decide) (by decide) ?_
    show Steps p.tables e below (T7.setTop (mkF m 25 #[.val (.ref a1)] [])) _
    refine XS.iconst X7.here hx rfl (hb hby d_prog_66_method_5_25) ?_
    exact kk)
  obtain ⟨fs, hr, hrun, hended, hW, hsame⟩ := X7.leave (v := some (.int (0 : Int32))) (fun h => by rw [Bd.returns] at h; cases h)
  refine ⟨_, _, pre8 _ ?_, hrun, hended, _, _, rfl, ?_, ⟨_, rfl⟩, hW, hsame.mono (by decide) (by decide)⟩
  · exact retN X7 hx (t := .boolean) Bd.returns (by simp) (hb hby d_prog_66_method_5_26) hr
  · show Q2 Z a1 a2 a4 a6 h0 n0 _ T7.heap _
    rw [e7]
    exact ⟨rfl, N0, rfl⟩
theorem pd_1 : parseMethodDescriptor "()Z" = some ⟨[], some .boolean⟩ := by decide +kernel
theorem d_method_3_8 : decode method_3_code 8 = .ok (.iload_n 0, 1) := by decide +kernel
theorem d_method_3_9 : decode method_3_code 9 = .ok (.iconst 1, 1) := by decide +kernel
theorem d_method_3_10 : decode method_3_code 10 = .ok (.if_icmp .ne 7, 3) := by decide +kernel
theorem d_method_3_13 : decode method_3_code 13 = .ok (.getstatic 23, 3) := by decide +kernel
theorem d_method_3_16 : decode method_3_code 16 = .ok (.areturn, 1) := by decide +kernel
theorem ef_3 (m : MethodId)  : entryFrame m #[(.int (1 : Int32))] 1 = mkF m 0 #[.val (.int (1 : Int32))] [] := by first | (simp [entryFrame, mkF, argsToLocals, Value.category, maxLocals]; done) | rfl
def Q3 (Z : State) (a1 : Addr) (h0 : Heap) (n0 : Nat) (v : Option Value) (h : Heap) (L : List Loc) : Prop := v = some (.ref a1) ∧ Fr n0 L ∧ h = h0
set_option maxRecDepth 65536 in
set_option maxHeartbeats 40000000 in
theorem rm3 (l : Launch) (Z : State) (a0 : Array Value) (hw : ∀ d ∈ tables_1, d.before a0 Z = true) (ws : List Jvm.Cond) (a1 : Addr) (h0 : Heap) (n0 : Nat) (Z0 : n0 ≤ h0.size) (S_COORDINATOR : Sta Z h0 "com/example/ballotwire/ballotwire/protocol/Message$Kind" "COORDINATOR" "Lcom/example/ballotwire/ballotwire/protocol/Message$Kind;" (.ref a1)) :
    MetFree l (⟨"com/example/ballotwire/ballotwire/protocol/KindClaimsPinLaw", "kindOf", "(I)Lcom/example/ballotwire/ballotwire/protocol/Message$Kind;"⟩ : MethodName) (head1 (Jvm.Cond.code (⟨"com/example/ballotwire/ballotwire/protocol/KindClaimsPinLaw", "kindOf", "(I)Lcom/example/ballotwire/ballotwire/protocol/Message$Kind;"⟩ : MethodName) method_3_code 1 (some (.object "com/example/ballotwire/ballotwire/protocol/Message$Kind")) :: ws) ({ frames := 0, cells := 0, slots := 0, locals := 0 } : Room)) (fun a U => a = #[(.int (1 : Int32))] ∧ Z.Warmed39 U.vm ∧ U.heap = h0) (fun _ _ _ _ _ => True) (fun _ U o U' => ∃ v L, o = .returned v ∧ Q3 Z a1 h0 n0 v U'.heap L ∧ FrameEnd U o U' L ({ frames := 0, cells := 0, slots := 0, locals := 0 } : Room).cells ({ frames := 0, cells := 0, slots := 0, locals := 0 } : Room).slots) := by
  refine MetFree.of_bodySF (plainFor_of_name pn_0) hisR ?_
  intro p e s m args below meth c s₁ Bd hml0 hP hK
  obtain ⟨rfl, hZ, hh⟩ := hP
  have hx := Bd.exec
  have hby := Bd.bytes
  have hml : c.maxLocals = 1 := hml0
  have hown : s.vm.findClass "com/example/ballotwire/ballotwire/protocol/KindClaimsPinLaw" = some m.cls := findClass_of_methodNamed Bd.named
  have hnm := (name_of_methodNamed Bd.named Bd.method).1
  have X0 : Stand p l e ({ frames := 0, cells := 0, slots := 0, locals := 0 } : Room) s m #[(.int (1 : Int32))] below meth c s₁ [] 0 0 := Stand.of_body Bd
  have e0 : s₁.heap = h0 := by rw [← hh, Bd.state]; rfl
  have N0 := Fr.nil n0
  have pre0 : ∀ t, Steps p.tables e below (s₁.setTop (mkF m 0 #[.val (.int (1 : Int32))] [])) t → Steps p.tables e below (s₁.setTop (entryFrame m #[(.int (1 : Int32))] 1)) t := fun t k => castTop (ef_3 m ) k
  obtain ⟨T2, X2, e2, st2⟩ := getS2 X0 hx hZ hown (host := "") (Or.inl (hw _ (List.mem_of_getElem? (i := 24) rfl))) Via.refl e0 S_COORDINATOR (g := (mkF m 13 #[.val (.int (1 : Int32))] [])) rfl (hb hby d_method_3_13)
  have pre3 : ∀ t, Steps p.tables e below (T2.setTop (mkF m 16 #[.val (.int (1 : Int32))] [(.ref a1)])) t → Steps p.tables e below (s₁.setTop (entryFrame m #[(.int (1 : Int32))] 1)) t := fun t kk => pre0 t (by
    show Steps p.tables e below (s₁.setTop (mkF m 0 #[.val (.int (1 : Int32))] [])) _
    refine XS.iloadN X0.here hx rfl (hb hby d_method_3_0) rfl ?_
    show Steps p.tables e below (s₁.setTop (mkF m 1 #[.val (.int (1 : Int32))] [(.int (1 : Int32))])) _
    refine XS.ifYes X0.here hx rfl (pc0 := 1) (pc' := 8) rfl (hb hby d_method_3_1) rfl ((if0 _ _).trans (feq ((by decide) : ¬ ((1 : Int32) = (0 : Int32)))).2) (by decide) (by decide) ?_
    show Steps p.tables e below (s₁.setTop (mkF m 8 #[.val (.int (1 : Int32))] [])) _
    refine XS.iloadN X0.here hx rfl (hb hby d_method_3_8) rfl ?_
    show Steps p.tables e below (s₁.setTop (mkF m 9 #[.val (.int (1 : Int32))] [(.int (1 : Int32))])) _
    refine XS.iconst X0.here hx rfl (hb hby d_method_3_9) ?_
    show Steps p.tables e below (s₁.setTop (mkF m 10 #[.val (.int (1 : Int32))] [(.int (1 : Int32)), (.int (1 : Int32))])) _
    refine XS.icmpNo X0.here hx rfl (hb hby d_method_3_10) rfl (teq ((by decide) : (1 : Int32) = (1 : Int32))).2 ?_
    show Steps p.tables e below (s₁.setTop (mkF m 13 #[.val (.int (1 : Int32))] [])) _
    refine st2 _ ?_
    exact kk)
  obtain ⟨fs, hr, hrun, hended, hW, hsame⟩ := X2.leave (v := some (.ref a1)) (fun h => by rw [Bd.returns] at h; cases h)
  refine ⟨_, _, pre3 _ ?_, hrun, hended, _, _, rfl, ?_, ⟨_, rfl⟩, hW, hsame.mono (by decide) (by decide)⟩
  · exact retOut X2 hx Bd.returns rfl (Or.inr (Or.inr (Or.inr (Or.inr ⟨rfl, rfl, rfl⟩)))) (hb hby d_method_3_16) hr
  · show Q3 Z a1 h0 n0 _ T2.heap _
    rw [e2]
    exact ⟨rfl, N0, rfl⟩
theorem d_prog_66_method_5_21 : decode prog_66_method_5_code 21 = .ok (.iconst 1, 1) := by decide +kernel
theorem d_prog_66_method_5_22 : decode prog_66_method_5_code 22 = .ok (.goto 4, 3) := by decide +kernel
def Q4 (Z : State) (a1 : Addr) (h0 : Heap) (n0 : Nat) (v : Option Value) (h : Heap) (L : List Loc) : Prop := v = some (.int (1 : Int32)) ∧ Fr n0 L ∧ h = h0
set_option maxRecDepth 65536 in
set_option maxHeartbeats 40000000 in
theorem rm4 (l : Launch) (Z : State) (a0 : Array Value) (hw : ∀ d ∈ tables_1, d.before a0 Z = true) (ws : List Jvm.Cond) (a1 : Addr) (h0 : Heap) (n0 : Nat) (Z0 : n0 ≤ h0.size) (S_COORDINATOR : Sta Z h0 "com/example/ballotwire/ballotwire/protocol/Message$Kind" "COORDINATOR" "Lcom/example/ballotwire/ballotwire/protocol/Message$Kind;" (.ref a1)) :
    MetFree l (⟨"com/example/ballotwire/ballotwire/protocol/Message$Kind", "claims", "()Z"⟩ : MethodName) (head1 (Jvm.Cond.code (⟨"com/example/ballotwire/ballotwire/protocol/Message$Kind", "claims", "()Z"⟩ : MethodName) prog_66_method_5_code 1 (some .boolean) :: ws) ({ frames := 0, cells := 0, slots := 0, locals := 0 } : Room)) (fun a U => a = #[(.ref a1)] ∧ Z.Warmed39 U.vm ∧ U.heap = h0) (fun _ _ _ _ _ => True) (fun _ U o U' => ∃ v L, o = .returned v ∧ Q4 Z a1 h0 n0 v U'.heap L ∧ FrameEnd U o U' L ({ frames := 0, cells := 0, slots := 0, locals := 0 } : Room).cells ({ frames := 0, cells := 0, slots := 0, locals := 0 } : Room).slots) := by
  refine MetFree.of_bodySF (plainFor_of_name pn_1) hisR ?_
  intro p e s m args below meth c s₁ Bd hml0 hP hK
  obtain ⟨rfl, hZ, hh⟩ := hP
  have hx := Bd.exec
  have hby := Bd.bytes
  have hml : c.maxLocals = 1 := hml0
  have hown : s.vm.findClass "com/example/ballotwire/ballotwire/protocol/Message$Kind" = some m.cls := findClass_of_methodNamed Bd.named
  have hnm := (name_of_methodNamed Bd.named Bd.method).1
  have X0 : Stand p l e ({ frames := 0, cells := 0, slots := 0, locals := 0 } : Room) s m #[(.ref a1)] below meth c s₁ [] 0 0 := Stand.of_body Bd
  have e0 : s₁.heap = h0 := by rw [← hh, Bd.state]; rfl
  have N0 := Fr.nil n0
  have pre0 : ∀ t, Steps p.tables e below (s₁.setTop (mkF m 0 #[.val (.ref a1)] [])) t → Steps p.tables e below (s₁.setTop (entryFrame m #[(.ref a1)] 1)) t := fun t k => castTop (ef_2 m a1) k
  obtain ⟨T2, X2, e2, st2⟩ := getS2 X0 hx hZ hown (host := "") (Or.inl (hw _ (List.mem_of_getElem? (i := 12) rfl))) Via.refl e0 S_COORDINATOR (g := (mkF m 1 #[.val (.ref a1)] [(.ref a1)])) rfl (hb hby d_prog_66_method_5_1)
  have pre3 : ∀ t, Steps p.tables e below (T2.setTop (mkF m 26 #[.val (.ref a1)] [(.int (1 : Int32))])) t → Steps p.tables e below (s₁.setTop (entryFrame m #[(.ref a1)] 1)) t := fun t kk => pre0 t (by
    show Steps p.tables e below (s₁.setTop (mkF m 0 #[.val (.ref a1)] [])) _
    refine XS.aloadN X0.here hx rfl (hb hby d_prog_66_method_5_0) rfl rfl ?_
    show Steps p.tables e below (s₁.setTop (mkF m 1 #[.val (.ref a1)] [(.ref a1)])) _
    refine st2 _ ?_
    show Steps p.tables e below (T2.setTop (mkF m 4 #[.val (.ref a1)] [(.ref a1), (.ref a1)])) _
    refine Jvm.RoadKit.acmp (g := (mkF m 4 #[.val (.ref a1)] [(.ref a1), (.ref a1)])) X2 hx rfl rfl rfl (pc0 := 4) (pc' := 21) (same := true) rfl (hb hby d_prog_66_method_5_4) rfl (decide_eq_true rfl) (by decide) (by decide) ?_
    show Steps p.tables e below (T2.setTop (mkF m 21 #[.val (.ref a1)] [])) _
    refine XS.iconst X2.here hx rfl (hb hby d_prog_66_method_5_21) ?_
    show Steps p.tables e below (T2.setTop (mkF m 22 #[.val (.ref a1)] [(.int (1 : Int32))])) _
    refine XS.goto X2.here hx rfl (pc0 := 22) (pc' := 26) rfl (hb hby d_prog_66_method_5_22) (by decide) (by decide) ?_
    exact kk)
  obtain ⟨fs, hr, hrun, hended, hW, hsame⟩ := X2.leave (v := some (.int (1 : Int32))) (fun h => by rw [Bd.returns] at h; cases h)
  refine ⟨_, _, pre3 _ ?_, hrun, hended, _, _, rfl, ?_, ⟨_, rfl⟩, hW, hsame.mono (by decide) (by decide)⟩
  · exact retN X2 hx (t := .boolean) Bd.returns (by simp) (hb hby d_prog_66_method_5_26) hr
  · show Q4 Z a1 h0 n0 _ T2.heap _
    rw [e2]
    exact ⟨rfl, N0, rfl⟩
theorem d_method_3_17 : decode method_3_code 17 = .ok (.iload_n 0, 1) := by decide +kernel
theorem d_method_3_18 : decode method_3_code 18 = .ok (.iconst 2, 1) := by decide +kernel
theorem d_method_3_19 : decode method_3_code 19 = .ok (.if_icmp .ne 7, 3) := by decide +kernel
theorem d_method_3_22 : decode method_3_code 22 = .ok (.getstatic 26, 3) := by decide +kernel
theorem d_method_3_25 : decode method_3_code 25 = .ok (.areturn, 1) := by decide +kernel
theorem ef_4 (m : MethodId)  : entryFrame m #[(.int (2 : Int32))] 1 = mkF m 0 #[.val (.int (2 : Int32))] [] := by first | (simp [entryFrame, mkF, argsToLocals, Value.category, maxLocals]; done) | rfl
def Q5 (Z : State) (a1 : Addr) (h0 : Heap) (n0 : Nat) (v : Option Value) (h : Heap) (L : List Loc) : Prop := v = some (.ref a1) ∧ Fr n0 L ∧ h = h0
set_option maxRecDepth 65536 in
set_option maxHeartbeats 40000000 in
theorem rm5 (l : Launch) (Z : State) (a0 : Array Value) (hw : ∀ d ∈ tables_1, d.before a0 Z = true) (ws : List Jvm.Cond) (a1 : Addr) (h0 : Heap) (n0 : Nat) (Z0 : n0 ≤ h0.size) (S_HEARTBEAT : Sta Z h0 "com/example/ballotwire/ballotwire/protocol/Message$Kind" "HEARTBEAT" "Lcom/example/ballotwire/ballotwire/protocol/Message$Kind;" (.ref a1)) :
    MetFree l (⟨"com/example/ballotwire/ballotwire/protocol/KindClaimsPinLaw", "kindOf", "(I)Lcom/example/ballotwire/ballotwire/protocol/Message$Kind;"⟩ : MethodName) (head1 (Jvm.Cond.code (⟨"com/example/ballotwire/ballotwire/protocol/KindClaimsPinLaw", "kindOf", "(I)Lcom/example/ballotwire/ballotwire/protocol/Message$Kind;"⟩ : MethodName) method_3_code 1 (some (.object "com/example/ballotwire/ballotwire/protocol/Message$Kind")) :: ws) ({ frames := 0, cells := 0, slots := 0, locals := 0 } : Room)) (fun a U => a = #[(.int (2 : Int32))] ∧ Z.Warmed39 U.vm ∧ U.heap = h0) (fun _ _ _ _ _ => True) (fun _ U o U' => ∃ v L, o = .returned v ∧ Q5 Z a1 h0 n0 v U'.heap L ∧ FrameEnd U o U' L ({ frames := 0, cells := 0, slots := 0, locals := 0 } : Room).cells ({ frames := 0, cells := 0, slots := 0, locals := 0 } : Room).slots) := by
  refine MetFree.of_bodySF (plainFor_of_name pn_0) hisR ?_
  intro p e s m args below meth c s₁ Bd hml0 hP hK
  obtain ⟨rfl, hZ, hh⟩ := hP
  have hx := Bd.exec
  have hby := Bd.bytes
  have hml : c.maxLocals = 1 := hml0
  have hown : s.vm.findClass "com/example/ballotwire/ballotwire/protocol/KindClaimsPinLaw" = some m.cls := findClass_of_methodNamed Bd.named
  have hnm := (name_of_methodNamed Bd.named Bd.method).1
  have X0 : Stand p l e ({ frames := 0, cells := 0, slots := 0, locals := 0 } : Room) s m #[(.int (2 : Int32))] below meth c s₁ [] 0 0 := Stand.of_body Bd
  have e0 : s₁.heap = h0 := by rw [← hh, Bd.state]; rfl
  have N0 := Fr.nil n0
  have pre0 : ∀ t, Steps p.tables e below (s₁.setTop (mkF m 0 #[.val (.int (2 : Int32))] [])) t → Steps p.tables e below (s₁.setTop (entryFrame m #[(.int (2 : Int32))] 1)) t := fun t k => castTop (ef_4 m ) k
  obtain ⟨T2, X2, e2, st2⟩ := getS2 X0 hx hZ hown (host := "") (Or.inl (hw _ (List.mem_of_getElem? (i := 23) rfl))) Via.refl e0 S_HEARTBEAT (g := (mkF m 22 #[.val (.int (2 : Int32))] [])) rfl (hb hby d_method_3_22)
  have pre3 : ∀ t, Steps p.tables e below (T2.setTop (mkF m 25 #[.val (.int (2 : Int32))] [(.ref a1)])) t → Steps p.tables e below (s₁.setTop (entryFrame m #[(.int (2 : Int32))] 1)) t := fun t kk => pre0 t (by
    show Steps p.tables e below (s₁.setTop (mkF m 0 #[.val (.int (2 : Int32))] [])) _
    refine XS.iloadN X0.here hx rfl (hb hby d_method_3_0) rfl ?_
    show Steps p.tables e below (s₁.setTop (mkF m 1 #[.val (.int (2 : Int32))] [(.int (2 : Int32))])) _
    refine XS.ifYes X0.here hx rfl (pc0 := 1) (pc' := 8) rfl (hb hby d_method_3_1) rfl ((if0 _ _).trans (feq ((by decide) : ¬ ((2 : Int32) = (0 : Int32)))).2) (by decide) (by decide) ?_
    show Steps p.tables e below (s₁.setTop (mkF m 8 #[.val (.int (2 : Int32))] [])) _
    refine XS.iloadN X0.here hx rfl (hb hby d_method_3_8) rfl ?_
    show Steps p.tables e below (s₁.setTop (mkF m 9 #[.val (.int (2 : Int32))] [(.int (2 : Int32))])) _
    refine XS.iconst X0.here hx rfl (hb hby d_method_3_9) ?_
    show Steps p.tables e below (s₁.setTop (mkF m 10 #[.val (.int (2 : Int32))] [(.int (1 : Int32)), (.int (2 : Int32))])) _
    refine XS.icmpYes X0.here hx rfl (pc0 := 10) (pc' := 17) rfl (hb hby d_method_3_10) rfl (feq ((by decide) : ¬ ((2 : Int32) = (1 : Int32)))).2 (by decide) (by decide) ?_
    show Steps p.tables e below (s₁.setTop (mkF m 17 #[.val (.int (2 : Int32))] [])) _
    refine XS.iloadN X0.here hx rfl (hb hby d_method_3_17) rfl ?_
    show Steps p.tables e below (s₁.setTop (mkF m 18 #[.val (.int (2 : Int32))] [(.int (2 : Int32))])) _
    refine XS.iconst X0.here hx rfl (hb hby d_method_3_18) ?_
    show Steps p.tables e below (s₁.setTop (mkF m 19 #[.val (.int (2 : Int32))] [(.int (2 : Int32)), (.int (2 : Int32))])) _
    refine XS.icmpNo X0.here hx rfl (hb hby d_method_3_19) rfl (teq ((by decide) : (2 : Int32) = (2 : Int32))).2 ?_
    show Steps p.tables e below (s₁.setTop (mkF m 22 #[.val (.int (2 : Int32))] [])) _
    refine st2 _ ?_
    exact kk)
  obtain ⟨fs, hr, hrun, hended, hW, hsame⟩ := X2.leave (v := some (.ref a1)) (fun h => by rw [Bd.returns] at h; cases h)
  refine ⟨_, _, pre3 _ ?_, hrun, hended, _, _, rfl, ?_, ⟨_, rfl⟩, hW, hsame.mono (by decide) (by decide)⟩
  · exact retOut X2 hx Bd.returns rfl (Or.inr (Or.inr (Or.inr (Or.inr ⟨rfl, rfl, rfl⟩)))) (hb hby d_method_3_25) hr
  · show Q5 Z a1 h0 n0 _ T2.heap _
    rw [e2]
    exact ⟨rfl, N0, rfl⟩
def Q6 (Z : State) (a1 : Addr) (a2 : Addr) (h0 : Heap) (n0 : Nat) (v : Option Value) (h : Heap) (L : List Loc) : Prop := v = some (.int (1 : Int32)) ∧ Fr n0 L ∧ h = h0
set_option maxRecDepth 65536 in
set_option maxHeartbeats 40000000 in
theorem rm6 (l : Launch) (Z : State) (a0 : Array Value) (hw : ∀ d ∈ tables_1, d.before a0 Z = true) (ws : List Jvm.Cond) (a1 : Addr) (a2 : Addr) (h0 : Heap) (n0 : Nat) (Z0 : n0 ≤ h0.size) (S_COORDINATOR : Sta Z h0 "com/example/ballotwire/ballotwire/protocol/Message$Kind" "COORDINATOR" "Lcom/example/ballotwire/ballotwire/protocol/Message$Kind;" (.ref a2)) (ne_a1_a2 : a1 ≠ a2) (S_HEARTBEAT : Sta Z h0 "com/example/ballotwire/ballotwire/protocol/Message$Kind" "HEARTBEAT" "Lcom/example/ballotwire/ballotwire/protocol/Message$Kind;" (.ref a1)) :
    MetFree l (⟨"com/example/ballotwire/ballotwire/protocol/Message$Kind", "claims", "()Z"⟩ : MethodName) (head1 (Jvm.Cond.code (⟨"com/example/ballotwire/ballotwire/protocol/Message$Kind", "claims", "()Z"⟩ : MethodName) prog_66_method_5_code 1 (some .boolean) :: ws) ({ frames := 0, cells := 0, slots := 0, locals := 0 } : Room)) (fun a U => a = #[(.ref a1)] ∧ Z.Warmed39 U.vm ∧ U.heap = h0) (fun _ _ _ _ _ => True) (fun _ U o U' => ∃ v L, o = .returned v ∧ Q6 Z a1 a2 h0 n0 v U'.heap L ∧ FrameEnd U o U' L ({ frames := 0, cells := 0, slots := 0, locals := 0 } : Room).cells ({ frames := 0, cells := 0, slots := 0, locals := 0 } : Room).slots) := by
  refine MetFree.of_bodySF (plainFor_of_name pn_1) hisR ?_
  intro p e s m args below meth c s₁ Bd hml0 hP hK
  obtain ⟨rfl, hZ, hh⟩ := hP
  have hx := Bd.exec
  have hby := Bd.bytes
  have hml : c.maxLocals = 1 := hml0
  have hown : s.vm.findClass "com/example/ballotwire/ballotwire/protocol/Message$Kind" = some m.cls := findClass_of_methodNamed Bd.named
  have hnm := (name_of_methodNamed Bd.named Bd.method).1
  have X0 : Stand p l e ({ frames := 0, cells := 0, slots := 0, locals := 0 } : Room) s m #[(.ref a1)] below meth c s₁ [] 0 0 := Stand.of_body Bd
  have e0 : s₁.heap = h0 := by rw [← hh, Bd.state]; rfl
  have N0 := Fr.nil n0
  have pre0 : ∀ t, Steps p.tables e below (s₁.setTop (mkF m 0 #[.val (.ref a1)] [])) t → Steps p.tables e below (s₁.setTop (entryFrame m #[(.ref a1)] 1)) t := fun t k => castTop (ef_2 m a1) k
  obtain ⟨T3, X3, e3, st3⟩ := getS2 X0 hx hZ hown (host := "") (Or.inl (hw _ (List.mem_of_getElem? (i := 12) rfl))) Via.refl e0 S_COORDINATOR (g := (mkF m 1 #[.val (.ref a1)] [(.ref a1)])) rfl (hb hby d_prog_66_method_5_1)
  obtain ⟨T4, X4, e4, st4⟩ := getS2 X3 hx hZ hown (host := "") (Or.inl (hw _ (List.mem_of_getElem? (i := 14) rfl))) Via.refl e3 S_HEARTBEAT (g := (mkF m 8 #[.val (.ref a1)] [(.ref a1)])) rfl (hb hby d_prog_66_method_5_8)
  have pre5 : ∀ t, Steps p.tables e below (T4.setTop (mkF m 26 #[.val (.ref a1)] [(.int (1 : Int32))])) t → Steps p.tables e below (s₁.setTop (entryFrame m #[(.ref a1)] 1)) t := fun t kk => pre0 t (by
    show Steps p.tables e below (s₁.setTop (mkF m 0 #[.val (.ref a1)] [])) _
    refine XS.aloadN X0.here hx rfl (hb hby d_prog_66_method_5_0) rfl rfl ?_
    show Steps p.tables e below (s₁.setTop (mkF m 1 #[.val (.ref a1)] [(.ref a1)])) _
    refine st3 _ ?_
    show Steps p.tables e below (T3.setTop (mkF m 4 #[.val (.ref a1)] [(.ref a2), (.ref a1)])) _
    refine Jvm.RoadKit.acmp (g := (mkF m 4 #[.val (.ref a1)] [(.ref a2), (.ref a1)])) X3 hx rfl rfl rfl (pc0 := 4) (pc' := 7) (same := false) rfl (hb hby d_prog_66_method_5_4) rfl (decide_eq_false fun q => ne_a1_a2 (Value.ref.inj q)) (by decide) (by decide) ?_
    show Steps p.tables e below (T3.setTop (mkF m 7 #[.val (.ref a1)] [])) _
    refine XS.aloadN X3.here hx rfl (hb hby d_prog_66_method_5_7) rfl rfl ?_
    show Steps p.tables e below (T3.setTop (mkF m 8 #[.val (.ref a1)] [(.ref a1)])) _
    refine st4 _ ?_
    show Steps p.tables e below (T4.setTop (mkF m 11 #[.val (.ref a1)] [(.ref a1), (.ref a1)])) _
    refine Jvm.RoadKit.acmp (g := (mkF m 11 #[.val (.ref a1)] [(.ref a1), (.ref a1)])) X4 hx rfl rfl rfl (pc0 := 11) (pc' := 21) (same := true) rfl (hb hby d_prog_66_method_5_11) rfl (decide_eq_true rfl) (by decide) (by decide) ?_
    show Steps p.tables e below (T4.setTop (mkF m 21 #[.val (.ref a1)] [])) _
    refine XS.iconst X4.here hx rfl (hb hby d_prog_66_method_5_21) ?_
    show Steps p.tables e below (T4.setTop (mkF m 22 #[.val (.ref a1)] [(.int (1 : Int32))])) _
    refine XS.goto X4.here hx rfl (pc0 := 22) (pc' := 26) rfl (hb hby d_prog_66_method_5_22) (by decide) (by decide) ?_
    exact kk)
  obtain ⟨fs, hr, hrun, hended, hW, hsame⟩ := X4.leave (v := some (.int (1 : Int32))) (fun h => by rw [Bd.returns] at h; cases h)
  refine ⟨_, _, pre5 _ ?_, hrun, hended, _, _, rfl, ?_, ⟨_, rfl⟩, hW, hsame.mono (by decide) (by decide)⟩
  · exact retN X4 hx (t := .boolean) Bd.returns (by simp) (hb hby d_prog_66_method_5_26) hr
  · show Q6 Z a1 a2 h0 n0 _ T4.heap _
    rw [e4]
    exact ⟨rfl, N0, rfl⟩
theorem d_method_3_26 : decode method_3_code 26 = .ok (.iload_n 0, 1) := by decide +kernel
theorem d_method_3_27 : decode method_3_code 27 = .ok (.iconst 3, 1) := by decide +kernel
theorem d_method_3_28 : decode method_3_code 28 = .ok (.if_icmp .ne 7, 3) := by decide +kernel
theorem d_method_3_31 : decode method_3_code 31 = .ok (.getstatic 29, 3) := by decide +kernel
theorem d_method_3_34 : decode method_3_code 34 = .ok (.areturn, 1) := by decide +kernel
theorem ef_5 (m : MethodId)  : entryFrame m #[(.int (3 : Int32))] 1 = mkF m 0 #[.val (.int (3 : Int32))] [] := by first | (simp [entryFrame, mkF, argsToLocals, Value.category, maxLocals]; done) | rfl
def Q7 (Z : State) (a1 : Addr) (h0 : Heap) (n0 : Nat) (v : Option Value) (h : Heap) (L : List Loc) : Prop := v = some (.ref a1) ∧ Fr n0 L ∧ h = h0
set_option maxRecDepth 65536 in
set_option maxHeartbeats 40000000 in
theorem rm7 (l : Launch) (Z : State) (a0 : Array Value) (hw : ∀ d ∈ tables_1, d.before a0 Z = true) (ws : List Jvm.Cond) (a1 : Addr) (h0 : Heap) (n0 : Nat) (Z0 : n0 ≤ h0.size) (S_CLAIM : Sta Z h0 "com/example/ballotwire/ballotwire/protocol/Message$Kind" "CLAIM" "Lcom/example/ballotwire/ballotwire/protocol/Message$Kind;" (.ref a1)) :
    MetFree l (⟨"com/example/ballotwire/ballotwire/protocol/KindClaimsPinLaw", "kindOf", "(I)Lcom/example/ballotwire/ballotwire/protocol/Message$Kind;"⟩ : MethodName) (head1 (Jvm.Cond.code (⟨"com/example/ballotwire/ballotwire/protocol/KindClaimsPinLaw", "kindOf", "(I)Lcom/example/ballotwire/ballotwire/protocol/Message$Kind;"⟩ : MethodName) method_3_code 1 (some (.object "com/example/ballotwire/ballotwire/protocol/Message$Kind")) :: ws) ({ frames := 0, cells := 0, slots := 0, locals := 0 } : Room)) (fun a U => a = #[(.int (3 : Int32))] ∧ Z.Warmed39 U.vm ∧ U.heap = h0) (fun _ _ _ _ _ => True) (fun _ U o U' => ∃ v L, o = .returned v ∧ Q7 Z a1 h0 n0 v U'.heap L ∧ FrameEnd U o U' L ({ frames := 0, cells := 0, slots := 0, locals := 0 } : Room).cells ({ frames := 0, cells := 0, slots := 0, locals := 0 } : Room).slots) := by
  refine MetFree.of_bodySF (plainFor_of_name pn_0) hisR ?_
  intro p e s m args below meth c s₁ Bd hml0 hP hK
  obtain ⟨rfl, hZ, hh⟩ := hP
  have hx := Bd.exec
  have hby := Bd.bytes
  have hml : c.maxLocals = 1 := hml0
  have hown : s.vm.findClass "com/example/ballotwire/ballotwire/protocol/KindClaimsPinLaw" = some m.cls := findClass_of_methodNamed Bd.named
  have hnm := (name_of_methodNamed Bd.named Bd.method).1
  have X0 : Stand p l e ({ frames := 0, cells := 0, slots := 0, locals := 0 } : Room) s m #[(.int (3 : Int32))] below meth c s₁ [] 0 0 := Stand.of_body Bd
  have e0 : s₁.heap = h0 := by rw [← hh, Bd.state]; rfl
  have N0 := Fr.nil n0
  have pre0 : ∀ t, Steps p.tables e below (s₁.setTop (mkF m 0 #[.val (.int (3 : Int32))] [])) t → Steps p.tables e below (s₁.setTop (entryFrame m #[(.int (3 : Int32))] 1)) t := fun t k => castTop (ef_5 m ) k
  obtain ⟨T2, X2, e2, st2⟩ := getS2 X0 hx hZ hown (host := "") (Or.inl (hw _ (List.mem_of_getElem? (i := 18) rfl))) Via.refl e0 S_CLAIM (g := (mkF m 31 #[.val (.int (3 : Int32))] [])) rfl (hb hby d_method_3_31)
  have pre3 : ∀ t, Steps p.tables e below (T2.setTop (mkF m 34 #[.val (.int (3 : Int32))] [(.ref a1)])) t → Steps p.tables e below (s₁.setTop (entryFrame m #[(.int (3 : Int32))] 1)) t := fun t kk => pre0 t (by
    show Steps p.tables e below (s₁.setTop (mkF m 0 #[.val (.int (3 : Int32))] [])) _
    refine XS.iloadN X0.here hx rfl (hb hby d_method_3_0) rfl ?_
    show Steps p.tables e below (s₁.setTop (mkF m 1 #[.val (.int (3 : Int32))] [(.int (3 : Int32))])) _
    refine XS.ifYes X0.here hx rfl (pc0 := 1) (pc' := 8) rfl (hb hby d_method_3_1) rfl ((if0 _ _).trans (feq ((by decide) : ¬ ((3 : Int32) = (0 : Int32)))).2) (by decide) (by decide) ?_
    show Steps p.tables e below (s₁.setTop (mkF m 8 #[.val (.int (3 : Int32))] [])) _
    refine XS.iloadN X0.here hx rfl (hb hby d_method_3_8) rfl ?_
    show Steps p.tables e below (s₁.setTop (mkF m 9 #[.val (.int (3 : Int32))] [(.int (3 : Int32))])) _
    refine XS.iconst X0.here hx rfl (hb hby d_method_3_9) ?_
    show Steps p.tables e below (s₁.setTop (mkF m 10 #[.val (.int (3 : Int32))] [(.int (1 : Int32)), (.int (3 : Int32))])) _
    refine XS.icmpYes X0.here hx rfl (pc0 := 10) (pc' := 17) rfl (hb hby d_method_3_10) rfl (feq ((by decide) : ¬ ((3 : Int32) = (1 : Int32)))).2 (by decide) (by decide) ?_
    show Steps p.tables e below (s₁.setTop (mkF m 17 #[.val (.int (3 : Int32))] [])) _
    refine XS.iloadN X0.here hx rfl (hb hby d_method_3_17) rfl ?_
    show Steps p.tables e below (s₁.setTop (mkF m 18 #[.val (.int (3 : Int32))] [(.int (3 : Int32))])) _
    refine XS.iconst X0.here hx rfl (hb hby d_method_3_18) ?_
    show Steps p.tables e below (s₁.setTop (mkF m 19 #[.val (.int (3 : Int32))] [(.int (2 : Int32)), (.int (3 : Int32))])) _
    refine XS.icmpYes X0.here hx rfl (pc0 := 19) (pc' := 26) rfl (hb hby d_method_3_19) rfl (feq ((by decide) : ¬ ((3 : Int32) = (2 : Int32)))).2 (by decide) (by decide) ?_
    show Steps p.tables e below (s₁.setTop (mkF m 26 #[.val (.int (3 : Int32))] [])) _
    refine XS.iloadN X0.here hx rfl (hb hby d_method_3_26) rfl ?_
    show Steps p.tables e below (s₁.setTop (mkF m 27 #[.val (.int (3 : Int32))] [(.int (3 : Int32))])) _
    refine XS.iconst X0.here hx rfl (hb hby d_method_3_27) ?_
    show Steps p.tables e below (s₁.setTop (mkF m 28 #[.val (.int (3 : Int32))] [(.int (3 : Int32)), (.int (3 : Int32))])) _
    refine XS.icmpNo X0.here hx rfl (hb hby d_method_3_28) rfl (teq ((by decide) : (3 : Int32) = (3 : Int32))).2 ?_
    show Steps p.tables e below (s₁.setTop (mkF m 31 #[.val (.int (3 : Int32))] [])) _
    refine st2 _ ?_
    exact kk)
  obtain ⟨fs, hr, hrun, hended, hW, hsame⟩ := X2.leave (v := some (.ref a1)) (fun h => by rw [Bd.returns] at h; cases h)
  refine ⟨_, _, pre3 _ ?_, hrun, hended, _, _, rfl, ?_, ⟨_, rfl⟩, hW, hsame.mono (by decide) (by decide)⟩
  · exact retOut X2 hx Bd.returns rfl (Or.inr (Or.inr (Or.inr (Or.inr ⟨rfl, rfl, rfl⟩)))) (hb hby d_method_3_34) hr
  · show Q7 Z a1 h0 n0 _ T2.heap _
    rw [e2]
    exact ⟨rfl, N0, rfl⟩
def Q8 (Z : State) (a1 : Addr) (a2 : Addr) (a4 : Addr) (h0 : Heap) (n0 : Nat) (v : Option Value) (h : Heap) (L : List Loc) : Prop := v = some (.int (1 : Int32)) ∧ Fr n0 L ∧ h = h0
set_option maxRecDepth 65536 in
set_option maxHeartbeats 40000000 in
theorem rm8 (l : Launch) (Z : State) (a0 : Array Value) (hw : ∀ d ∈ tables_1, d.before a0 Z = true) (ws : List Jvm.Cond) (a1 : Addr) (a2 : Addr) (a4 : Addr) (h0 : Heap) (n0 : Nat) (Z0 : n0 ≤ h0.size) (S_COORDINATOR : Sta Z h0 "com/example/ballotwire/ballotwire/protocol/Message$Kind" "COORDINATOR" "Lcom/example/ballotwire/ballotwire/protocol/Message$Kind;" (.ref a2)) (ne_a1_a2 : a1 ≠ a2) (S_HEARTBEAT : Sta Z h0 "com/example/ballotwire/ballotwire/protocol/Message$Kind" "HEARTBEAT" "Lcom/example/ballotwire/ballotwire/protocol/Message$Kind;" (.ref a4)) (ne_a1_a4 : a1 ≠ a4) (S_CLAIM : Sta Z h0 "com/example/ballotwire/ballotwire/protocol/Message$Kind" "CLAIM" "Lcom/example/ballotwire/ballotwire/protocol/Message$Kind;" (.ref a1)) :
    MetFree l (⟨"com/example/ballotwire/ballotwire/protocol/Message$Kind", "claims", "()Z"⟩ : MethodName) (head1 (Jvm.Cond.code (⟨"com/example/ballotwire/ballotwire/protocol/Message$Kind", "claims", "()Z"⟩ : MethodName) prog_66_method_5_code 1 (some .boolean) :: ws) ({ frames := 0, cells := 0, slots := 0, locals := 0 } : Room)) (fun a U => a = #[(.ref a1)] ∧ Z.Warmed39 U.vm ∧ U.heap = h0) (fun _ _ _ _ _ => True) (fun _ U o U' => ∃ v L, o = .returned v ∧ Q8 Z a1 a2 a4 h0 n0 v U'.heap L ∧ FrameEnd U o U' L ({ frames := 0, cells := 0, slots := 0, locals := 0 } : Room).cells ({ frames := 0, cells := 0, slots := 0, locals := 0 } : Room).slots) := by
  refine MetFree.of_bodySF (plainFor_of_name pn_1) hisR ?_
  intro p e s m args below meth c s₁ Bd hml0 hP hK
  obtain ⟨rfl, hZ, hh⟩ := hP
  have hx := Bd.exec
  have hby := Bd.bytes
  have hml : c.maxLocals = 1 := hml0
  have hown : s.vm.findClass "com/example/ballotwire/ballotwire/protocol/Message$Kind" = some m.cls := findClass_of_methodNamed Bd.named
  have hnm := (name_of_methodNamed Bd.named Bd.method).1
  have X0 : Stand p l e ({ frames := 0, cells := 0, slots := 0, locals := 0 } : Room) s m #[(.ref a1)] below meth c s₁ [] 0 0 := Stand.of_body Bd
  have e0 : s₁.heap = h0 := by rw [← hh, Bd.state]; rfl
  have N0 := Fr.nil n0
  have pre0 : ∀ t, Steps p.tables e below (s₁.setTop (mkF m 0 #[.val (.ref a1)] [])) t → Steps p.tables e below (s₁.setTop (entryFrame m #[(.ref a1)] 1)) t := fun t k => castTop (ef_2 m a1) k
  obtain ⟨T3, X3, e3, st3⟩ := getS2 X0 hx hZ hown (host := "") (Or.inl (hw _ (List.mem_of_getElem? (i := 12) rfl))) Via.refl e0 S_COORDINATOR (g := (mkF m 1 #[.val (.ref a1)] [(.ref a1)])) rfl (hb hby d_prog_66_method_5_1)
  obtain ⟨T5, X5, e5, st5⟩ := getS2 X3 hx hZ hown (host := "") (Or.inl (hw _ (List.mem_of_getElem? (i := 14) rfl))) Via.refl e3 S_HEARTBEAT (g := (mkF m 8 #[.val (.ref a1)] [(.ref a1)])) rfl (hb hby d_prog_66_method_5_8)
  obtain ⟨T6, X6, e6, st6⟩ := getS2 X5 hx hZ hown (host := "") (Or.inl (hw _ (List.mem_of_getElem? (i := 16) rfl))) Via.refl e5 S_CLAIM (g := (mkF m 15 #[.val (.ref a1)] [(.ref a1)])) rfl (hb hby d_prog_66_method_5_15)
  have pre7 : ∀ t, Steps p.tables e below (T6.setTop (mkF m 26 #[.val (.ref a1)] [(.int (1 : Int32))])) t → Steps p.tables e below (s₁.setTop (entryFrame m #[(.ref a1)] 1)) t := fun t kk => pre0 t (by
    show Steps p.tables e below (s₁.setTop (mkF m 0 #[.val (.ref a1)] [])) _
    refine XS.aloadN X0.here hx rfl (hb hby d_prog_66_method_5_0) rfl rfl ?_
    show Steps p.tables e below (s₁.setTop (mkF m 1 #[.val (.ref a1)] [(.ref a1)])) _
    refine st3 _ ?_
    show Steps p.tables e below (T3.setTop (mkF m 4 #[.val (.ref a1)] [(.ref a2), (.ref a1)])) _
    refine Jvm.RoadKit.acmp (g := (mkF m 4 #[.val (.ref a1)] [(.ref a2), (.ref a1)])) X3 hx rfl rfl rfl (pc0 := 4) (pc' := 7) (same := false) rfl (hb hby d_prog_66_method_5_4) rfl (decide_eq_false fun q => ne_a1_a2 (Value.ref.inj q)) (by decide) (by decide) ?_
    show Steps p.tables e below (T3.setTop (mkF m 7 #[.val (.ref a1)] [])) _
    refine XS.aloadN X3.here hx rfl (hb hby d_prog_66_method_5_7) rfl rfl ?_
    show Steps p.tables e below (T3.setTop (mkF m 8 #[.val (.ref a1)] [(.ref a1)])) _
    refine st5 _ ?_
    show Steps p.tables e below (T5.setTop (mkF m 11 #[.val (.ref a1)] [(.ref a4), (.ref a1)])) _
    refine Jvm.RoadKit.acmp (g := (mkF m 11 #[.val (.ref a1)] [(.ref a4), (.ref a1)])) X5 hx rfl rfl rfl (pc0 := 11) (pc' := 14) (same := false) rfl (hb hby d_prog_66_method_5_11) rfl (decide_eq_false fun q => ne_a1_a4 (Value.ref.inj q)) (by decide) (by decide) ?_
    show Steps p.tables e below (T5.setTop (mkF m 14 #[.val (.ref a1)] [])) _
    refine XS.aloadN X5.here hx rfl (hb hby d_prog_66_method_5_14) rfl rfl ?_
    show Steps p.tables e below (T5.setTop (mkF m 15 #[.val (.ref a1)] [(.ref a1)])) _
    refine st6 _ ?_
    show Steps p.tables e below (T6.setTop (mkF m 18 #[.val (.ref a1)] [(.ref a1), (.ref a1)])) _
    refine Jvm.RoadKit.acmp (g := (mkF m 18 #[.val (.ref a1)] [(.ref a1), (.ref a1)])) X6 hx rfl rfl rfl (pc0 := 18) (pc' := 21) (same := true) rfl (hb hby d_prog_66_method_5_18) rfl (decide_eq_true rfl) (by decide) (by decide) ?_
    show Steps p.tables e below (T6.setTop (mkF m 21 #[.val (.ref a1)] [])) _
    refine XS.iconst X6.here hx rfl (hb hby d_prog_66_method_5_21) ?_
    show Steps p.tables e below (T6.setTop (mkF m 22 #[.val (.ref a1)] [(.int (1 : Int32))])) _
    refine XS.goto X6.here hx rfl (pc0 := 22) (pc' := 26) rfl (hb hby d_prog_66_method_5_22) (by decide) (by decide) ?_
    exact kk)
  obtain ⟨fs, hr, hrun, hended, hW, hsame⟩ := X6.leave (v := some (.int (1 : Int32))) (fun h => by rw [Bd.returns] at h; cases h)
  refine ⟨_, _, pre7 _ ?_, hrun, hended, _, _, rfl, ?_, ⟨_, rfl⟩, hW, hsame.mono (by decide) (by decide)⟩
  · exact retN X6 hx (t := .boolean) Bd.returns (by simp) (hb hby d_prog_66_method_5_26) hr
  · show Q8 Z a1 a2 a4 h0 n0 _ T6.heap _
    rw [e6]
    exact ⟨rfl, N0, rfl⟩
theorem d_method_3_35 : decode method_3_code 35 = .ok (.iload_n 0, 1) := by decide +kernel
theorem d_method_3_36 : decode method_3_code 36 = .ok (.iconst 4, 1) := by decide +kernel
theorem d_method_3_37 : decode method_3_code 37 = .ok (.if_icmp .ne 7, 3) := by decide +kernel
theorem d_method_3_40 : decode method_3_code 40 = .ok (.getstatic 32, 3) := by decide +kernel
theorem d_method_3_43 : decode method_3_code 43 = .ok (.areturn, 1) := by decide +kernel
theorem ef_6 (m : MethodId)  : entryFrame m #[(.int (4 : Int32))] 1 = mkF m 0 #[.val (.int (4 : Int32))] [] := by first | (simp [entryFrame, mkF, argsToLocals, Value.category, maxLocals]; done) | rfl
def Q9 (Z : State) (a1 : Addr) (h0 : Heap) (n0 : Nat) (v : Option Value) (h : Heap) (L : List Loc) : Prop := v = some (.ref a1) ∧ Fr n0 L ∧ h = h0
set_option maxRecDepth 65536 in
set_option maxHeartbeats 40000000 in
theorem rm9 (l : Launch) (Z : State) (a0 : Array Value) (hw : ∀ d ∈ tables_1, d.before a0 Z = true) (ws : List Jvm.Cond) (a1 : Addr) (h0 : Heap) (n0 : Nat) (Z0 : n0 ≤ h0.size) (S_ACK : Sta Z h0 "com/example/ballotwire/ballotwire/protocol/Message$Kind" "ACK" "Lcom/example/ballotwire/ballotwire/protocol/Message$Kind;" (.ref a1)) :
    MetFree l (⟨"com/example/ballotwire/ballotwire/protocol/KindClaimsPinLaw", "kindOf", "(I)Lcom/example/ballotwire/ballotwire/protocol/Message$Kind;"⟩ : MethodName) (head1 (Jvm.Cond.code (⟨"com/example/ballotwire/ballotwire/protocol/KindClaimsPinLaw", "kindOf", "(I)Lcom/example/ballotwire/ballotwire/protocol/Message$Kind;"⟩ : MethodName) method_3_code 1 (some (.object "com/example/ballotwire/ballotwire/protocol/Message$Kind")) :: ws) ({ frames := 0, cells := 0, slots := 0, locals := 0 } : Room)) (fun a U => a = #[(.int (4 : Int32))] ∧ Z.Warmed39 U.vm ∧ U.heap = h0) (fun _ _ _ _ _ => True) (fun _ U o U' => ∃ v L, o = .returned v ∧ Q9 Z a1 h0 n0 v U'.heap L ∧ FrameEnd U o U' L ({ frames := 0, cells := 0, slots := 0, locals := 0 } : Room).cells ({ frames := 0, cells := 0, slots := 0, locals := 0 } : Room).slots) := by
  refine MetFree.of_bodySF (plainFor_of_name pn_0) hisR ?_
  intro p e s m args below meth c s₁ Bd hml0 hP hK
  obtain ⟨rfl, hZ, hh⟩ := hP
  have hx := Bd.exec
  have hby := Bd.bytes
  have hml : c.maxLocals = 1 := hml0
  have hown : s.vm.findClass "com/example/ballotwire/ballotwire/protocol/KindClaimsPinLaw" = some m.cls := findClass_of_methodNamed Bd.named
  have hnm := (name_of_methodNamed Bd.named Bd.method).1
  have X0 : Stand p l e ({ frames := 0, cells := 0, slots := 0, locals := 0 } : Room) s m #[(.int (4 : Int32))] below meth c s₁ [] 0 0 := Stand.of_body Bd
  have e0 : s₁.heap = h0 := by rw [← hh, Bd.state]; rfl
  have N0 := Fr.nil n0
  have pre0 : ∀ t, Steps p.tables e below (s₁.setTop (mkF m 0 #[.val (.int (4 : Int32))] [])) t → Steps p.tables e below (s₁.setTop (entryFrame m #[(.int (4 : Int32))] 1)) t := fun t k => castTop (ef_6 m ) k
  obtain ⟨T2, X2, e2, st2⟩ := getS2 X0 hx hZ hown (host := "") (Or.inl (hw _ (List.mem_of_getElem? (i := 25) rfl))) Via.refl e0 S_ACK (g := (mkF m 40 #[.val (.int (4 : Int32))] [])) rfl (hb hby d_method_3_40)
  have pre3 : ∀ t, Steps p.tables e below (T2.setTop (mkF m 43 #[.val (.int (4 : Int32))] [(.ref a1)])) t → Steps p.tables e below (s₁.setTop (entryFrame m #[(.int (4 : Int32))] 1)) t := fun t kk => pre0 t (by
    show Steps p.tables e below (s₁.setTop (mkF m 0 #[.val (.int (4 : Int32))] [])) _
    refine XS.iloadN X0.here hx rfl (hb hby d_method_3_0) rfl ?_
    show Steps p.tables e below (s₁.setTop (mkF m 1 #[.val (.int (4 : Int32))] [(.int (4 : Int32))])) _
    refine XS.ifYes X0.here hx rfl (pc0 := 1) (pc' := 8) rfl (hb hby d_method_3_1) rfl ((if0 _ _).trans (feq ((by decide) : ¬ ((4 : Int32) = (0 : Int32)))).2) (by decide) (by decide) ?_
    show Steps p.tables e below (s₁.setTop (mkF m 8 #[.val (.int (4 : Int32))] [])) _
    refine XS.iloadN X0.here hx rfl (hb hby d_method_3_8) rfl ?_
    show Steps p.tables e below (s₁.setTop (mkF m 9 #[.val (.int (4 : Int32))] [(.int (4 : Int32))])) _
    refine XS.iconst X0.here hx rfl (hb hby d_method_3_9) ?_
    show Steps p.tables e below (s₁.setTop (mkF m 10 #[.val (.int (4 : Int32))] [(.int (1 : Int32)), (.int (4 : Int32))])) _
    refine XS.icmpYes X0.here hx rfl (pc0 := 10) (pc' := 17) rfl (hb hby d_method_3_10) rfl (feq ((by decide) : ¬ ((4 : Int32) = (1 : Int32)))).2 (by decide) (by decide) ?_
    show Steps p.tables e below (s₁.setTop (mkF m 17 #[.val (.int (4 : Int32))] [])) _
    refine XS.iloadN X0.here hx rfl (hb hby d_method_3_17) rfl ?_
    show Steps p.tables e below (s₁.setTop (mkF m 18 #[.val (.int (4 : Int32))] [(.int (4 : Int32))])) _
    refine XS.iconst X0.here hx rfl (hb hby d_method_3_18) ?_
    show Steps p.tables e below (s₁.setTop (mkF m 19 #[.val (.int (4 : Int32))] [(.int (2 : Int32)), (.int (4 : Int32))])) _
    refine XS.icmpYes X0.here hx rfl (pc0 := 19) (pc' := 26) rfl (hb hby d_method_3_19) rfl (feq ((by decide) : ¬ ((4 : Int32) = (2 : Int32)))).2 (by decide) (by decide) ?_
    show Steps p.tables e below (s₁.setTop (mkF m 26 #[.val (.int (4 : Int32))] [])) _
    refine XS.iloadN X0.here hx rfl (hb hby d_method_3_26) rfl ?_
    show Steps p.tables e below (s₁.setTop (mkF m 27 #[.val (.int (4 : Int32))] [(.int (4 : Int32))])) _
    refine XS.iconst X0.here hx rfl (hb hby d_method_3_27) ?_
    show Steps p.tables e below (s₁.setTop (mkF m 28 #[.val (.int (4 : Int32))] [(.int (3 : Int32)), (.int (4 : Int32))])) _
    refine XS.icmpYes X0.here hx rfl (pc0 := 28) (pc' := 35) rfl (hb hby d_method_3_28) rfl (feq ((by decide) : ¬ ((4 : Int32) = (3 : Int32)))).2 (by decide) (by decide) ?_
    show Steps p.tables e below (s₁.setTop (mkF m 35 #[.val (.int (4 : Int32))] [])) _
    refine XS.iloadN X0.here hx rfl (hb hby d_method_3_35) rfl ?_
    show Steps p.tables e below (s₁.setTop (mkF m 36 #[.val (.int (4 : Int32))] [(.int (4 : Int32))])) _
    refine XS.iconst X0.here hx rfl (hb hby d_method_3_36) ?_
    show Steps p.tables e below (s₁.setTop (mkF m 37 #[.val (.int (4 : Int32))] [(.int (4 : Int32)), (.int (4 : Int32))])) _
    refine XS.icmpNo X0.here hx rfl (hb hby d_method_3_37) rfl (teq ((by decide) : (4 : Int32) = (4 : Int32))).2 ?_
    show Steps p.tables e below (s₁.setTop (mkF m 40 #[.val (.int (4 : Int32))] [])) _
    refine st2 _ ?_
    exact kk)
  obtain ⟨fs, hr, hrun, hended, hW, hsame⟩ := X2.leave (v := some (.ref a1)) (fun h => by rw [Bd.returns] at h; cases h)
  refine ⟨_, _, pre3 _ ?_, hrun, hended, _, _, rfl, ?_, ⟨_, rfl⟩, hW, hsame.mono (by decide) (by decide)⟩
  · exact retOut X2 hx Bd.returns rfl (Or.inr (Or.inr (Or.inr (Or.inr ⟨rfl, rfl, rfl⟩)))) (hb hby d_method_3_43) hr
  · show Q9 Z a1 h0 n0 _ T2.heap _
    rw [e2]
    exact ⟨rfl, N0, rfl⟩
theorem d_method_3_44 : decode method_3_code 44 = .ok (.iload_n 0, 1) := by decide +kernel
theorem d_method_3_45 : decode method_3_code 45 = .ok (.iconst 5, 1) := by decide +kernel
theorem d_method_3_46 : decode method_3_code 46 = .ok (.if_icmp .ne 7, 3) := by decide +kernel
theorem d_method_3_49 : decode method_3_code 49 = .ok (.getstatic 35, 3) := by decide +kernel
theorem d_method_3_52 : decode method_3_code 52 = .ok (.areturn, 1) := by decide +kernel
theorem ef_7 (m : MethodId)  : entryFrame m #[(.int (5 : Int32))] 1 = mkF m 0 #[.val (.int (5 : Int32))] [] := by first | (simp [entryFrame, mkF, argsToLocals, Value.category, maxLocals]; done) | rfl
def Q10 (Z : State) (a1 : Addr) (h0 : Heap) (n0 : Nat) (v : Option Value) (h : Heap) (L : List Loc) : Prop := v = some (.ref a1) ∧ Fr n0 L ∧ h = h0
set_option maxRecDepth 65536 in
set_option maxHeartbeats 40000000 in
theorem rm10 (l : Launch) (Z : State) (a0 : Array Value) (hw : ∀ d ∈ tables_1, d.before a0 Z = true) (ws : List Jvm.Cond) (a1 : Addr) (h0 : Heap) (n0 : Nat) (Z0 : n0 ≤ h0.size) (S_HELLO : Sta Z h0 "com/example/ballotwire/ballotwire/protocol/Message$Kind" "HELLO" "Lcom/example/ballotwire/ballotwire/protocol/Message$Kind;" (.ref a1)) :
    MetFree l (⟨"com/example/ballotwire/ballotwire/protocol/KindClaimsPinLaw", "kindOf", "(I)Lcom/example/ballotwire/ballotwire/protocol/Message$Kind;"⟩ : MethodName) (head1 (Jvm.Cond.code (⟨"com/example/ballotwire/ballotwire/protocol/KindClaimsPinLaw", "kindOf", "(I)Lcom/example/ballotwire/ballotwire/protocol/Message$Kind;"⟩ : MethodName) method_3_code 1 (some (.object "com/example/ballotwire/ballotwire/protocol/Message$Kind")) :: ws) ({ frames := 0, cells := 0, slots := 0, locals := 0 } : Room)) (fun a U => a = #[(.int (5 : Int32))] ∧ Z.Warmed39 U.vm ∧ U.heap = h0) (fun _ _ _ _ _ => True) (fun _ U o U' => ∃ v L, o = .returned v ∧ Q10 Z a1 h0 n0 v U'.heap L ∧ FrameEnd U o U' L ({ frames := 0, cells := 0, slots := 0, locals := 0 } : Room).cells ({ frames := 0, cells := 0, slots := 0, locals := 0 } : Room).slots) := by
  refine MetFree.of_bodySF (plainFor_of_name pn_0) hisR ?_
  intro p e s m args below meth c s₁ Bd hml0 hP hK
  obtain ⟨rfl, hZ, hh⟩ := hP
  have hx := Bd.exec
  have hby := Bd.bytes
  have hml : c.maxLocals = 1 := hml0
  have hown : s.vm.findClass "com/example/ballotwire/ballotwire/protocol/KindClaimsPinLaw" = some m.cls := findClass_of_methodNamed Bd.named
  have hnm := (name_of_methodNamed Bd.named Bd.method).1
  have X0 : Stand p l e ({ frames := 0, cells := 0, slots := 0, locals := 0 } : Room) s m #[(.int (5 : Int32))] below meth c s₁ [] 0 0 := Stand.of_body Bd
  have e0 : s₁.heap = h0 := by rw [← hh, Bd.state]; rfl
  have N0 := Fr.nil n0
  have pre0 : ∀ t, Steps p.tables e below (s₁.setTop (mkF m 0 #[.val (.int (5 : Int32))] [])) t → Steps p.tables e below (s₁.setTop (entryFrame m #[(.int (5 : Int32))] 1)) t := fun t k => castTop (ef_7 m ) k
  obtain ⟨T2, X2, e2, st2⟩ := getS2 X0 hx hZ hown (host := "") (Or.inl (hw _ (List.mem_of_getElem? (i := 27) rfl))) Via.refl e0 S_HELLO (g := (mkF m 49 #[.val (.int (5 : Int32))] [])) rfl (hb hby d_method_3_49)
  have pre3 : ∀ t, Steps p.tables e below (T2.setTop (mkF m 52 #[.val (.int (5 : Int32))] [(.ref a1)])) t → Steps p.tables e below (s₁.setTop (entryFrame m #[(.int (5 : Int32))] 1)) t := fun t kk => pre0 t (by
    show Steps p.tables e below (s₁.setTop (mkF m 0 #[.val (.int (5 : Int32))] [])) _
    refine XS.iloadN X0.here hx rfl (hb hby d_method_3_0) rfl ?_
    show Steps p.tables e below (s₁.setTop (mkF m 1 #[.val (.int (5 : Int32))] [(.int (5 : Int32))])) _
    refine XS.ifYes X0.here hx rfl (pc0 := 1) (pc' := 8) rfl (hb hby d_method_3_1) rfl ((if0 _ _).trans (feq ((by decide) : ¬ ((5 : Int32) = (0 : Int32)))).2) (by decide) (by decide) ?_
    show Steps p.tables e below (s₁.setTop (mkF m 8 #[.val (.int (5 : Int32))] [])) _
    refine XS.iloadN X0.here hx rfl (hb hby d_method_3_8) rfl ?_
    show Steps p.tables e below (s₁.setTop (mkF m 9 #[.val (.int (5 : Int32))] [(.int (5 : Int32))])) _
    refine XS.iconst X0.here hx rfl (hb hby d_method_3_9) ?_
    show Steps p.tables e below (s₁.setTop (mkF m 10 #[.val (.int (5 : Int32))] [(.int (1 : Int32)), (.int (5 : Int32))])) _
    refine XS.icmpYes X0.here hx rfl (pc0 := 10) (pc' := 17) rfl (hb hby d_method_3_10) rfl (feq ((by decide) : ¬ ((5 : Int32) = (1 : Int32)))).2 (by decide) (by decide) ?_
    show Steps p.tables e below (s₁.setTop (mkF m 17 #[.val (.int (5 : Int32))] [])) _
    refine XS.iloadN X0.here hx rfl (hb hby d_method_3_17) rfl ?_
    show Steps p.tables e below (s₁.setTop (mkF m 18 #[.val (.int (5 : Int32))] [(.int (5 : Int32))])) _
    refine XS.iconst X0.here hx rfl (hb hby d_method_3_18) ?_
    show Steps p.tables e below (s₁.setTop (mkF m 19 #[.val (.int (5 : Int32))] [(.int (2 : Int32)), (.int (5 : Int32))])) _
    refine XS.icmpYes X0.here hx rfl (pc0 := 19) (pc' := 26) rfl (hb hby d_method_3_19) rfl (feq ((by decide) : ¬ ((5 : Int32) = (2 : Int32)))).2 (by decide) (by decide) ?_
    show Steps p.tables e below (s₁.setTop (mkF m 26 #[.val (.int (5 : Int32))] [])) _
    refine XS.iloadN X0.here hx rfl (hb hby d_method_3_26) rfl ?_
    show Steps p.tables e below (s₁.setTop (mkF m 27 #[.val (.int (5 : Int32))] [(.int (5 : Int32))])) _
    refine XS.iconst X0.here hx rfl (hb hby d_method_3_27) ?_
    show Steps p.tables e below (s₁.setTop (mkF m 28 #[.val (.int (5 : Int32))] [(.int (3 : Int32)), (.int (5 : Int32))])) _
    refine XS.icmpYes X0.here hx rfl (pc0 := 28) (pc' := 35) rfl (hb hby d_method_3_28) rfl (feq ((by decide) : ¬ ((5 : Int32) = (3 : Int32)))).2 (by decide) (by decide) ?_
    show Steps p.tables e below (s₁.setTop (mkF m 35 #[.val (.int (5 : Int32))] [])) _
    refine XS.iloadN X0.here hx rfl (hb hby d_method_3_35) rfl ?_
    show Steps p.tables e below (s₁.setTop (mkF m 36 #[.val (.int (5 : Int32))] [(.int (5 : Int32))])) _
    refine XS.iconst X0.here hx rfl (hb hby d_method_3_36) ?_
    show Steps p.tables e below (s₁.setTop (mkF m 37 #[.val (.int (5 : Int32))] [(.int (4 : Int32)), (.int (5 : Int32))])) _
    refine XS.icmpYes X0.here hx rfl (pc0 := 37) (pc' := 44) rfl (hb hby d_method_3_37) rfl (feq ((by decide) : ¬ ((5 : Int32) = (4 : Int32)))).2 (by decide) (by decide) ?_
    show Steps p.tables e below (s₁.setTop (mkF m 44 #[.val (.int (5 : Int32))] [])) _
    refine XS.iloadN X0.here hx rfl (hb hby d_method_3_44) rfl ?_
    show Steps p.tables e below (s₁.setTop (mkF m 45 #[.val (.int (5 : Int32))] [(.int (5 : Int32))])) _
    refine XS.iconst X0.here hx rfl (hb hby d_method_3_45) ?_
    show Steps p.tables e below (s₁.setTop (mkF m 46 #[.val (.int (5 : Int32))] [(.int (5 : Int32)), (.int (5 : Int32))])) _
    refine XS.icmpNo X0.here hx rfl (hb hby d_method_3_46) rfl (teq ((by decide) : (5 : Int32) = (5 : Int32))).2 ?_
    show Steps p.tables e below (s₁.setTop (mkF m 49 #[.val (.int (5 : Int32))] [])) _
    refine st2 _ ?_
    exact kk)
  obtain ⟨fs, hr, hrun, hended, hW, hsame⟩ := X2.leave (v := some (.ref a1)) (fun h => by rw [Bd.returns] at h; cases h)
  refine ⟨_, _, pre3 _ ?_, hrun, hended, _, _, rfl, ?_, ⟨_, rfl⟩, hW, hsame.mono (by decide) (by decide)⟩
  · exact retOut X2 hx Bd.returns rfl (Or.inr (Or.inr (Or.inr (Or.inr ⟨rfl, rfl, rfl⟩)))) (hb hby d_method_3_52) hr
  · show Q10 Z a1 h0 n0 _ T2.heap _
    rw [e2]
    exact ⟨rfl, N0, rfl⟩
theorem d_method_3_53 : decode method_3_code 53 = .ok (.iload_n 0, 1) := by decide +kernel
theorem d_method_3_54 : decode method_3_code 54 = .ok (.bipush 6, 2) := by decide +kernel
theorem d_method_3_56 : decode method_3_code 56 = .ok (.if_icmp .ne 7, 3) := by decide +kernel
theorem d_method_3_59 : decode method_3_code 59 = .ok (.getstatic 38, 3) := by decide +kernel
theorem d_method_3_62 : decode method_3_code 62 = .ok (.areturn, 1) := by decide +kernel
theorem ef_8 (m : MethodId)  : entryFrame m #[(.int (6 : Int32))] 1 = mkF m 0 #[.val (.int (6 : Int32))] [] := by first | (simp [entryFrame, mkF, argsToLocals, Value.category, maxLocals]; done) | rfl
def Q11 (Z : State) (a1 : Addr) (h0 : Heap) (n0 : Nat) (v : Option Value) (h : Heap) (L : List Loc) : Prop := v = some (.ref a1) ∧ Fr n0 L ∧ h = h0
set_option maxRecDepth 65536 in
set_option maxHeartbeats 40000000 in
theorem rm11 (l : Launch) (Z : State) (a0 : Array Value) (hw : ∀ d ∈ tables_1, d.before a0 Z = true) (ws : List Jvm.Cond) (a1 : Addr) (h0 : Heap) (n0 : Nat) (Z0 : n0 ≤ h0.size) (S_TERM : Sta Z h0 "com/example/ballotwire/ballotwire/protocol/Message$Kind" "TERM" "Lcom/example/ballotwire/ballotwire/protocol/Message$Kind;" (.ref a1)) :
    MetFree l (⟨"com/example/ballotwire/ballotwire/protocol/KindClaimsPinLaw", "kindOf", "(I)Lcom/example/ballotwire/ballotwire/protocol/Message$Kind;"⟩ : MethodName) (head1 (Jvm.Cond.code (⟨"com/example/ballotwire/ballotwire/protocol/KindClaimsPinLaw", "kindOf", "(I)Lcom/example/ballotwire/ballotwire/protocol/Message$Kind;"⟩ : MethodName) method_3_code 1 (some (.object "com/example/ballotwire/ballotwire/protocol/Message$Kind")) :: ws) ({ frames := 0, cells := 0, slots := 0, locals := 0 } : Room)) (fun a U => a = #[(.int (6 : Int32))] ∧ Z.Warmed39 U.vm ∧ U.heap = h0) (fun _ _ _ _ _ => True) (fun _ U o U' => ∃ v L, o = .returned v ∧ Q11 Z a1 h0 n0 v U'.heap L ∧ FrameEnd U o U' L ({ frames := 0, cells := 0, slots := 0, locals := 0 } : Room).cells ({ frames := 0, cells := 0, slots := 0, locals := 0 } : Room).slots) := by
  refine MetFree.of_bodySF (plainFor_of_name pn_0) hisR ?_
  intro p e s m args below meth c s₁ Bd hml0 hP hK
  obtain ⟨rfl, hZ, hh⟩ := hP
  have hx := Bd.exec
  have hby := Bd.bytes
  have hml : c.maxLocals = 1 := hml0
  have hown : s.vm.findClass "com/example/ballotwire/ballotwire/protocol/KindClaimsPinLaw" = some m.cls := findClass_of_methodNamed Bd.named
  have hnm := (name_of_methodNamed Bd.named Bd.method).1
  have X0 : Stand p l e ({ frames := 0, cells := 0, slots := 0, locals := 0 } : Room) s m #[(.int (6 : Int32))] below meth c s₁ [] 0 0 := Stand.of_body Bd
  have e0 : s₁.heap = h0 := by rw [← hh, Bd.state]; rfl
  have N0 := Fr.nil n0
  have pre0 : ∀ t, Steps p.tables e below (s₁.setTop (mkF m 0 #[.val (.int (6 : Int32))] [])) t → Steps p.tables e below (s₁.setTop (entryFrame m #[(.int (6 : Int32))] 1)) t := fun t k => castTop (ef_8 m ) k
  obtain ⟨T2, X2, e2, st2⟩ := getS2 X0 hx hZ hown (host := "") (Or.inl (hw _ (List.mem_of_getElem? (i := 19) rfl))) Via.refl e0 S_TERM (g := (mkF m 59 #[.val (.int (6 : Int32))] [])) rfl (hb hby d_method_3_59)
  have pre3 : ∀ t, Steps p.tables e below (T2.setTop (mkF m 62 #[.val (.int (6 : Int32))] [(.ref a1)])) t → Steps p.tables e below (s₁.setTop (entryFrame m #[(.int (6 : Int32))] 1)) t := fun t kk => pre0 t (by
    show Steps p.tables e below (s₁.setTop (mkF m 0 #[.val (.int (6 : Int32))] [])) _
    refine XS.iloadN X0.here hx rfl (hb hby d_method_3_0) rfl ?_
    show Steps p.tables e below (s₁.setTop (mkF m 1 #[.val (.int (6 : Int32))] [(.int (6 : Int32))])) _
    refine XS.ifYes X0.here hx rfl (pc0 := 1) (pc' := 8) rfl (hb hby d_method_3_1) rfl ((if0 _ _).trans (feq ((by decide) : ¬ ((6 : Int32) = (0 : Int32)))).2) (by decide) (by decide) ?_
    show Steps p.tables e below (s₁.setTop (mkF m 8 #[.val (.int (6 : Int32))] [])) _
    refine XS.iloadN X0.here hx rfl (hb hby d_method_3_8) rfl ?_
    show Steps p.tables e below (s₁.setTop (mkF m 9 #[.val (.int (6 : Int32))] [(.int (6 : Int32))])) _
    refine XS.iconst X0.here hx rfl (hb hby d_method_3_9) ?_
    show Steps p.tables e below (s₁.setTop (mkF m 10 #[.val (.int (6 : Int32))] [(.int (1 : Int32)), (.int (6 : Int32))])) _
    refine XS.icmpYes X0.here hx rfl (pc0 := 10) (pc' := 17) rfl (hb hby d_method_3_10) rfl (feq ((by decide) : ¬ ((6 : Int32) = (1 : Int32)))).2 (by decide) (by decide) ?_
    show Steps p.tables e below (s₁.setTop (mkF m 17 #[.val (.int (6 : Int32))] [])) _
    refine XS.iloadN X0.here hx rfl (hb hby d_method_3_17) rfl ?_
    show Steps p.tables e below (s₁.setTop (mkF m 18 #[.val (.int (6 : Int32))] [(.int (6 : Int32))])) _
    refine XS.iconst X0.here hx rfl (hb hby d_method_3_18) ?_
    show Steps p.tables e below (s₁.setTop (mkF m 19 #[.val (.int (6 : Int32))] [(.int (2 : Int32)), (.int (6 : Int32))])) _
    refine XS.icmpYes X0.here hx rfl (pc0 := 19) (pc' := 26) rfl (hb hby d_method_3_19) rfl (feq ((by decide) : ¬ ((6 : Int32) = (2 : Int32)))).2 (by decide) (by decide) ?_
    show Steps p.tables e below (s₁.setTop (mkF m 26 #[.val (.int (6 : Int32))] [])) _
    refine XS.iloadN X0.here hx rfl (hb hby d_method_3_26) rfl ?_
    show Steps p.tables e below (s₁.setTop (mkF m 27 #[.val (.int (6 : Int32))] [(.int (6 : Int32))])) _
    refine XS.iconst X0.here hx rfl (hb hby d_method_3_27) ?_
    show Steps p.tables e below (s₁.setTop (mkF m 28 #[.val (.int (6 : Int32))] [(.int (3 : Int32)), (.int (6 : Int32))])) _
    refine XS.icmpYes X0.here hx rfl (pc0 := 28) (pc' := 35) rfl (hb hby d_method_3_28) rfl (feq ((by decide) : ¬ ((6 : Int32) = (3 : Int32)))).2 (by decide) (by decide) ?_
    show Steps p.tables e below (s₁.setTop (mkF m 35 #[.val (.int (6 : Int32))] [])) _
    refine XS.iloadN X0.here hx rfl (hb hby d_method_3_35) rfl ?_
    show Steps p.tables e below (s₁.setTop (mkF m 36 #[.val (.int (6 : Int32))] [(.int (6 : Int32))])) _
    refine XS.iconst X0.here hx rfl (hb hby d_method_3_36) ?_
    show Steps p.tables e below (s₁.setTop (mkF m 37 #[.val (.int (6 : Int32))] [(.int (4 : Int32)), (.int (6 : Int32))])) _
    refine XS.icmpYes X0.here hx rfl (pc0 := 37) (pc' := 44) rfl (hb hby d_method_3_37) rfl (feq ((by decide) : ¬ ((6 : Int32) = (4 : Int32)))).2 (by decide) (by decide) ?_
    show Steps p.tables e below (s₁.setTop (mkF m 44 #[.val (.int (6 : Int32))] [])) _
    refine XS.iloadN X0.here hx rfl (hb hby d_method_3_44) rfl ?_
    show Steps p.tables e below (s₁.setTop (mkF m 45 #[.val (.int (6 : Int32))] [(.int (6 : Int32))])) _
    refine XS.iconst X0.here hx rfl (hb hby d_method_3_45) ?_
    show Steps p.tables e below (s₁.setTop (mkF m 46 #[.val (.int (6 : Int32))] [(.int (5 : Int32)), (.int (6 : Int32))])) _
    refine XS.icmpYes X0.here hx rfl (pc0 := 46) (pc' := 53) rfl (hb hby d_method_3_46) rfl (feq ((by decide) : ¬ ((6 : Int32) = (5 : Int32)))).2 (by decide) (by decide) ?_
    show Steps p.tables e below (s₁.setTop (mkF m 53 #[.val (.int (6 : Int32))] [])) _
    refine XS.iloadN X0.here hx rfl (hb hby d_method_3_53) rfl ?_
    show Steps p.tables e below (s₁.setTop (mkF m 54 #[.val (.int (6 : Int32))] [(.int (6 : Int32))])) _
    refine XS.bipush X0.here hx rfl (hb hby d_method_3_54) ?_
    show Steps p.tables e below (s₁.setTop (mkF m 56 #[.val (.int (6 : Int32))] [(.int (6 : Int32)), (.int (6 : Int32))])) _
    refine XS.icmpNo X0.here hx rfl (hb hby d_method_3_56) rfl (teq ((by decide) : (6 : Int32) = (6 : Int32))).2 ?_
    show Steps p.tables e below (s₁.setTop (mkF m 59 #[.val (.int (6 : Int32))] [])) _
    refine st2 _ ?_
    exact kk)
  obtain ⟨fs, hr, hrun, hended, hW, hsame⟩ := X2.leave (v := some (.ref a1)) (fun h => by rw [Bd.returns] at h; cases h)
  refine ⟨_, _, pre3 _ ?_, hrun, hended, _, _, rfl, ?_, ⟨_, rfl⟩, hW, hsame.mono (by decide) (by decide)⟩
  · exact retOut X2 hx Bd.returns rfl (Or.inr (Or.inr (Or.inr (Or.inr ⟨rfl, rfl, rfl⟩)))) (hb hby d_method_3_62) hr
  · show Q11 Z a1 h0 n0 _ T2.heap _
    rw [e2]
    exact ⟨rfl, N0, rfl⟩
theorem d_method_3_63 : decode method_3_code 63 = .ok (.getstatic 41, 3) := by decide +kernel
theorem d_method_3_66 : decode method_3_code 66 = .ok (.areturn, 1) := by decide +kernel
theorem ef_9 (m : MethodId)  : entryFrame m #[(.int (7 : Int32))] 1 = mkF m 0 #[.val (.int (7 : Int32))] [] := by first | (simp [entryFrame, mkF, argsToLocals, Value.category, maxLocals]; done) | rfl
def Q12 (Z : State) (a1 : Addr) (h0 : Heap) (n0 : Nat) (v : Option Value) (h : Heap) (L : List Loc) : Prop := v = some (.ref a1) ∧ Fr n0 L ∧ h = h0
set_option maxRecDepth 65536 in
set_option maxHeartbeats 40000000 in
theorem rm12 (l : Launch) (Z : State) (a0 : Array Value) (hw : ∀ d ∈ tables_1, d.before a0 Z = true) (ws : List Jvm.Cond) (a1 : Addr) (h0 : Heap) (n0 : Nat) (Z0 : n0 ≤ h0.size) (S_RELEASE : Sta Z h0 "com/example/ballotwire/ballotwire/protocol/Message$Kind" "RELEASE" "Lcom/example/ballotwire/ballotwire/protocol/Message$Kind;" (.ref a1)) :
    MetFree l (⟨"com/example/ballotwire/ballotwire/protocol/KindClaimsPinLaw", "kindOf", "(I)Lcom/example/ballotwire/ballotwire/protocol/Message$Kind;"⟩ : MethodName) (head1 (Jvm.Cond.code (⟨"com/example/ballotwire/ballotwire/protocol/KindClaimsPinLaw", "kindOf", "(I)Lcom/example/ballotwire/ballotwire/protocol/Message$Kind;"⟩ : MethodName) method_3_code 1 (some (.object "com/example/ballotwire/ballotwire/protocol/Message$Kind")) :: ws) ({ frames := 0, cells := 0, slots := 0, locals := 0 } : Room)) (fun a U => a = #[(.int (7 : Int32))] ∧ Z.Warmed39 U.vm ∧ U.heap = h0) (fun _ _ _ _ _ => True) (fun _ U o U' => ∃ v L, o = .returned v ∧ Q12 Z a1 h0 n0 v U'.heap L ∧ FrameEnd U o U' L ({ frames := 0, cells := 0, slots := 0, locals := 0 } : Room).cells ({ frames := 0, cells := 0, slots := 0, locals := 0 } : Room).slots) := by
  refine MetFree.of_bodySF (plainFor_of_name pn_0) hisR ?_
  intro p e s m args below meth c s₁ Bd hml0 hP hK
  obtain ⟨rfl, hZ, hh⟩ := hP
  have hx := Bd.exec
  have hby := Bd.bytes
  have hml : c.maxLocals = 1 := hml0
  have hown : s.vm.findClass "com/example/ballotwire/ballotwire/protocol/KindClaimsPinLaw" = some m.cls := findClass_of_methodNamed Bd.named
  have hnm := (name_of_methodNamed Bd.named Bd.method).1
  have X0 : Stand p l e ({ frames := 0, cells := 0, slots := 0, locals := 0 } : Room) s m #[(.int (7 : Int32))] below meth c s₁ [] 0 0 := Stand.of_body Bd
  have e0 : s₁.heap = h0 := by rw [← hh, Bd.state]; rfl
  have N0 := Fr.nil n0
  have pre0 : ∀ t, Steps p.tables e below (s₁.setTop (mkF m 0 #[.val (.int (7 : Int32))] [])) t → Steps p.tables e below (s₁.setTop (entryFrame m #[(.int (7 : Int32))] 1)) t := fun t k => castTop (ef_9 m ) k
  obtain ⟨T2, X2, e2, st2⟩ := getS2 X0 hx hZ hown (host := "") (Or.inl (hw _ (List.mem_of_getElem? (i := 21) rfl))) Via.refl e0 S_RELEASE (g := (mkF m 63 #[.val (.int (7 : Int32))] [])) rfl (hb hby d_method_3_63)
  have pre3 : ∀ t, Steps p.tables e below (T2.setTop (mkF m 66 #[.val (.int (7 : Int32))] [(.ref a1)])) t → Steps p.tables e below (s₁.setTop (entryFrame m #[(.int (7 : Int32))] 1)) t := fun t kk => pre0 t (by
    show Steps p.tables e below (s₁.setTop (mkF m 0 #[.val (.int (7 : Int32))] [])) _
    refine XS.iloadN X0.here hx rfl (hb hby d_method_3_0) rfl ?_
    show Steps p.tables e below (s₁.setTop (mkF m 1 #[.val (.int (7 : Int32))] [(.int (7 : Int32))])) _
    refine XS.ifYes X0.here hx rfl (pc0 := 1) (pc' := 8) rfl (hb hby d_method_3_1) rfl ((if0 _ _).trans (feq ((by decide) : ¬ ((7 : Int32) = (0 : Int32)))).2) (by decide) (by decide) ?_
    show Steps p.tables e below (s₁.setTop (mkF m 8 #[.val (.int (7 : Int32))] [])) _
    refine XS.iloadN X0.here hx rfl (hb hby d_method_3_8) rfl ?_
    show Steps p.tables e below (s₁.setTop (mkF m 9 #[.val (.int (7 : Int32))] [(.int (7 : Int32))])) _
    refine XS.iconst X0.here hx rfl (hb hby d_method_3_9) ?_
    show Steps p.tables e below (s₁.setTop (mkF m 10 #[.val (.int (7 : Int32))] [(.int (1 : Int32)), (.int (7 : Int32))])) _
    refine XS.icmpYes X0.here hx rfl (pc0 := 10) (pc' := 17) rfl (hb hby d_method_3_10) rfl (feq ((by decide) : ¬ ((7 : Int32) = (1 : Int32)))).2 (by decide) (by decide) ?_
    show Steps p.tables e below (s₁.setTop (mkF m 17 #[.val (.int (7 : Int32))] [])) _
    refine XS.iloadN X0.here hx rfl (hb hby d_method_3_17) rfl ?_
    show Steps p.tables e below (s₁.setTop (mkF m 18 #[.val (.int (7 : Int32))] [(.int (7 : Int32))])) _
    refine XS.iconst X0.here hx rfl (hb hby d_method_3_18) ?_
    show Steps p.tables e below (s₁.setTop (mkF m 19 #[.val (.int (7 : Int32))] [(.int (2 : Int32)), (.int (7 : Int32))])) _
    refine XS.icmpYes X0.here hx rfl (pc0 := 19) (pc' := 26) rfl (hb hby d_method_3_19) rfl (feq ((by decide) : ¬ ((7 : Int32) = (2 : Int32)))).2 (by decide) (by decide) ?_
    show Steps p.tables e below (s₁.setTop (mkF m 26 #[.val (.int (7 : Int32))] [])) _
    refine XS.iloadN X0.here hx rfl (hb hby d_method_3_26) rfl ?_
    show Steps p.tables e below (s₁.setTop (mkF m 27 #[.val (.int (7 : Int32))] [(.int (7 : Int32))])) _
    refine XS.iconst X0.here hx rfl (hb hby d_method_3_27) ?_
    show Steps p.tables e below (s₁.setTop (mkF m 28 #[.val (.int (7 : Int32))] [(.int (3 : Int32)), (.int (7 : Int32))])) _
    refine XS.icmpYes X0.here hx rfl (pc0 := 28) (pc' := 35) rfl (hb hby d_method_3_28) rfl (feq ((by decide) : ¬ ((7 : Int32) = (3 : Int32)))).2 (by decide) (by decide) ?_
    show Steps p.tables e below (s₁.setTop (mkF m 35 #[.val (.int (7 : Int32))] [])) _
    refine XS.iloadN X0.here hx rfl (hb hby d_method_3_35) rfl ?_
    show Steps p.tables e below (s₁.setTop (mkF m 36 #[.val (.int (7 : Int32))] [(.int (7 : Int32))])) _
    refine XS.iconst X0.here hx rfl (hb hby d_method_3_36) ?_
    show Steps p.tables e below (s₁.setTop (mkF m 37 #[.val (.int (7 : Int32))] [(.int (4 : Int32)), (.int (7 : Int32))])) _
    refine XS.icmpYes X0.here hx rfl (pc0 := 37) (pc' := 44) rfl (hb hby d_method_3_37) rfl (feq ((by decide) : ¬ ((7 : Int32) = (4 : Int32)))).2 (by decide) (by decide) ?_
    show Steps p.tables e below (s₁.setTop (mkF m 44 #[.val (.int (7 : Int32))] [])) _
    refine XS.iloadN X0.here hx rfl (hb hby d_method_3_44) rfl ?_
    show Steps p.tables e below (s₁.setTop (mkF m 45 #[.val (.int (7 : Int32))] [(.int (7 : Int32))])) _
    refine XS.iconst X0.here hx rfl (hb hby d_method_3_45) ?_
    show Steps p.tables e below (s₁.setTop (mkF m 46 #[.val (.int (7 : Int32))] [(.int (5 : Int32)), (.int (7 : Int32))])) _
    refine XS.icmpYes X0.here hx rfl (pc0 := 46) (pc' := 53) rfl (hb hby d_method_3_46) rfl (feq ((by decide) : ¬ ((7 : Int32) = (5 : Int32)))).2 (by decide) (by decide) ?_
    show Steps p.tables e below (s₁.setTop (mkF m 53 #[.val (.int (7 : Int32))] [])) _
    refine XS.iloadN X0.here hx rfl (hb hby d_method_3_53) rfl ?_
    show Steps p.tables e below (s₁.setTop (mkF m 54 #[.val (.int (7 : Int32))] [(.int (7 : Int32))])) _
    refine XS.bipush X0.here hx rfl (hb hby d_method_3_54) ?_
    show Steps p.tables e below (s₁.setTop (mkF m 56 #[.val (.int (7 : Int32))] [(.int (6 : Int32)), (.int (7 : Int32))])) _
    refine XS.icmpYes X0.here hx rfl (pc0 := 56) (pc' := 63) rfl (hb hby d_method_3_56) rfl (feq ((by decide) : ¬ ((7 : Int32) = (6 : Int32)))).2 (by decide) (by decide) ?_
    show Steps p.tables e below (s₁.setTop (mkF m 63 #[.val (.int (7 : Int32))] [])) _
    refine st2 _ ?_
    exact kk)
  obtain ⟨fs, hr, hrun, hended, hW, hsame⟩ := X2.leave (v := some (.ref a1)) (fun h => by rw [Bd.returns] at h; cases h)
  refine ⟨_, _, pre3 _ ?_, hrun, hended, _, _, rfl, ?_, ⟨_, rfl⟩, hW, hsame.mono (by decide) (by decide)⟩
  · exact retOut X2 hx Bd.returns rfl (Or.inr (Or.inr (Or.inr (Or.inr ⟨rfl, rfl, rfl⟩)))) (hb hby d_method_3_66) hr
  · show Q12 Z a1 h0 n0 _ T2.heap _
    rw [e2]
    exact ⟨rfl, N0, rfl⟩
def Q0 (Z : State) (h0 : Heap) (n0 : Nat) (v : Option Value) (h : Heap) (L : List Loc) : Prop := v = some (.int (1 : Int32)) ∧ Fr n0 L
set_option maxRecDepth 65536 in
set_option maxHeartbeats 400000000 in
theorem rm0 (l : Launch) (Z : State) (a0 : Array Value) (hw : ∀ d ∈ tables_1, d.before a0 Z = true) (ws : List Jvm.Cond) (x0 : Int32) (w_ELECTION : Addr) (w_COORDINATOR : Addr) (w_HEARTBEAT : Addr) (w_CLAIM : Addr) (w_TERM : Addr) (w_RELEASE : Addr) (w_ACK : Addr) (w_HELLO : Addr) (h0 : Heap) (n0 : Nat) (Z0 : n0 ≤ h0.size) (S_w_ELECTION : Sta Z h0 "com/example/ballotwire/ballotwire/protocol/Message$Kind" "ELECTION" "Lcom/example/ballotwire/ballotwire/protocol/Message$Kind;" (.ref w_ELECTION)) (E_w_ELECTION : Exa Z h0 w_ELECTION "com/example/ballotwire/ballotwire/protocol/Message$Kind") (S_w_COORDINATOR : Sta Z h0 "com/example/ballotwire/ballotwire/protocol/Message$Kind" "COORDINATOR" "Lcom/example/ballotwire/ballotwire/protocol/Message$Kind;" (.ref w_COORDINATOR)) (E_w_COORDINATOR : Exa Z h0 w_COORDINATOR "com/example/ballotwire/ballotwire/protocol/Message$Kind") (S_w_HEARTBEAT : Sta Z h0 "com/example/ballotwire/ballotwire/protocol/Message$Kind" "HEARTBEAT" "Lcom/example/ballotwire/ballotwire/protocol/Message$Kind;" (.ref w_HEARTBEAT)) (E_w_HEARTBEAT : Exa Z h0 w_HEARTBEAT "com/example/ballotwire/ballotwire/protocol/Message$Kind") (S_w_CLAIM : Sta Z h0 "com/example/ballotwire/ballotwire/protocol/Message$Kind" "CLAIM" "Lcom/example/ballotwire/ballotwire/protocol/Message$Kind;" (.ref w_CLAIM)) (E_w_CLAIM : Exa Z h0 w_CLAIM "com/example/ballotwire/ballotwire/protocol/Message$Kind") (S_w_TERM : Sta Z h0 "com/example/ballotwire/ballotwire/protocol/Message$Kind" "TERM" "Lcom/example/ballotwire/ballotwire/protocol/Message$Kind;" (.ref w_TERM)) (E_w_TERM : Exa Z h0 w_TERM "com/example/ballotwire/ballotwire/protocol/Message$Kind") (S_w_RELEASE : Sta Z h0 "com/example/ballotwire/ballotwire/protocol/Message$Kind" "RELEASE" "Lcom/example/ballotwire/ballotwire/protocol/Message$Kind;" (.ref w_RELEASE)) (E_w_RELEASE : Exa Z h0 w_RELEASE "com/example/ballotwire/ballotwire/protocol/Message$Kind") (S_w_ACK : Sta Z h0 "com/example/ballotwire/ballotwire/protocol/Message$Kind" "ACK" "Lcom/example/ballotwire/ballotwire/protocol/Message$Kind;" (.ref w_ACK)) (E_w_ACK : Exa Z h0 w_ACK "com/example/ballotwire/ballotwire/protocol/Message$Kind") (S_w_HELLO : Sta Z h0 "com/example/ballotwire/ballotwire/protocol/Message$Kind" "HELLO" "Lcom/example/ballotwire/ballotwire/protocol/Message$Kind;" (.ref w_HELLO)) (E_w_HELLO : Exa Z h0 w_HELLO "com/example/ballotwire/ballotwire/protocol/Message$Kind") (F_ordinal_w_ELECTION : Fld Z h0 w_ELECTION "java/lang/Enum" "ordinal" "I" (.int (0 : Int32))) (F_ordinal_w_COORDINATOR : Fld Z h0 w_COORDINATOR "java/lang/Enum" "ordinal" "I" (.int (1 : Int32))) (F_ordinal_w_HEARTBEAT : Fld Z h0 w_HEARTBEAT "java/lang/Enum" "ordinal" "I" (.int (2 : Int32))) (F_ordinal_w_CLAIM : Fld Z h0 w_CLAIM "java/lang/Enum" "ordinal" "I" (.int (3 : Int32))) (F_ordinal_w_TERM : Fld Z h0 w_TERM "java/lang/Enum" "ordinal" "I" (.int (6 : Int32))) (F_ordinal_w_RELEASE : Fld Z h0 w_RELEASE "java/lang/Enum" "ordinal" "I" (.int (7 : Int32))) (F_ordinal_w_ACK : Fld Z h0 w_ACK "java/lang/Enum" "ordinal" "I" (.int (4 : Int32))) (F_ordinal_w_HELLO : Fld Z h0 w_HELLO "java/lang/Enum" "ordinal" "I" (.int (5 : Int32))) :
    MetFree l x (head1 (Jvm.Cond.code x code maxLocals ret :: ws) room_1) (fun a U => a = #[(.int x0)] ∧ Z.Warmed39 U.vm ∧ U.heap = h0) (fun _ _ _ _ _ => True) (fun _ U o U' => ∃ v L, o = .returned v ∧ Q0 Z h0 n0 v U'.heap L ∧ FrameEnd U o U' L room_1.cells room_1.slots) := by
  refine MetFree.of_bodySF (plainFor_of_name pn_0) hisR ?_
  intro p e s m args below meth c s₁ Bd hml0 hP hK
  obtain ⟨rfl, hZ, hh⟩ := hP
  have hx := Bd.exec
  have hby := Bd.bytes
  have hml : c.maxLocals = 4 := hml0
  have hown : s.vm.findClass "com/example/ballotwire/ballotwire/protocol/KindClaimsPinLaw" = some m.cls := findClass_of_methodNamed Bd.named
  have hnm := (name_of_methodNamed Bd.named Bd.method).1
  have X0 : Stand p l e room_1 s m #[(.int x0)] below meth c s₁ [] 0 0 := Stand.of_body Bd
  have e0 : s₁.heap = h0 := by rw [← hh, Bd.state]; rfl
  have N0 := Fr.nil n0
  have pre0 : ∀ t, Steps p.tables e below (s₁.setTop (mkF m 0 #[.val (.int x0), .unset, .unset, .unset] [])) t → Steps p.tables e below (s₁.setTop (entryFrame m #[(.int x0)] maxLocals)) t := fun t k => castTop (ef_0 m (x0)) k
  have pre31 : ∀ t, Steps p.tables e below (s₁.setTop (mkF m 4 #[.val (.int x0), .unset, .unset, .unset] [(.int (x0 &&& (7 : Int32)))])) t → Steps p.tables e below (s₁.setTop (entryFrame m #[(.int x0)] maxLocals)) t := fun t kk => pre0 t (by
    show Steps p.tables e below (s₁.setTop (mkF m 0 #[.val (.int x0), .unset, .unset, .unset] [])) _
    refine XS.iloadN X0.here hx rfl (hb hby at_0) rfl ?_
    show Steps p.tables e below (s₁.setTop (mkF m 1 #[.val (.int x0), .unset, .unset, .unset] [(.int x0)])) _
    refine XS.bipush X0.here hx rfl (hb hby at_1) ?_
    show Steps p.tables e below (s₁.setTop (mkF m 3 #[.val (.int x0), .unset, .unset, .unset] [(.int (7 : Int32)), (.int x0)])) _
    refine XS.iand X0.here hx rfl (hb hby at_3) rfl ?_
    exact kk)
  rcases own_lt8 (x0 &&& (7 : Int32)) (own_maskLo x0 (7 : Int32) 3 (by decide) (by decide)) (by have := own_maskHi x0 (7 : Int32) 3 (by decide) (by decide); exact this) with hv32 | hv32 | hv32 | hv32 | hv32 | hv32 | hv32 | hv32
  ·
    have pre33 := pre31
    rw [hv32] at pre33
    obtain ⟨_, _, ⟨T34, L34, k34, n34⟩, -, X34, ⟨Lc34, hQ34, l34, y34, z34⟩, st34⟩ := Jvm.LawKit.callS X0 hx (y := (⟨"com/example/ballotwire/ballotwire/protocol/KindClaimsPinLaw", "kindOf", "(I)Lcom/example/ballotwire/ballotwire/protocol/Message$Kind;"⟩ : MethodName)) hown (mvT hZ (hw _ (List.mem_of_getElem? (i := 0) rfl))) (mvT hZ (hw _ (List.mem_of_getElem? (i := 1) rfl))) (mvT hZ (hw _ (List.mem_of_getElem? (i := 2) rfl))) (mvT hZ (hw _ (List.mem_of_getElem? (i := 3) rfl))) (by decide) (backOf (W := 0) (rm1 l Z a0 hw [] w_ELECTION h0 n0 Z0 S_w_ELECTION) hZ (hw _ (List.mem_of_getElem? (i := 3) rfl)) (hw _ (List.mem_of_getElem? (i := 2) rfl)) (by decide) (by decide)) (g := (mkF m 6 #[.val (.int x0), .val (.int (0 : Int32)), .unset, .unset] [(.int (0 : Int32))])) rfl (by rw [hml]; rfl) (argsL := [(.int (0 : Int32))]) (rest := []) (lenOf pd_0 rfl) rfl (by show 2 * 0 + _ ≤ _; exact Nat.le_of_eq rfl) (hb hby at_6) (fun _ _ => ⟨rfl, e0, (by decide : 0 + 0 ≤ _), (by decide : 0 + 0 ≤ _)⟩)
    dsimp only [Pt.U, Pt.locs, Pt.cells, Pt.slots] at X34 l34 y34 z34 st34 hQ34
    subst l34 y34 z34
    obtain ⟨rfl, N34q, e34⟩ := hQ34
    have N34 := Fr.app N0 N34q
    obtain ⟨cq35, kq35, q35a, q35b, q35c⟩ := isOf hZ e34 E_w_ELECTION
    obtain ⟨_, _, ⟨T35, L35, k35, n35⟩, -, X35, ⟨Lc35, hQ35, l35, y35, z35⟩, st35⟩ := X34.virtualBack hx (y := (⟨"com/example/ballotwire/ballotwire/protocol/Message$Kind", "claims", "()Z"⟩ : MethodName)) (z := (⟨"com/example/ballotwire/ballotwire/protocol/Message$Kind", "claims", "()Z"⟩ : MethodName)) hown (mvT hZ (hw _ (List.mem_of_getElem? (i := 7) rfl))) (mvT hZ (hw _ (List.mem_of_getElem? (i := 8) rfl))) (notFace_of_selects (args := #[]) (mvT hZ (hw _ (List.mem_of_getElem? (i := 10) rfl)))) (mvT hZ (hw _ (List.mem_of_getElem? (i := 10) rfl))) (mvT hZ (hw _ (List.mem_of_getElem? (i := 9) rfl))) (by decide) (backOf (W := 0) (rm2 l Z a0 hw [] w_ELECTION w_COORDINATOR w_HEARTBEAT w_CLAIM h0 n0 Z0 S_w_COORDINATOR ((Fld.ne F_ordinal_w_ELECTION F_ordinal_w_COORDINATOR (by decide))) S_w_HEARTBEAT ((Fld.ne F_ordinal_w_ELECTION F_ordinal_w_HEARTBEAT (by decide))) S_w_CLAIM ((Fld.ne F_ordinal_w_ELECTION F_ordinal_w_CLAIM (by decide)))) hZ (hw _ (List.mem_of_getElem? (i := 11) rfl)) (hw _ (List.mem_of_getElem? (i := 5) rfl)) (by decide) (by decide)) q35a q35c (g := (mkF m 32 #[.val (.int x0), .val (.int (0 : Int32)), .val (.ref w_ELECTION), .val (.int (0 : Int32))] [(.ref w_ELECTION)])) rfl (by rw [hml]; rfl) (Steps.refl _) (argsL := []) (rest := []) (lenOf pd_1 rfl) rfl (by show 2 * 0 + _ ≤ _; exact Nat.le_of_eq rfl) (hb hby at_32) (fun _ _ => ⟨rfl, e34, (by decide : 0 + 0 ≤ _), (by decide : 0 + 0 ≤ _)⟩)
    dsimp only [Pt.U, Pt.locs, Pt.cells, Pt.slots] at X35 l35 y35 z35 st35 hQ35
    subst l35 y35 z35
    obtain ⟨rfl, N35q, e35⟩ := hQ35
    have N35 := Fr.app N34 N35q
    have pre36 : ∀ t, Steps p.tables e below (T35.setTop (mkF m 44 #[.val (.int x0), .val (.int (0 : Int32)), .val (.ref w_ELECTION), .val (.int (0 : Int32))] [(.int (1 : Int32))])) t → Steps p.tables e below (s₁.setTop (entryFrame m #[(.int x0)] maxLocals)) t := fun t kk => pre33 t (by
      show Steps p.tables e below (s₁.setTop (mkF m 4 #[.val (.int x0), .unset, .unset, .unset] [(.int (0 : Int32))])) _
      refine XS.istoreN X0.here hx rfl (hb hby at_4) rfl (l' := #[.val (.int x0), .val (.int (0 : Int32)), .unset, .unset]) rfl ?_
      show Steps p.tables e below (s₁.setTop (mkF m 5 #[.val (.int x0), .val (.int (0 : Int32)), .unset, .unset] [])) _
      refine XS.iloadN X0.here hx rfl (hb hby at_5) rfl ?_
      show Steps p.tables e below (s₁.setTop (mkF m 6 #[.val (.int x0), .val (.int (0 : Int32)), .unset, .unset] [(.int (0 : Int32))])) _
      refine st34 _ ?_
      show Steps p.tables e below (T34.setTop (mkF m 9 #[.val (.int x0), .val (.int (0 : Int32)), .unset, .unset] [(.ref w_ELECTION)])) _
      refine XS.astoreN X34.here hx rfl (hb hby at_9) rfl rfl (l' := #[.val (.int x0), .val (.int (0 : Int32)), .val (.ref w_ELECTION), .unset]) rfl ?_
      show Steps p.tables e below (T34.setTop (mkF m 10 #[.val (.int x0), .val (.int (0 : Int32)), .val (.ref w_ELECTION), .unset] [])) _
      refine XS.iloadN X34.here hx rfl (hb hby at_10) rfl ?_
      show Steps p.tables e below (T34.setTop (mkF m 11 #[.val (.int x0), .val (.int (0 : Int32)), .val (.ref w_ELECTION), .unset] [(.int (0 : Int32))])) _
      refine XS.iconst X34.here hx rfl (hb hby at_11) ?_
      show Steps p.tables e below (T34.setTop (mkF m 12 #[.val (.int x0), .val (.int (0 : Int32)), .val (.ref w_ELECTION), .unset] [(.int (1 : Int32)), (.int (0 : Int32))])) _
      refine XS.icmpNo X34.here hx rfl (hb hby at_12) rfl (feq ((by decide) : ¬ ((0 : Int32) = (1 : Int32)))).1 ?_
      show Steps p.tables e below (T34.setTop (mkF m 15 #[.val (.int x0), .val (.int (0 : Int32)), .val (.ref w_ELECTION), .unset] [])) _
      refine XS.iloadN X34.here hx rfl (hb hby at_15) rfl ?_
      show Steps p.tables e below (T34.setTop (mkF m 16 #[.val (.int x0), .val (.int (0 : Int32)), .val (.ref w_ELECTION), .unset] [(.int (0 : Int32))])) _
      refine XS.iconst X34.here hx rfl (hb hby at_16) ?_
      show Steps p.tables e below (T34.setTop (mkF m 17 #[.val (.int x0), .val (.int (0 : Int32)), .val (.ref w_ELECTION), .unset] [(.int (2 : Int32)), (.int (0 : Int32))])) _
      refine XS.icmpNo X34.here hx rfl (hb hby at_17) rfl (feq ((by decide) : ¬ ((0 : Int32) = (2 : Int32)))).1 ?_
      show Steps p.tables e below (T34.setTop (mkF m 20 #[.val (.int x0), .val (.int (0 : Int32)), .val (.ref w_ELECTION), .unset] [])) _
      refine XS.iloadN X34.here hx rfl (hb hby at_20) rfl ?_
      show Steps p.tables e below (T34.setTop (mkF m 21 #[.val (.int x0), .val (.int (0 : Int32)), .val (.ref w_ELECTION), .unset] [(.int (0 : Int32))])) _
      refine XS.iconst X34.here hx rfl (hb hby at_21) ?_
      show Steps p.tables e below (T34.setTop (mkF m 22 #[.val (.int x0), .val (.int (0 : Int32)), .val (.ref w_ELECTION), .unset] [(.int (3 : Int32)), (.int (0 : Int32))])) _
      refine XS.icmpYes X34.here hx rfl (pc0 := 22) (pc' := 29) rfl (hb hby at_22) rfl (feq ((by decide) : ¬ ((0 : Int32) = (3 : Int32)))).2 (by decide) (by decide) ?_
      show Steps p.tables e below (T34.setTop (mkF m 29 #[.val (.int x0), .val (.int (0 : Int32)), .val (.ref w_ELECTION), .unset] [])) _
      refine XS.iconst X34.here hx rfl (hb hby at_29) ?_
      show Steps p.tables e below (T34.setTop (mkF m 30 #[.val (.int x0), .val (.int (0 : Int32)), .val (.ref w_ELECTION), .unset] [(.int (0 : Int32))])) _
      refine XS.istoreN X34.here hx rfl (hb hby at_30) rfl (l' := #[.val (.int x0), .val (.int (0 : Int32)), .val (.ref w_ELECTION), .val (.int (0 : Int32))]) rfl ?_
      show Steps p.tables e below (T34.setTop (mkF m 31 #[.val (.int x0), .val (.int (0 : Int32)), .val (.ref w_ELECTION), .val (.int (0 : Int32))] [])) _
      refine XS.aloadN X34.here hx rfl (hb hby at_31) rfl rfl ?_
      show Steps p.tables e below (T34.setTop (mkF m 32 #[.val (.int x0), .val (.int (0 : Int32)), .val (.ref w_ELECTION), .val (.int (0 : Int32))] [(.ref w_ELECTION)])) _
      refine st35.trans ?_
      show Steps p.tables e below (T35.setTop (mkF m 35 #[.val (.int x0), .val (.int (0 : Int32)), .val (.ref w_ELECTION), .val (.int (0 : Int32))] [(.int (0 : Int32))])) _
      refine XS.iloadN X35.here hx rfl (hb hby at_35) rfl ?_
      show Steps p.tables e below (T35.setTop (mkF m 36 #[.val (.int x0), .val (.int (0 : Int32)), .val (.ref w_ELECTION), .val (.int (0 : Int32))] [(.int (0 : Int32)), (.int (0 : Int32))])) _
      refine XS.icmpNo X35.here hx rfl (hb hby at_36) rfl (teq ((by decide) : (0 : Int32) = (0 : Int32))).2 ?_
      show Steps p.tables e below (T35.setTop (mkF m 39 #[.val (.int x0), .val (.int (0 : Int32)), .val (.ref w_ELECTION), .val (.int (0 : Int32))] [])) _
      refine XS.iconst X35.here hx rfl (hb hby at_39) ?_
      show Steps p.tables e below (T35.setTop (mkF m 40 #[.val (.int x0), .val (.int (0 : Int32)), .val (.ref w_ELECTION), .val (.int (0 : Int32))] [(.int (1 : Int32))])) _
      refine XS.goto X35.here hx rfl (pc0 := 40) (pc' := 44) rfl (hb hby at_40) (by decide) (by decide) ?_
      exact kk)
    obtain ⟨fs, hr, hrun, hended, hW, hsame⟩ := X35.leave (v := some (.int (1 : Int32))) (fun h => by rw [Bd.returns] at h; cases h)
    refine ⟨_, _, pre36 _ ?_, hrun, hended, _, _, rfl, ?_, ⟨_, rfl⟩, hW, hsame.mono (by decide) (by decide)⟩
    · exact retN X35 hx (t := .boolean) Bd.returns (by simp) (hb hby at_44) hr
    · exact ⟨rfl, N35⟩
  ·
    have pre37 := pre31
    rw [hv32] at pre37
    obtain ⟨_, _, ⟨T38, L38, k38, n38⟩, -, X38, ⟨Lc38, hQ38, l38, y38, z38⟩, st38⟩ := Jvm.LawKit.callS X0 hx (y := (⟨"com/example/ballotwire/ballotwire/protocol/KindClaimsPinLaw", "kindOf", "(I)Lcom/example/ballotwire/ballotwire/protocol/Message$Kind;"⟩ : MethodName)) hown (mvT hZ (hw _ (List.mem_of_getElem? (i := 0) rfl))) (mvT hZ (hw _ (List.mem_of_getElem? (i := 1) rfl))) (mvT hZ (hw _ (List.mem_of_getElem? (i := 2) rfl))) (mvT hZ (hw _ (List.mem_of_getElem? (i := 3) rfl))) (by decide) (backOf (W := 0) (rm3 l Z a0 hw [] w_COORDINATOR h0 n0 Z0 S_w_COORDINATOR) hZ (hw _ (List.mem_of_getElem? (i := 3) rfl)) (hw _ (List.mem_of_getElem? (i := 2) rfl)) (by decide) (by decide)) (g := (mkF m 6 #[.val (.int x0), .val (.int (1 : Int32)), .unset, .unset] [(.int (1 : Int32))])) rfl (by rw [hml]; rfl) (argsL := [(.int (1 : Int32))]) (rest := []) (lenOf pd_0 rfl) rfl (by show 2 * 0 + _ ≤ _; exact Nat.le_of_eq rfl) (hb hby at_6) (fun _ _ => ⟨rfl, e0, (by decide : 0 + 0 ≤ _), (by decide : 0 + 0 ≤ _)⟩)
    dsimp only [Pt.U, Pt.locs, Pt.cells, Pt.slots] at X38 l38 y38 z38 st38 hQ38
    subst l38 y38 z38
    obtain ⟨rfl, N38q, e38⟩ := hQ38
    have N38 := Fr.app N0 N38q
    obtain ⟨cq39, kq39, q39a, q39b, q39c⟩ := isOf hZ e38 E_w_COORDINATOR
    obtain ⟨_, _, ⟨T39, L39, k39, n39⟩, -, X39, ⟨Lc39, hQ39, l39, y39, z39⟩, st39⟩ := X38.virtualBack hx (y := (⟨"com/example/ballotwire/ballotwire/protocol/Message$Kind", "claims", "()Z"⟩ : MethodName)) (z := (⟨"com/example/ballotwire/ballotwire/protocol/Message$Kind", "claims", "()Z"⟩ : MethodName)) hown (mvT hZ (hw _ (List.mem_of_getElem? (i := 7) rfl))) (mvT hZ (hw _ (List.mem_of_getElem? (i := 8) rfl))) (notFace_of_selects (args := #[]) (mvT hZ (hw _ (List.mem_of_getElem? (i := 10) rfl)))) (mvT hZ (hw _ (List.mem_of_getElem? (i := 10) rfl))) (mvT hZ (hw _ (List.mem_of_getElem? (i := 9) rfl))) (by decide) (backOf (W := 0) (rm4 l Z a0 hw [] w_COORDINATOR h0 n0 Z0 S_w_COORDINATOR) hZ (hw _ (List.mem_of_getElem? (i := 11) rfl)) (hw _ (List.mem_of_getElem? (i := 5) rfl)) (by decide) (by decide)) q39a q39c (g := (mkF m 32 #[.val (.int x0), .val (.int (1 : Int32)), .val (.ref w_COORDINATOR), .val (.int (1 : Int32))] [(.ref w_COORDINATOR)])) rfl (by rw [hml]; rfl) (Steps.refl _) (argsL := []) (rest := []) (lenOf pd_1 rfl) rfl (by show 2 * 0 + _ ≤ _; exact Nat.le_of_eq rfl) (hb hby at_32) (fun _ _ => ⟨rfl, e38, (by decide : 0 + 0 ≤ _), (by decide : 0 + 0 ≤ _)⟩)
    dsimp only [Pt.U, Pt.locs, Pt.cells, Pt.slots] at X39 l39 y39 z39 st39 hQ39
    subst l39 y39 z39
    obtain ⟨rfl, N39q, e39⟩ := hQ39
    have N39 := Fr.app N38 N39q
    have pre40 : ∀ t, Steps p.tables e below (T39.setTop (mkF m 44 #[.val (.int x0), .val (.int (1 : Int32)), .val (.ref w_COORDINATOR), .val (.int (1 : Int32))] [(.int (1 : Int32))])) t → Steps p.tables e below (s₁.setTop (entryFrame m #[(.int x0)] maxLocals)) t := fun t kk => pre37 t (by
      show Steps p.tables e below (s₁.setTop (mkF m 4 #[.val (.int x0), .unset, .unset, .unset] [(.int (1 : Int32))])) _
      refine XS.istoreN X0.here hx rfl (hb hby at_4) rfl (l' := #[.val (.int x0), .val (.int (1 : Int32)), .unset, .unset]) rfl ?_
      show Steps p.tables e below (s₁.setTop (mkF m 5 #[.val (.int x0), .val (.int (1 : Int32)), .unset, .unset] [])) _
      refine XS.iloadN X0.here hx rfl (hb hby at_5) rfl ?_
      show Steps p.tables e below (s₁.setTop (mkF m 6 #[.val (.int x0), .val (.int (1 : Int32)), .unset, .unset] [(.int (1 : Int32))])) _
      refine st38 _ ?_
      show Steps p.tables e below (T38.setTop (mkF m 9 #[.val (.int x0), .val (.int (1 : Int32)), .unset, .unset] [(.ref w_COORDINATOR)])) _
      refine XS.astoreN X38.here hx rfl (hb hby at_9) rfl rfl (l' := #[.val (.int x0), .val (.int (1 : Int32)), .val (.ref w_COORDINATOR), .unset]) rfl ?_
      show Steps p.tables e below (T38.setTop (mkF m 10 #[.val (.int x0), .val (.int (1 : Int32)), .val (.ref w_COORDINATOR), .unset] [])) _
      refine XS.iloadN X38.here hx rfl (hb hby at_10) rfl ?_
      show Steps p.tables e below (T38.setTop (mkF m 11 #[.val (.int x0), .val (.int (1 : Int32)), .val (.ref w_COORDINATOR), .unset] [(.int (1 : Int32))])) _
      refine XS.iconst X38.here hx rfl (hb hby at_11) ?_
      show Steps p.tables e below (T38.setTop (mkF m 12 #[.val (.int x0), .val (.int (1 : Int32)), .val (.ref w_COORDINATOR), .unset] [(.int (1 : Int32)), (.int (1 : Int32))])) _
      refine XS.icmpYes X38.here hx rfl (pc0 := 12) (pc' := 25) rfl (hb hby at_12) rfl (teq ((by decide) : (1 : Int32) = (1 : Int32))).1 (by decide) (by decide) ?_
      show Steps p.tables e below (T38.setTop (mkF m 25 #[.val (.int x0), .val (.int (1 : Int32)), .val (.ref w_COORDINATOR), .unset] [])) _
      refine XS.iconst X38.here hx rfl (hb hby at_25) ?_
      show Steps p.tables e below (T38.setTop (mkF m 26 #[.val (.int x0), .val (.int (1 : Int32)), .val (.ref w_COORDINATOR), .unset] [(.int (1 : Int32))])) _
      refine XS.goto X38.here hx rfl (pc0 := 26) (pc' := 30) rfl (hb hby at_26) (by decide) (by decide) ?_
      show Steps p.tables e below (T38.setTop (mkF m 30 #[.val (.int x0), .val (.int (1 : Int32)), .val (.ref w_COORDINATOR), .unset] [(.int (1 : Int32))])) _
      refine XS.istoreN X38.here hx rfl (hb hby at_30) rfl (l' := #[.val (.int x0), .val (.int (1 : Int32)), .val (.ref w_COORDINATOR), .val (.int (1 : Int32))]) rfl ?_
      show Steps p.tables e below (T38.setTop (mkF m 31 #[.val (.int x0), .val (.int (1 : Int32)), .val (.ref w_COORDINATOR), .val (.int (1 : Int32))] [])) _
      refine XS.aloadN X38.here hx rfl (hb hby at_31) rfl rfl ?_
      show Steps p.tables e below (T38.setTop (mkF m 32 #[.val (.int x0), .val (.int (1 : Int32)), .val (.ref w_COORDINATOR), .val (.int (1 : Int32))] [(.ref w_COORDINATOR)])) _
      refine st39.trans ?_
      show Steps p.tables e below (T39.setTop (mkF m 35 #[.val (.int x0), .val (.int (1 : Int32)), .val (.ref w_COORDINATOR), .val (.int (1 : Int32))] [(.int (1 : Int32))])) _
      refine XS.iloadN X39.here hx rfl (hb hby at_35) rfl ?_
      show Steps p.tables e below (T39.setTop (mkF m 36 #[.val (.int x0), .val (.int (1 : Int32)), .val (.ref w_COORDINATOR), .val (.int (1 : Int32))] [(.int (1 : Int32)), (.int (1 : Int32))])) _
      refine XS.icmpNo X39.here hx rfl (hb hby at_36) rfl (teq ((by decide) : (1 : Int32) = (1 : Int32))).2 ?_
      show Steps p.tables e below (T39.setTop (mkF m 39 #[.val (.int x0), .val (.int (1 : Int32)), .val (.ref w_COORDINATOR), .val (.int (1 : Int32))] [])) _
      refine XS.iconst X39.here hx rfl (hb hby at_39) ?_
      show Steps p.tables e below (T39.setTop (mkF m 40 #[.val (.int x0), .val (.int (1 : Int32)), .val (.ref w_COORDINATOR), .val (.int (1 : Int32))] [(.int (1 : Int32))])) _
      refine XS.goto X39.here hx rfl (pc0 := 40) (pc' := 44) rfl (hb hby at_40) (by decide) (by decide) ?_
      exact kk)
    obtain ⟨fs, hr, hrun, hended, hW, hsame⟩ := X39.leave (v := some (.int (1 : Int32))) (fun h => by rw [Bd.returns] at h; cases h)
    refine ⟨_, _, pre40 _ ?_, hrun, hended, _, _, rfl, ?_, ⟨_, rfl⟩, hW, hsame.mono (by decide) (by decide)⟩
    · exact retN X39 hx (t := .boolean) Bd.returns (by simp) (hb hby at_44) hr
    · exact ⟨rfl, N39⟩
  ·
    have pre41 := pre31
    rw [hv32] at pre41
    obtain ⟨_, _, ⟨T42, L42, k42, n42⟩, -, X42, ⟨Lc42, hQ42, l42, y42, z42⟩, st42⟩ := Jvm.LawKit.callS X0 hx (y := (⟨"com/example/ballotwire/ballotwire/protocol/KindClaimsPinLaw", "kindOf", "(I)Lcom/example/ballotwire/ballotwire/protocol/Message$Kind;"⟩ : MethodName)) hown (mvT hZ (hw _ (List.mem_of_getElem? (i := 0) rfl))) (mvT hZ (hw _ (List.mem_of_getElem? (i := 1) rfl))) (mvT hZ (hw _ (List.mem_of_getElem? (i := 2) rfl))) (mvT hZ (hw _ (List.mem_of_getElem? (i := 3) rfl))) (by decide) (backOf (W := 0) (rm5 l Z a0 hw [] w_HEARTBEAT h0 n0 Z0 S_w_HEARTBEAT) hZ (hw _ (List.mem_of_getElem? (i := 3) rfl)) (hw _ (List.mem_of_getElem? (i := 2) rfl)) (by decide) (by decide)) (g := (mkF m 6 #[.val (.int x0), .val (.int (2 : Int32)), .unset, .unset] [(.int (2 : Int32))])) rfl (by rw [hml]; rfl) (argsL := [(.int (2 : Int32))]) (rest := []) (lenOf pd_0 rfl) rfl (by show 2 * 0 + _ ≤ _; exact Nat.le_of_eq rfl) (hb hby at_6) (fun _ _ => ⟨rfl, e0, (by decide : 0 + 0 ≤ _), (by decide : 0 + 0 ≤ _)⟩)
    dsimp only [Pt.U, Pt.locs, Pt.cells, Pt.slots] at X42 l42 y42 z42 st42 hQ42
    subst l42 y42 z42
    obtain ⟨rfl, N42q, e42⟩ := hQ42
    have N42 := Fr.app N0 N42q
    obtain ⟨cq43, kq43, q43a, q43b, q43c⟩ := isOf hZ e42 E_w_HEARTBEAT
    obtain ⟨_, _, ⟨T43, L43, k43, n43⟩, -, X43, ⟨Lc43, hQ43, l43, y43, z43⟩, st43⟩ := X42.virtualBack hx (y := (⟨"com/example/ballotwire/ballotwire/protocol/Message$Kind", "claims", "()Z"⟩ : MethodName)) (z := (⟨"com/example/ballotwire/ballotwire/protocol/Message$Kind", "claims", "()Z"⟩ : MethodName)) hown (mvT hZ (hw _ (List.mem_of_getElem? (i := 7) rfl))) (mvT hZ (hw _ (List.mem_of_getElem? (i := 8) rfl))) (notFace_of_selects (args := #[]) (mvT hZ (hw _ (List.mem_of_getElem? (i := 10) rfl)))) (mvT hZ (hw _ (List.mem_of_getElem? (i := 10) rfl))) (mvT hZ (hw _ (List.mem_of_getElem? (i := 9) rfl))) (by decide) (backOf (W := 0) (rm6 l Z a0 hw [] w_HEARTBEAT w_COORDINATOR h0 n0 Z0 S_w_COORDINATOR ((Fld.ne F_ordinal_w_HEARTBEAT F_ordinal_w_COORDINATOR (by decide))) S_w_HEARTBEAT) hZ (hw _ (List.mem_of_getElem? (i := 11) rfl)) (hw _ (List.mem_of_getElem? (i := 5) rfl)) (by decide) (by decide)) q43a q43c (g := (mkF m 32 #[.val (.int x0), .val (.int (2 : Int32)), .val (.ref w_HEARTBEAT), .val (.int (1 : Int32))] [(.ref w_HEARTBEAT)])) rfl (by rw [hml]; rfl) (Steps.refl _) (argsL := []) (rest := []) (lenOf pd_1 rfl) rfl (by show 2 * 0 + _ ≤ _; exact Nat.le_of_eq rfl) (hb hby at_32) (fun _ _ => ⟨rfl, e42, (by decide : 0 + 0 ≤ _), (by decide : 0 + 0 ≤ _)⟩)
    dsimp only [Pt.U, Pt.locs, Pt.cells, Pt.slots] at X43 l43 y43 z43 st43 hQ43
    subst l43 y43 z43
    obtain ⟨rfl, N43q, e43⟩ := hQ43
    have N43 := Fr.app N42 N43q
    have pre44 : ∀ t, Steps p.tables e below (T43.setTop (mkF m 44 #[.val (.int x0), .val (.int (2 : Int32)), .val (.ref w_HEARTBEAT), .val (.int (1 : Int32))] [(.int (1 : Int32))])) t → Steps p.tables e below (s₁.setTop (entryFrame m #[(.int x0)] maxLocals)) t := fun t kk => pre41 t (by
      show Steps p.tables e below (s₁.setTop (mkF m 4 #[.val (.int x0), .unset, .unset, .unset] [(.int (2 : Int32))])) _
      refine XS.istoreN X0.here hx rfl (hb hby at_4) rfl (l' := #[.val (.int x0), .val (.int (2 : Int32)), .unset, .unset]) rfl ?_
      show Steps p.tables e below (s₁.setTop (mkF m 5 #[.val (.int x0), .val (.int (2 : Int32)), .unset, .unset] [])) _
      refine XS.iloadN X0.here hx rfl (hb hby at_5) rfl ?_
      show Steps p.tables e below (s₁.setTop (mkF m 6 #[.val (.int x0), .val (.int (2 : Int32)), .unset, .unset] [(.int (2 : Int32))])) _
      refine st42 _ ?_
      show Steps p.tables e below (T42.setTop (mkF m 9 #[.val (.int x0), .val (.int (2 : Int32)), .unset, .unset] [(.ref w_HEARTBEAT)])) _
      refine XS.astoreN X42.here hx rfl (hb hby at_9) rfl rfl (l' := #[.val (.int x0), .val (.int (2 : Int32)), .val (.ref w_HEARTBEAT), .unset]) rfl ?_
      show Steps p.tables e below (T42.setTop (mkF m 10 #[.val (.int x0), .val (.int (2 : Int32)), .val (.ref w_HEARTBEAT), .unset] [])) _
      refine XS.iloadN X42.here hx rfl (hb hby at_10) rfl ?_
      show Steps p.tables e below (T42.setTop (mkF m 11 #[.val (.int x0), .val (.int (2 : Int32)), .val (.ref w_HEARTBEAT), .unset] [(.int (2 : Int32))])) _
      refine XS.iconst X42.here hx rfl (hb hby at_11) ?_
      show Steps p.tables e below (T42.setTop (mkF m 12 #[.val (.int x0), .val (.int (2 : Int32)), .val (.ref w_HEARTBEAT), .unset] [(.int (1 : Int32)), (.int (2 : Int32))])) _
      refine XS.icmpNo X42.here hx rfl (hb hby at_12) rfl (feq ((by decide) : ¬ ((2 : Int32) = (1 : Int32)))).1 ?_
      show Steps p.tables e below (T42.setTop (mkF m 15 #[.val (.int x0), .val (.int (2 : Int32)), .val (.ref w_HEARTBEAT), .unset] [])) _
      refine XS.iloadN X42.here hx rfl (hb hby at_15) rfl ?_
      show Steps p.tables e below (T42.setTop (mkF m 16 #[.val (.int x0), .val (.int (2 : Int32)), .val (.ref w_HEARTBEAT), .unset] [(.int (2 : Int32))])) _
      refine XS.iconst X42.here hx rfl (hb hby at_16) ?_
      show Steps p.tables e below (T42.setTop (mkF m 17 #[.val (.int x0), .val (.int (2 : Int32)), .val (.ref w_HEARTBEAT), .unset] [(.int (2 : Int32)), (.int (2 : Int32))])) _
      refine XS.icmpYes X42.here hx rfl (pc0 := 17) (pc' := 25) rfl (hb hby at_17) rfl (teq ((by decide) : (2 : Int32) = (2 : Int32))).1 (by decide) (by decide) ?_
      show Steps p.tables e below (T42.setTop (mkF m 25 #[.val (.int x0), .val (.int (2 : Int32)), .val (.ref w_HEARTBEAT), .unset] [])) _
      refine XS.iconst X42.here hx rfl (hb hby at_25) ?_
      show Steps p.tables e below (T42.setTop (mkF m 26 #[.val (.int x0), .val (.int (2 : Int32)), .val (.ref w_HEARTBEAT), .unset] [(.int (1 : Int32))])) _
      refine XS.goto X42.here hx rfl (pc0 := 26) (pc' := 30) rfl (hb hby at_26) (by decide) (by decide) ?_
      show Steps p.tables e below (T42.setTop (mkF m 30 #[.val (.int x0), .val (.int (2 : Int32)), .val (.ref w_HEARTBEAT), .unset] [(.int (1 : Int32))])) _
      refine XS.istoreN X42.here hx rfl (hb hby at_30) rfl (l' := #[.val (.int x0), .val (.int (2 : Int32)), .val (.ref w_HEARTBEAT), .val (.int (1 : Int32))]) rfl ?_
      show Steps p.tables e below (T42.setTop (mkF m 31 #[.val (.int x0), .val (.int (2 : Int32)), .val (.ref w_HEARTBEAT), .val (.int (1 : Int32))] [])) _
      refine XS.aloadN X42.here hx rfl (hb hby at_31) rfl rfl ?_
      show Steps p.tables e below (T42.setTop (mkF m 32 #[.val (.int x0), .val (.int (2 : Int32)), .val (.ref w_HEARTBEAT), .val (.int (1 : Int32))] [(.ref w_HEARTBEAT)])) _
      refine st43.trans ?_
      show Steps p.tables e below (T43.setTop (mkF m 35 #[.val (.int x0), .val (.int (2 : Int32)), .val (.ref w_HEARTBEAT), .val (.int (1 : Int32))] [(.int (1 : Int32))])) _
      refine XS.iloadN X43.here hx rfl (hb hby at_35) rfl ?_
      show Steps p.tables e below (T43.setTop (mkF m 36 #[.val (.int x0), .val (.int (2 : Int32)), .val (.ref w_HEARTBEAT), .val (.int (1 : Int32))] [(.int (1 : Int32)), (.int (1 : Int32))])) _
      refine XS.icmpNo X43.here hx rfl (hb hby at_36) rfl (teq ((by decide) : (1 : Int32) = (1 : Int32))).2 ?_
      show Steps p.tables e below (T43.setTop (mkF m 39 #[.val (.int x0), .val (.int (2 : Int32)), .val (.ref w_HEARTBEAT), .val (.int (1 : Int32))] [])) _
      refine XS.iconst X43.here hx rfl (hb hby at_39) ?_
      show Steps p.tables e below (T43.setTop (mkF m 40 #[.val (.int x0), .val (.int (2 : Int32)), .val (.ref w_HEARTBEAT), .val (.int (1 : Int32))] [(.int (1 : Int32))])) _
      refine XS.goto X43.here hx rfl (pc0 := 40) (pc' := 44) rfl (hb hby at_40) (by decide) (by decide) ?_
      exact kk)
    obtain ⟨fs, hr, hrun, hended, hW, hsame⟩ := X43.leave (v := some (.int (1 : Int32))) (fun h => by rw [Bd.returns] at h; cases h)
    refine ⟨_, _, pre44 _ ?_, hrun, hended, _, _, rfl, ?_, ⟨_, rfl⟩, hW, hsame.mono (by decide) (by decide)⟩
    · exact retN X43 hx (t := .boolean) Bd.returns (by simp) (hb hby at_44) hr
    · exact ⟨rfl, N43⟩
  ·
    have pre45 := pre31
    rw [hv32] at pre45
    obtain ⟨_, _, ⟨T46, L46, k46, n46⟩, -, X46, ⟨Lc46, hQ46, l46, y46, z46⟩, st46⟩ := Jvm.LawKit.callS X0 hx (y := (⟨"com/example/ballotwire/ballotwire/protocol/KindClaimsPinLaw", "kindOf", "(I)Lcom/example/ballotwire/ballotwire/protocol/Message$Kind;"⟩ : MethodName)) hown (mvT hZ (hw _ (List.mem_of_getElem? (i := 0) rfl))) (mvT hZ (hw _ (List.mem_of_getElem? (i := 1) rfl))) (mvT hZ (hw _ (List.mem_of_getElem? (i := 2) rfl))) (mvT hZ (hw _ (List.mem_of_getElem? (i := 3) rfl))) (by decide) (backOf (W := 0) (rm7 l Z a0 hw [] w_CLAIM h0 n0 Z0 S_w_CLAIM) hZ (hw _ (List.mem_of_getElem? (i := 3) rfl)) (hw _ (List.mem_of_getElem? (i := 2) rfl)) (by decide) (by decide)) (g := (mkF m 6 #[.val (.int x0), .val (.int (3 : Int32)), .unset, .unset] [(.int (3 : Int32))])) rfl (by rw [hml]; rfl) (argsL := [(.int (3 : Int32))]) (rest := []) (lenOf pd_0 rfl) rfl (by show 2 * 0 + _ ≤ _; exact Nat.le_of_eq rfl) (hb hby at_6) (fun _ _ => ⟨rfl, e0, (by decide : 0 + 0 ≤ _), (by decide : 0 + 0 ≤ _)⟩)
    dsimp only [Pt.U, Pt.locs, Pt.cells, Pt.slots] at X46 l46 y46 z46 st46 hQ46
    subst l46 y46 z46
    obtain ⟨rfl, N46q, e46⟩ := hQ46
    have N46 := Fr.app N0 N46q
    obtain ⟨cq47, kq47, q47a, q47b, q47c⟩ := isOf hZ e46 E_w_CLAIM
    obtain ⟨_, _, ⟨T47, L47, k47, n47⟩, -, X47, ⟨Lc47, hQ47, l47, y47, z47⟩, st47⟩ := X46.virtualBack hx (y := (⟨"com/example/ballotwire/ballotwire/protocol/Message$Kind", "claims", "()Z"⟩ : MethodName)) (z := (⟨"com/example/ballotwire/ballotwire/protocol/Message$Kind", "claims", "()Z"⟩ : MethodName)) hown (mvT hZ (hw _ (List.mem_of_getElem? (i := 7) rfl))) (mvT hZ (hw _ (List.mem_of_getElem? (i := 8) rfl))) (notFace_of_selects (args := #[]) (mvT hZ (hw _ (List.mem_of_getElem? (i := 10) rfl)))) (mvT hZ (hw _ (List.mem_of_getElem? (i := 10) rfl))) (mvT hZ (hw _ (List.mem_of_getElem? (i := 9) rfl))) (by decide) (backOf (W := 0) (rm8 l Z a0 hw [] w_CLAIM w_COORDINATOR w_HEARTBEAT h0 n0 Z0 S_w_COORDINATOR ((Fld.ne F_ordinal_w_CLAIM F_ordinal_w_COORDINATOR (by decide))) S_w_HEARTBEAT ((Fld.ne F_ordinal_w_CLAIM F_ordinal_w_HEARTBEAT (by decide))) S_w_CLAIM) hZ (hw _ (List.mem_of_getElem? (i := 11) rfl)) (hw _ (List.mem_of_getElem? (i := 5) rfl)) (by decide) (by decide)) q47a q47c (g := (mkF m 32 #[.val (.int x0), .val (.int (3 : Int32)), .val (.ref w_CLAIM), .val (.int (1 : Int32))] [(.ref w_CLAIM)])) rfl (by rw [hml]; rfl) (Steps.refl _) (argsL := []) (rest := []) (lenOf pd_1 rfl) rfl (by show 2 * 0 + _ ≤ _; exact Nat.le_of_eq rfl) (hb hby at_32) (fun _ _ => ⟨rfl, e46, (by decide : 0 + 0 ≤ _), (by decide : 0 + 0 ≤ _)⟩)
    dsimp only [Pt.U, Pt.locs, Pt.cells, Pt.slots] at X47 l47 y47 z47 st47 hQ47
    subst l47 y47 z47
    obtain ⟨rfl, N47q, e47⟩ := hQ47
    have N47 := Fr.app N46 N47q
    have pre48 : ∀ t, Steps p.tables e below (T47.setTop (mkF m 44 #[.val (.int x0), .val (.int (3 : Int32)), .val (.ref w_CLAIM), .val (.int (1 : Int32))] [(.int (1 : Int32))])) t → Steps p.tables e below (s₁.setTop (entryFrame m #[(.int x0)] maxLocals)) t := fun t kk => pre45 t (by
      show Steps p.tables e below (s₁.setTop (mkF m 4 #[.val (.int x0), .unset, .unset, .unset] [(.int (3 : Int32))])) _
      refine XS.istoreN X0.here hx rfl (hb hby at_4) rfl (l' := #[.val (.int x0), .val (.int (3 : Int32)), .unset, .unset]) rfl ?_
      show Steps p.tables e below (s₁.setTop (mkF m 5 #[.val (.int x0), .val (.int (3 : Int32)), .unset, .unset] [])) _
      refine XS.iloadN X0.here hx rfl (hb hby at_5) rfl ?_
      show Steps p.tables e below (s₁.setTop (mkF m 6 #[.val (.int x0), .val (.int (3 : Int32)), .unset, .unset] [(.int (3 : Int32))])) _
      refine st46 _ ?_
      show Steps p.tables e below (T46.setTop (mkF m 9 #[.val (.int x0), .val (.int (3 : Int32)), .unset, .unset] [(.ref w_CLAIM)])) _
      refine XS.astoreN X46.here hx rfl (hb hby at_9) rfl rfl (l' := #[.val (.int x0), .val (.int (3 : Int32)), .val (.ref w_CLAIM), .unset]) rfl ?_
      show Steps p.tables e below (T46.setTop (mkF m 10 #[.val (.int x0), .val (.int (3 : Int32)), .val (.ref w_CLAIM), .unset] [])) _
      refine XS.iloadN X46.here hx rfl (hb hby at_10) rfl ?_
      show Steps p.tables e below (T46.setTop (mkF m 11 #[.val (.int x0), .val (.int (3 : Int32)), .val (.ref w_CLAIM), .unset] [(.int (3 : Int32))])) _
      refine XS.iconst X46.here hx rfl (hb hby at_11) ?_
      show Steps p.tables e below (T46.setTop (mkF m 12 #[.val (.int x0), .val (.int (3 : Int32)), .val (.ref w_CLAIM), .unset] [(.int (1 : Int32)), (.int (3 : Int32))])) _
      refine XS.icmpNo X46.here hx rfl (hb hby at_12) rfl (feq ((by decide) : ¬ ((3 : Int32) = (1 : Int32)))).1 ?_
      show Steps p.tables e below (T46.setTop (mkF m 15 #[.val (.int x0), .val (.int (3 : Int32)), .val (.ref w_CLAIM), .unset] [])) _
      refine XS.iloadN X46.here hx rfl (hb hby at_15) rfl ?_
      show Steps p.tables e below (T46.setTop (mkF m 16 #[.val (.int x0), .val (.int (3 : Int32)), .val (.ref w_CLAIM), .unset] [(.int (3 : Int32))])) _
      refine XS.iconst X46.here hx rfl (hb hby at_16) ?_
      show Steps p.tables e below (T46.setTop (mkF m 17 #[.val (.int x0), .val (.int (3 : Int32)), .val (.ref w_CLAIM), .unset] [(.int (2 : Int32)), (.int (3 : Int32))])) _
      refine XS.icmpNo X46.here hx rfl (hb hby at_17) rfl (feq ((by decide) : ¬ ((3 : Int32) = (2 : Int32)))).1 ?_
      show Steps p.tables e below (T46.setTop (mkF m 20 #[.val (.int x0), .val (.int (3 : Int32)), .val (.ref w_CLAIM), .unset] [])) _
      refine XS.iloadN X46.here hx rfl (hb hby at_20) rfl ?_
      show Steps p.tables e below (T46.setTop (mkF m 21 #[.val (.int x0), .val (.int (3 : Int32)), .val (.ref w_CLAIM), .unset] [(.int (3 : Int32))])) _
      refine XS.iconst X46.here hx rfl (hb hby at_21) ?_
      show Steps p.tables e below (T46.setTop (mkF m 22 #[.val (.int x0), .val (.int (3 : Int32)), .val (.ref w_CLAIM), .unset] [(.int (3 : Int32)), (.int (3 : Int32))])) _
      refine XS.icmpNo X46.here hx rfl (hb hby at_22) rfl (teq ((by decide) : (3 : Int32) = (3 : Int32))).2 ?_
      show Steps p.tables e below (T46.setTop (mkF m 25 #[.val (.int x0), .val (.int (3 : Int32)), .val (.ref w_CLAIM), .unset] [])) _
      refine XS.iconst X46.here hx rfl (hb hby at_25) ?_
      show Steps p.tables e below (T46.setTop (mkF m 26 #[.val (.int x0), .val (.int (3 : Int32)), .val (.ref w_CLAIM), .unset] [(.int (1 : Int32))])) _
      refine XS.goto X46.here hx rfl (pc0 := 26) (pc' := 30) rfl (hb hby at_26) (by decide) (by decide) ?_
      show Steps p.tables e below (T46.setTop (mkF m 30 #[.val (.int x0), .val (.int (3 : Int32)), .val (.ref w_CLAIM), .unset] [(.int (1 : Int32))])) _
      refine XS.istoreN X46.here hx rfl (hb hby at_30) rfl (l' := #[.val (.int x0), .val (.int (3 : Int32)), .val (.ref w_CLAIM), .val (.int (1 : Int32))]) rfl ?_
      show Steps p.tables e below (T46.setTop (mkF m 31 #[.val (.int x0), .val (.int (3 : Int32)), .val (.ref w_CLAIM), .val (.int (1 : Int32))] [])) _
      refine XS.aloadN X46.here hx rfl (hb hby at_31) rfl rfl ?_
      show Steps p.tables e below (T46.setTop (mkF m 32 #[.val (.int x0), .val (.int (3 : Int32)), .val (.ref w_CLAIM), .val (.int (1 : Int32))] [(.ref w_CLAIM)])) _
      refine st47.trans ?_
      show Steps p.tables e below (T47.setTop (mkF m 35 #[.val (.int x0), .val (.int (3 : Int32)), .val (.ref w_CLAIM), .val (.int (1 : Int32))] [(.int (1 : Int32))])) _
      refine XS.iloadN X47.here hx rfl (hb hby at_35) rfl ?_
      show Steps p.tables e below (T47.setTop (mkF m 36 #[.val (.int x0), .val (.int (3 : Int32)), .val (.ref w_CLAIM), .val (.int (1 : Int32))] [(.int (1 : Int32)), (.int (1 : Int32))])) _
      refine XS.icmpNo X47.here hx rfl (hb hby at_36) rfl (teq ((by decide) : (1 : Int32) = (1 : Int32))).2 ?_
      show Steps p.tables e below (T47.setTop (mkF m 39 #[.val (.int x0), .val (.int (3 : Int32)), .val (.ref w_CLAIM), .val (.int (1 : Int32))] [])) _
      refine XS.iconst X47.here hx rfl (hb hby at_39) ?_
      show Steps p.tables e below (T47.setTop (mkF m 40 #[.val (.int x0), .val (.int (3 : Int32)), .val (.ref w_CLAIM), .val (.int (1 : Int32))] [(.int (1 : Int32))])) _
      refine XS.goto X47.here hx rfl (pc0 := 40) (pc' := 44) rfl (hb hby at_40) (by decide) (by decide) ?_
      exact kk)
    obtain ⟨fs, hr, hrun, hended, hW, hsame⟩ := X47.leave (v := some (.int (1 : Int32))) (fun h => by rw [Bd.returns] at h; cases h)
    refine ⟨_, _, pre48 _ ?_, hrun, hended, _, _, rfl, ?_, ⟨_, rfl⟩, hW, hsame.mono (by decide) (by decide)⟩
    · exact retN X47 hx (t := .boolean) Bd.returns (by simp) (hb hby at_44) hr
    · exact ⟨rfl, N47⟩
  ·
    have pre49 := pre31
    rw [hv32] at pre49
    obtain ⟨_, _, ⟨T50, L50, k50, n50⟩, -, X50, ⟨Lc50, hQ50, l50, y50, z50⟩, st50⟩ := Jvm.LawKit.callS X0 hx (y := (⟨"com/example/ballotwire/ballotwire/protocol/KindClaimsPinLaw", "kindOf", "(I)Lcom/example/ballotwire/ballotwire/protocol/Message$Kind;"⟩ : MethodName)) hown (mvT hZ (hw _ (List.mem_of_getElem? (i := 0) rfl))) (mvT hZ (hw _ (List.mem_of_getElem? (i := 1) rfl))) (mvT hZ (hw _ (List.mem_of_getElem? (i := 2) rfl))) (mvT hZ (hw _ (List.mem_of_getElem? (i := 3) rfl))) (by decide) (backOf (W := 0) (rm9 l Z a0 hw [] w_ACK h0 n0 Z0 S_w_ACK) hZ (hw _ (List.mem_of_getElem? (i := 3) rfl)) (hw _ (List.mem_of_getElem? (i := 2) rfl)) (by decide) (by decide)) (g := (mkF m 6 #[.val (.int x0), .val (.int (4 : Int32)), .unset, .unset] [(.int (4 : Int32))])) rfl (by rw [hml]; rfl) (argsL := [(.int (4 : Int32))]) (rest := []) (lenOf pd_0 rfl) rfl (by show 2 * 0 + _ ≤ _; exact Nat.le_of_eq rfl) (hb hby at_6) (fun _ _ => ⟨rfl, e0, (by decide : 0 + 0 ≤ _), (by decide : 0 + 0 ≤ _)⟩)
    dsimp only [Pt.U, Pt.locs, Pt.cells, Pt.slots] at X50 l50 y50 z50 st50 hQ50
    subst l50 y50 z50
    obtain ⟨rfl, N50q, e50⟩ := hQ50
    have N50 := Fr.app N0 N50q
    obtain ⟨cq51, kq51, q51a, q51b, q51c⟩ := isOf hZ e50 E_w_ACK
    obtain ⟨_, _, ⟨T51, L51, k51, n51⟩, -, X51, ⟨Lc51, hQ51, l51, y51, z51⟩, st51⟩ := X50.virtualBack hx (y := (⟨"com/example/ballotwire/ballotwire/protocol/Message$Kind", "claims", "()Z"⟩ : MethodName)) (z := (⟨"com/example/ballotwire/ballotwire/protocol/Message$Kind", "claims", "()Z"⟩ : MethodName)) hown (mvT hZ (hw _ (List.mem_of_getElem? (i := 7) rfl))) (mvT hZ (hw _ (List.mem_of_getElem? (i := 8) rfl))) (notFace_of_selects (args := #[]) (mvT hZ (hw _ (List.mem_of_getElem? (i := 10) rfl)))) (mvT hZ (hw _ (List.mem_of_getElem? (i := 10) rfl))) (mvT hZ (hw _ (List.mem_of_getElem? (i := 9) rfl))) (by decide) (backOf (W := 0) (rm2 l Z a0 hw [] w_ACK w_COORDINATOR w_HEARTBEAT w_CLAIM h0 n0 Z0 S_w_COORDINATOR ((Fld.ne F_ordinal_w_ACK F_ordinal_w_COORDINATOR (by decide))) S_w_HEARTBEAT ((Fld.ne F_ordinal_w_ACK F_ordinal_w_HEARTBEAT (by decide))) S_w_CLAIM ((Fld.ne F_ordinal_w_ACK F_ordinal_w_CLAIM (by decide)))) hZ (hw _ (List.mem_of_getElem? (i := 11) rfl)) (hw _ (List.mem_of_getElem? (i := 5) rfl)) (by decide) (by decide)) q51a q51c (g := (mkF m 32 #[.val (.int x0), .val (.int (4 : Int32)), .val (.ref w_ACK), .val (.int (0 : Int32))] [(.ref w_ACK)])) rfl (by rw [hml]; rfl) (Steps.refl _) (argsL := []) (rest := []) (lenOf pd_1 rfl) rfl (by show 2 * 0 + _ ≤ _; exact Nat.le_of_eq rfl) (hb hby at_32) (fun _ _ => ⟨rfl, e50, (by decide : 0 + 0 ≤ _), (by decide : 0 + 0 ≤ _)⟩)
    dsimp only [Pt.U, Pt.locs, Pt.cells, Pt.slots] at X51 l51 y51 z51 st51 hQ51
    subst l51 y51 z51
    obtain ⟨rfl, N51q, e51⟩ := hQ51
    have N51 := Fr.app N50 N51q
    have pre52 : ∀ t, Steps p.tables e below (T51.setTop (mkF m 44 #[.val (.int x0), .val (.int (4 : Int32)), .val (.ref w_ACK), .val (.int (0 : Int32))] [(.int (1 : Int32))])) t → Steps p.tables e below (s₁.setTop (entryFrame m #[(.int x0)] maxLocals)) t := fun t kk => pre49 t (by
      show Steps p.tables e below (s₁.setTop (mkF m 4 #[.val (.int x0), .unset, .unset, .unset] [(.int (4 : Int32))])) _
      refine XS.istoreN X0.here hx rfl (hb hby at_4) rfl (l' := #[.val (.int x0), .val (.int (4 : Int32)), .unset, .unset]) rfl ?_
      show Steps p.tables e below (s₁.setTop (mkF m 5 #[.val (.int x0), .val (.int (4 : Int32)), .unset, .unset] [])) _
      refine XS.iloadN X0.here hx rfl (hb hby at_5) rfl ?_
      show Steps p.tables e below (s₁.setTop (mkF m 6 #[.val (.int x0), .val (.int (4 : Int32)), .unset, .unset] [(.int (4 : Int32))])) _
      refine st50 _ ?_
      show Steps p.tables e below (T50.setTop (mkF m 9 #[.val (.int x0), .val (.int (4 : Int32)), .unset, .unset] [(.ref w_ACK)])) _
      refine XS.astoreN X50.here hx rfl (hb hby at_9) rfl rfl (l' := #[.val (.int x0), .val (.int (4 : Int32)), .val (.ref w_ACK), .unset]) rfl ?_
      show Steps p.tables e below (T50.setTop (mkF m 10 #[.val (.int x0), .val (.int (4 : Int32)), .val (.ref w_ACK), .unset] [])) _
      refine XS.iloadN X50.here hx rfl (hb hby at_10) rfl ?_
      show Steps p.tables e below (T50.setTop (mkF m 11 #[.val (.int x0), .val (.int (4 : Int32)), .val (.ref w_ACK), .unset] [(.int (4 : Int32))])) _
      refine XS.iconst X50.here hx rfl (hb hby at_11) ?_
      show Steps p.tables e below (T50.setTop (mkF m 12 #[.val (.int x0), .val (.int (4 : Int32)), .val (.ref w_ACK), .unset] [(.int (1 : Int32)), (.int (4 : Int32))])) _
      refine XS.icmpNo X50.here hx rfl (hb hby at_12) rfl (feq ((by decide) : ¬ ((4 : Int32) = (1 : Int32)))).1 ?_
      show Steps p.tables e below (T50.setTop (mkF m 15 #[.val (.int x0), .val (.int (4 : Int32)), .val (.ref w_ACK), .unset] [])) _
      refine XS.iloadN X50.here hx rfl (hb hby at_15) rfl ?_
      show Steps p.tables e below (T50.setTop (mkF m 16 #[.val (.int x0), .val (.int (4 : Int32)), .val (.ref w_ACK), .unset] [(.int (4 : Int32))])) _
      refine XS.iconst X50.here hx rfl (hb hby at_16) ?_
      show Steps p.tables e below (T50.setTop (mkF m 17 #[.val (.int x0), .val (.int (4 : Int32)), .val (.ref w_ACK), .unset] [(.int (2 : Int32)), (.int (4 : Int32))])) _
      refine XS.icmpNo X50.here hx rfl (hb hby at_17) rfl (feq ((by decide) : ¬ ((4 : Int32) = (2 : Int32)))).1 ?_
      show Steps p.tables e below (T50.setTop (mkF m 20 #[.val (.int x0), .val (.int (4 : Int32)), .val (.ref w_ACK), .unset] [])) _
      refine XS.iloadN X50.here hx rfl (hb hby at_20) rfl ?_
      show Steps p.tables e below (T50.setTop (mkF m 21 #[.val (.int x0), .val (.int (4 : Int32)), .val (.ref w_ACK), .unset] [(.int (4 : Int32))])) _
      refine XS.iconst X50.here hx rfl (hb hby at_21) ?_
      show Steps p.tables e below (T50.setTop (mkF m 22 #[.val (.int x0), .val (.int (4 : Int32)), .val (.ref w_ACK), .unset] [(.int (3 : Int32)), (.int (4 : Int32))])) _
      refine XS.icmpYes X50.here hx rfl (pc0 := 22) (pc' := 29) rfl (hb hby at_22) rfl (feq ((by decide) : ¬ ((4 : Int32) = (3 : Int32)))).2 (by decide) (by decide) ?_
      show Steps p.tables e below (T50.setTop (mkF m 29 #[.val (.int x0), .val (.int (4 : Int32)), .val (.ref w_ACK), .unset] [])) _
      refine XS.iconst X50.here hx rfl (hb hby at_29) ?_
      show Steps p.tables e below (T50.setTop (mkF m 30 #[.val (.int x0), .val (.int (4 : Int32)), .val (.ref w_ACK), .unset] [(.int (0 : Int32))])) _
      refine XS.istoreN X50.here hx rfl (hb hby at_30) rfl (l' := #[.val (.int x0), .val (.int (4 : Int32)), .val (.ref w_ACK), .val (.int (0 : Int32))]) rfl ?_
      show Steps p.tables e below (T50.setTop (mkF m 31 #[.val (.int x0), .val (.int (4 : Int32)), .val (.ref w_ACK), .val (.int (0 : Int32))] [])) _
      refine XS.aloadN X50.here hx rfl (hb hby at_31) rfl rfl ?_
      show Steps p.tables e below (T50.setTop (mkF m 32 #[.val (.int x0), .val (.int (4 : Int32)), .val (.ref w_ACK), .val (.int (0 : Int32))] [(.ref w_ACK)])) _
      refine st51.trans ?_
      show Steps p.tables e below (T51.setTop (mkF m 35 #[.val (.int x0), .val (.int (4 : Int32)), .val (.ref w_ACK), .val (.int (0 : Int32))] [(.int (0 : Int32))])) _
      refine XS.iloadN X51.here hx rfl (hb hby at_35) rfl ?_
      show Steps p.tables e below (T51.setTop (mkF m 36 #[.val (.int x0), .val (.int (4 : Int32)), .val (.ref w_ACK), .val (.int (0 : Int32))] [(.int (0 : Int32)), (.int (0 : Int32))])) _
      refine XS.icmpNo X51.here hx rfl (hb hby at_36) rfl (teq ((by decide) : (0 : Int32) = (0 : Int32))).2 ?_
      show Steps p.tables e below (T51.setTop (mkF m 39 #[.val (.int x0), .val (.int (4 : Int32)), .val (.ref w_ACK), .val (.int (0 : Int32))] [])) _
      refine XS.iconst X51.here hx rfl (hb hby at_39) ?_
      show Steps p.tables e below (T51.setTop (mkF m 40 #[.val (.int x0), .val (.int (4 : Int32)), .val (.ref w_ACK), .val (.int (0 : Int32))] [(.int (1 : Int32))])) _
      refine XS.goto X51.here hx rfl (pc0 := 40) (pc' := 44) rfl (hb hby at_40) (by decide) (by decide) ?_
      exact kk)
    obtain ⟨fs, hr, hrun, hended, hW, hsame⟩ := X51.leave (v := some (.int (1 : Int32))) (fun h => by rw [Bd.returns] at h; cases h)
    refine ⟨_, _, pre52 _ ?_, hrun, hended, _, _, rfl, ?_, ⟨_, rfl⟩, hW, hsame.mono (by decide) (by decide)⟩
    · exact retN X51 hx (t := .boolean) Bd.returns (by simp) (hb hby at_44) hr
    · exact ⟨rfl, N51⟩
  ·
    have pre53 := pre31
    rw [hv32] at pre53
    obtain ⟨_, _, ⟨T54, L54, k54, n54⟩, -, X54, ⟨Lc54, hQ54, l54, y54, z54⟩, st54⟩ := Jvm.LawKit.callS X0 hx (y := (⟨"com/example/ballotwire/ballotwire/protocol/KindClaimsPinLaw", "kindOf", "(I)Lcom/example/ballotwire/ballotwire/protocol/Message$Kind;"⟩ : MethodName)) hown (mvT hZ (hw _ (List.mem_of_getElem? (i := 0) rfl))) (mvT hZ (hw _ (List.mem_of_getElem? (i := 1) rfl))) (mvT hZ (hw _ (List.mem_of_getElem? (i := 2) rfl))) (mvT hZ (hw _ (List.mem_of_getElem? (i := 3) rfl))) (by decide) (backOf (W := 0) (rm10 l Z a0 hw [] w_HELLO h0 n0 Z0 S_w_HELLO) hZ (hw _ (List.mem_of_getElem? (i := 3) rfl)) (hw _ (List.mem_of_getElem? (i := 2) rfl)) (by decide) (by decide)) (g := (mkF m 6 #[.val (.int x0), .val (.int (5 : Int32)), .unset, .unset] [(.int (5 : Int32))])) rfl (by rw [hml]; rfl) (argsL := [(.int (5 : Int32))]) (rest := []) (lenOf pd_0 rfl) rfl (by show 2 * 0 + _ ≤ _; exact Nat.le_of_eq rfl) (hb hby at_6) (fun _ _ => ⟨rfl, e0, (by decide : 0 + 0 ≤ _), (by decide : 0 + 0 ≤ _)⟩)
    dsimp only [Pt.U, Pt.locs, Pt.cells, Pt.slots] at X54 l54 y54 z54 st54 hQ54
    subst l54 y54 z54
    obtain ⟨rfl, N54q, e54⟩ := hQ54
    have N54 := Fr.app N0 N54q
    obtain ⟨cq55, kq55, q55a, q55b, q55c⟩ := isOf hZ e54 E_w_HELLO
    obtain ⟨_, _, ⟨T55, L55, k55, n55⟩, -, X55, ⟨Lc55, hQ55, l55, y55, z55⟩, st55⟩ := X54.virtualBack hx (y := (⟨"com/example/ballotwire/ballotwire/protocol/Message$Kind", "claims", "()Z"⟩ : MethodName)) (z := (⟨"com/example/ballotwire/ballotwire/protocol/Message$Kind", "claims", "()Z"⟩ : MethodName)) hown (mvT hZ (hw _ (List.mem_of_getElem? (i := 7) rfl))) (mvT hZ (hw _ (List.mem_of_getElem? (i := 8) rfl))) (notFace_of_selects (args := #[]) (mvT hZ (hw _ (List.mem_of_getElem? (i := 10) rfl)))) (mvT hZ (hw _ (List.mem_of_getElem? (i := 10) rfl))) (mvT hZ (hw _ (List.mem_of_getElem? (i := 9) rfl))) (by decide) (backOf (W := 0) (rm2 l Z a0 hw [] w_HELLO w_COORDINATOR w_HEARTBEAT w_CLAIM h0 n0 Z0 S_w_COORDINATOR ((Fld.ne F_ordinal_w_HELLO F_ordinal_w_COORDINATOR (by decide))) S_w_HEARTBEAT ((Fld.ne F_ordinal_w_HELLO F_ordinal_w_HEARTBEAT (by decide))) S_w_CLAIM ((Fld.ne F_ordinal_w_HELLO F_ordinal_w_CLAIM (by decide)))) hZ (hw _ (List.mem_of_getElem? (i := 11) rfl)) (hw _ (List.mem_of_getElem? (i := 5) rfl)) (by decide) (by decide)) q55a q55c (g := (mkF m 32 #[.val (.int x0), .val (.int (5 : Int32)), .val (.ref w_HELLO), .val (.int (0 : Int32))] [(.ref w_HELLO)])) rfl (by rw [hml]; rfl) (Steps.refl _) (argsL := []) (rest := []) (lenOf pd_1 rfl) rfl (by show 2 * 0 + _ ≤ _; exact Nat.le_of_eq rfl) (hb hby at_32) (fun _ _ => ⟨rfl, e54, (by decide : 0 + 0 ≤ _), (by decide : 0 + 0 ≤ _)⟩)
    dsimp only [Pt.U, Pt.locs, Pt.cells, Pt.slots] at X55 l55 y55 z55 st55 hQ55
    subst l55 y55 z55
    obtain ⟨rfl, N55q, e55⟩ := hQ55
    have N55 := Fr.app N54 N55q
    have pre56 : ∀ t, Steps p.tables e below (T55.setTop (mkF m 44 #[.val (.int x0), .val (.int (5 : Int32)), .val (.ref w_HELLO), .val (.int (0 : Int32))] [(.int (1 : Int32))])) t → Steps p.tables e below (s₁.setTop (entryFrame m #[(.int x0)] maxLocals)) t := fun t kk => pre53 t (by
      show Steps p.tables e below (s₁.setTop (mkF m 4 #[.val (.int x0), .unset, .unset, .unset] [(.int (5 : Int32))])) _
      refine XS.istoreN X0.here hx rfl (hb hby at_4) rfl (l' := #[.val (.int x0), .val (.int (5 : Int32)), .unset, .unset]) rfl ?_
      show Steps p.tables e below (s₁.setTop (mkF m 5 #[.val (.int x0), .val (.int (5 : Int32)), .unset, .unset] [])) _
      refine XS.iloadN X0.here hx rfl (hb hby at_5) rfl ?_
      show Steps p.tables e below (s₁.setTop (mkF m 6 #[.val (.int x0), .val (.int (5 : Int32)), .unset, .unset] [(.int (5 : Int32))])) _
      refine st54 _ ?_
      show Steps p.tables e below (T54.setTop (mkF m 9 #[.val (.int x0), .val (.int (5 : Int32)), .unset, .unset] [(.ref w_HELLO)])) _
      refine XS.astoreN X54.here hx rfl (hb hby at_9) rfl rfl (l' := #[.val (.int x0), .val (.int (5 : Int32)), .val (.ref w_HELLO), .unset]) rfl ?_
      show Steps p.tables e below (T54.setTop (mkF m 10 #[.val (.int x0), .val (.int (5 : Int32)), .val (.ref w_HELLO), .unset] [])) _
      refine XS.iloadN X54.here hx rfl (hb hby at_10) rfl ?_
      show Steps p.tables e below (T54.setTop (mkF m 11 #[.val (.int x0), .val (.int (5 : Int32)), .val (.ref w_HELLO), .unset] [(.int (5 : Int32))])) _
      refine XS.iconst X54.here hx rfl (hb hby at_11) ?_
      show Steps p.tables e below (T54.setTop (mkF m 12 #[.val (.int x0), .val (.int (5 : Int32)), .val (.ref w_HELLO), .unset] [(.int (1 : Int32)), (.int (5 : Int32))])) _
      refine XS.icmpNo X54.here hx rfl (hb hby at_12) rfl (feq ((by decide) : ¬ ((5 : Int32) = (1 : Int32)))).1 ?_
      show Steps p.tables e below (T54.setTop (mkF m 15 #[.val (.int x0), .val (.int (5 : Int32)), .val (.ref w_HELLO), .unset] [])) _
      refine XS.iloadN X54.here hx rfl (hb hby at_15) rfl ?_
      show Steps p.tables e below (T54.setTop (mkF m 16 #[.val (.int x0), .val (.int (5 : Int32)), .val (.ref w_HELLO), .unset] [(.int (5 : Int32))])) _
      refine XS.iconst X54.here hx rfl (hb hby at_16) ?_
      show Steps p.tables e below (T54.setTop (mkF m 17 #[.val (.int x0), .val (.int (5 : Int32)), .val (.ref w_HELLO), .unset] [(.int (2 : Int32)), (.int (5 : Int32))])) _
      refine XS.icmpNo X54.here hx rfl (hb hby at_17) rfl (feq ((by decide) : ¬ ((5 : Int32) = (2 : Int32)))).1 ?_
      show Steps p.tables e below (T54.setTop (mkF m 20 #[.val (.int x0), .val (.int (5 : Int32)), .val (.ref w_HELLO), .unset] [])) _
      refine XS.iloadN X54.here hx rfl (hb hby at_20) rfl ?_
      show Steps p.tables e below (T54.setTop (mkF m 21 #[.val (.int x0), .val (.int (5 : Int32)), .val (.ref w_HELLO), .unset] [(.int (5 : Int32))])) _
      refine XS.iconst X54.here hx rfl (hb hby at_21) ?_
      show Steps p.tables e below (T54.setTop (mkF m 22 #[.val (.int x0), .val (.int (5 : Int32)), .val (.ref w_HELLO), .unset] [(.int (3 : Int32)), (.int (5 : Int32))])) _
      refine XS.icmpYes X54.here hx rfl (pc0 := 22) (pc' := 29) rfl (hb hby at_22) rfl (feq ((by decide) : ¬ ((5 : Int32) = (3 : Int32)))).2 (by decide) (by decide) ?_
      show Steps p.tables e below (T54.setTop (mkF m 29 #[.val (.int x0), .val (.int (5 : Int32)), .val (.ref w_HELLO), .unset] [])) _
      refine XS.iconst X54.here hx rfl (hb hby at_29) ?_
      show Steps p.tables e below (T54.setTop (mkF m 30 #[.val (.int x0), .val (.int (5 : Int32)), .val (.ref w_HELLO), .unset] [(.int (0 : Int32))])) _
      refine XS.istoreN X54.here hx rfl (hb hby at_30) rfl (l' := #[.val (.int x0), .val (.int (5 : Int32)), .val (.ref w_HELLO), .val (.int (0 : Int32))]) rfl ?_
      show Steps p.tables e below (T54.setTop (mkF m 31 #[.val (.int x0), .val (.int (5 : Int32)), .val (.ref w_HELLO), .val (.int (0 : Int32))] [])) _
      refine XS.aloadN X54.here hx rfl (hb hby at_31) rfl rfl ?_
      show Steps p.tables e below (T54.setTop (mkF m 32 #[.val (.int x0), .val (.int (5 : Int32)), .val (.ref w_HELLO), .val (.int (0 : Int32))] [(.ref w_HELLO)])) _
      refine st55.trans ?_
      show Steps p.tables e below (T55.setTop (mkF m 35 #[.val (.int x0), .val (.int (5 : Int32)), .val (.ref w_HELLO), .val (.int (0 : Int32))] [(.int (0 : Int32))])) _
      refine XS.iloadN X55.here hx rfl (hb hby at_35) rfl ?_
      show Steps p.tables e below (T55.setTop (mkF m 36 #[.val (.int x0), .val (.int (5 : Int32)), .val (.ref w_HELLO), .val (.int (0 : Int32))] [(.int (0 : Int32)), (.int (0 : Int32))])) _
      refine XS.icmpNo X55.here hx rfl (hb hby at_36) rfl (teq ((by decide) : (0 : Int32) = (0 : Int32))).2 ?_
      show Steps p.tables e below (T55.setTop (mkF m 39 #[.val (.int x0), .val (.int (5 : Int32)), .val (.ref w_HELLO), .val (.int (0 : Int32))] [])) _
      refine XS.iconst X55.here hx rfl (hb hby at_39) ?_
      show Steps p.tables e below (T55.setTop (mkF m 40 #[.val (.int x0), .val (.int (5 : Int32)), .val (.ref w_HELLO), .val (.int (0 : Int32))] [(.int (1 : Int32))])) _
      refine XS.goto X55.here hx rfl (pc0 := 40) (pc' := 44) rfl (hb hby at_40) (by decide) (by decide) ?_
      exact kk)
    obtain ⟨fs, hr, hrun, hended, hW, hsame⟩ := X55.leave (v := some (.int (1 : Int32))) (fun h => by rw [Bd.returns] at h; cases h)
    refine ⟨_, _, pre56 _ ?_, hrun, hended, _, _, rfl, ?_, ⟨_, rfl⟩, hW, hsame.mono (by decide) (by decide)⟩
    · exact retN X55 hx (t := .boolean) Bd.returns (by simp) (hb hby at_44) hr
    · exact ⟨rfl, N55⟩
  ·
    have pre57 := pre31
    rw [hv32] at pre57
    obtain ⟨_, _, ⟨T58, L58, k58, n58⟩, -, X58, ⟨Lc58, hQ58, l58, y58, z58⟩, st58⟩ := Jvm.LawKit.callS X0 hx (y := (⟨"com/example/ballotwire/ballotwire/protocol/KindClaimsPinLaw", "kindOf", "(I)Lcom/example/ballotwire/ballotwire/protocol/Message$Kind;"⟩ : MethodName)) hown (mvT hZ (hw _ (List.mem_of_getElem? (i := 0) rfl))) (mvT hZ (hw _ (List.mem_of_getElem? (i := 1) rfl))) (mvT hZ (hw _ (List.mem_of_getElem? (i := 2) rfl))) (mvT hZ (hw _ (List.mem_of_getElem? (i := 3) rfl))) (by decide) (backOf (W := 0) (rm11 l Z a0 hw [] w_TERM h0 n0 Z0 S_w_TERM) hZ (hw _ (List.mem_of_getElem? (i := 3) rfl)) (hw _ (List.mem_of_getElem? (i := 2) rfl)) (by decide) (by decide)) (g := (mkF m 6 #[.val (.int x0), .val (.int (6 : Int32)), .unset, .unset] [(.int (6 : Int32))])) rfl (by rw [hml]; rfl) (argsL := [(.int (6 : Int32))]) (rest := []) (lenOf pd_0 rfl) rfl (by show 2 * 0 + _ ≤ _; exact Nat.le_of_eq rfl) (hb hby at_6) (fun _ _ => ⟨rfl, e0, (by decide : 0 + 0 ≤ _), (by decide : 0 + 0 ≤ _)⟩)
    dsimp only [Pt.U, Pt.locs, Pt.cells, Pt.slots] at X58 l58 y58 z58 st58 hQ58
    subst l58 y58 z58
    obtain ⟨rfl, N58q, e58⟩ := hQ58
    have N58 := Fr.app N0 N58q
    obtain ⟨cq59, kq59, q59a, q59b, q59c⟩ := isOf hZ e58 E_w_TERM
    obtain ⟨_, _, ⟨T59, L59, k59, n59⟩, -, X59, ⟨Lc59, hQ59, l59, y59, z59⟩, st59⟩ := X58.virtualBack hx (y := (⟨"com/example/ballotwire/ballotwire/protocol/Message$Kind", "claims", "()Z"⟩ : MethodName)) (z := (⟨"com/example/ballotwire/ballotwire/protocol/Message$Kind", "claims", "()Z"⟩ : MethodName)) hown (mvT hZ (hw _ (List.mem_of_getElem? (i := 7) rfl))) (mvT hZ (hw _ (List.mem_of_getElem? (i := 8) rfl))) (notFace_of_selects (args := #[]) (mvT hZ (hw _ (List.mem_of_getElem? (i := 10) rfl)))) (mvT hZ (hw _ (List.mem_of_getElem? (i := 10) rfl))) (mvT hZ (hw _ (List.mem_of_getElem? (i := 9) rfl))) (by decide) (backOf (W := 0) (rm2 l Z a0 hw [] w_TERM w_COORDINATOR w_HEARTBEAT w_CLAIM h0 n0 Z0 S_w_COORDINATOR ((Fld.ne F_ordinal_w_TERM F_ordinal_w_COORDINATOR (by decide))) S_w_HEARTBEAT ((Fld.ne F_ordinal_w_TERM F_ordinal_w_HEARTBEAT (by decide))) S_w_CLAIM ((Fld.ne F_ordinal_w_TERM F_ordinal_w_CLAIM (by decide)))) hZ (hw _ (List.mem_of_getElem? (i := 11) rfl)) (hw _ (List.mem_of_getElem? (i := 5) rfl)) (by decide) (by decide)) q59a q59c (g := (mkF m 32 #[.val (.int x0), .val (.int (6 : Int32)), .val (.ref w_TERM), .val (.int (0 : Int32))] [(.ref w_TERM)])) rfl (by rw [hml]; rfl) (Steps.refl _) (argsL := []) (rest := []) (lenOf pd_1 rfl) rfl (by show 2 * 0 + _ ≤ _; exact Nat.le_of_eq rfl) (hb hby at_32) (fun _ _ => ⟨rfl, e58, (by decide : 0 + 0 ≤ _), (by decide : 0 + 0 ≤ _)⟩)
    dsimp only [Pt.U, Pt.locs, Pt.cells, Pt.slots] at X59 l59 y59 z59 st59 hQ59
    subst l59 y59 z59
    obtain ⟨rfl, N59q, e59⟩ := hQ59
    have N59 := Fr.app N58 N59q
    have pre60 : ∀ t, Steps p.tables e below (T59.setTop (mkF m 44 #[.val (.int x0), .val (.int (6 : Int32)), .val (.ref w_TERM), .val (.int (0 : Int32))] [(.int (1 : Int32))])) t → Steps p.tables e below (s₁.setTop (entryFrame m #[(.int x0)] maxLocals)) t := fun t kk => pre57 t (by
      show Steps p.tables e below (s₁.setTop (mkF m 4 #[.val (.int x0), .unset, .unset, .unset] [(.int (6 : Int32))])) _
      refine XS.istoreN X0.here hx rfl (hb hby at_4) rfl (l' := #[.val (.int x0), .val (.int (6 : Int32)), .unset, .unset]) rfl ?_
      show Steps p.tables e below (s₁.setTop (mkF m 5 #[.val (.int x0), .val (.int (6 : Int32)), .unset, .unset] [])) _
      refine XS.iloadN X0.here hx rfl (hb hby at_5) rfl ?_
      show Steps p.tables e below (s₁.setTop (mkF m 6 #[.val (.int x0), .val (.int (6 : Int32)), .unset, .unset] [(.int (6 : Int32))])) _
      refine st58 _ ?_
      show Steps p.tables e below (T58.setTop (mkF m 9 #[.val (.int x0), .val (.int (6 : Int32)), .unset, .unset] [(.ref w_TERM)])) _
      refine XS.astoreN X58.here hx rfl (hb hby at_9) rfl rfl (l' := #[.val (.int x0), .val (.int (6 : Int32)), .val (.ref w_TERM), .unset]) rfl ?_
      show Steps p.tables e below (T58.setTop (mkF m 10 #[.val (.int x0), .val (.int (6 : Int32)), .val (.ref w_TERM), .unset] [])) _
      refine XS.iloadN X58.here hx rfl (hb hby at_10) rfl ?_
      show Steps p.tables e below (T58.setTop (mkF m 11 #[.val (.int x0), .val (.int (6 : Int32)), .val (.ref w_TERM), .unset] [(.int (6 : Int32))])) _
      refine XS.iconst X58.here hx rfl (hb hby at_11) ?_
      show Steps p.tables e below (T58.setTop (mkF m 12 #[.val (.int x0), .val (.int (6 : Int32)), .val (.ref w_TERM), .unset] [(.int (1 : Int32)), (.int (6 : Int32))])) _
      refine XS.icmpNo X58.here hx rfl (hb hby at_12) rfl (feq ((by decide) : ¬ ((6 : Int32) = (1 : Int32)))).1 ?_
      show Steps p.tables e below (T58.setTop (mkF m 15 #[.val (.int x0), .val (.int (6 : Int32)), .val (.ref w_TERM), .unset] [])) _
      refine XS.iloadN X58.here hx rfl (hb hby at_15) rfl ?_
      show Steps p.tables e below (T58.setTop (mkF m 16 #[.val (.int x0), .val (.int (6 : Int32)), .val (.ref w_TERM), .unset] [(.int (6 : Int32))])) _
      refine XS.iconst X58.here hx rfl (hb hby at_16) ?_
      show Steps p.tables e below (T58.setTop (mkF m 17 #[.val (.int x0), .val (.int (6 : Int32)), .val (.ref w_TERM), .unset] [(.int (2 : Int32)), (.int (6 : Int32))])) _
      refine XS.icmpNo X58.here hx rfl (hb hby at_17) rfl (feq ((by decide) : ¬ ((6 : Int32) = (2 : Int32)))).1 ?_
      show Steps p.tables e below (T58.setTop (mkF m 20 #[.val (.int x0), .val (.int (6 : Int32)), .val (.ref w_TERM), .unset] [])) _
      refine XS.iloadN X58.here hx rfl (hb hby at_20) rfl ?_
      show Steps p.tables e below (T58.setTop (mkF m 21 #[.val (.int x0), .val (.int (6 : Int32)), .val (.ref w_TERM), .unset] [(.int (6 : Int32))])) _
      refine XS.iconst X58.here hx rfl (hb hby at_21) ?_
      show Steps p.tables e below (T58.setTop (mkF m 22 #[.val (.int x0), .val (.int (6 : Int32)), .val (.ref w_TERM), .unset] [(.int (3 : Int32)), (.int (6 : Int32))])) _
      refine XS.icmpYes X58.here hx rfl (pc0 := 22) (pc' := 29) rfl (hb hby at_22) rfl (feq ((by decide) : ¬ ((6 : Int32) = (3 : Int32)))).2 (by decide) (by decide) ?_
      show Steps p.tables e below (T58.setTop (mkF m 29 #[.val (.int x0), .val (.int (6 : Int32)), .val (.ref w_TERM), .unset] [])) _
      refine XS.iconst X58.here hx rfl (hb hby at_29) ?_
      show Steps p.tables e below (T58.setTop (mkF m 30 #[.val (.int x0), .val (.int (6 : Int32)), .val (.ref w_TERM), .unset] [(.int (0 : Int32))])) _
      refine XS.istoreN X58.here hx rfl (hb hby at_30) rfl (l' := #[.val (.int x0), .val (.int (6 : Int32)), .val (.ref w_TERM), .val (.int (0 : Int32))]) rfl ?_
      show Steps p.tables e below (T58.setTop (mkF m 31 #[.val (.int x0), .val (.int (6 : Int32)), .val (.ref w_TERM), .val (.int (0 : Int32))] [])) _
      refine XS.aloadN X58.here hx rfl (hb hby at_31) rfl rfl ?_
      show Steps p.tables e below (T58.setTop (mkF m 32 #[.val (.int x0), .val (.int (6 : Int32)), .val (.ref w_TERM), .val (.int (0 : Int32))] [(.ref w_TERM)])) _
      refine st59.trans ?_
      show Steps p.tables e below (T59.setTop (mkF m 35 #[.val (.int x0), .val (.int (6 : Int32)), .val (.ref w_TERM), .val (.int (0 : Int32))] [(.int (0 : Int32))])) _
      refine XS.iloadN X59.here hx rfl (hb hby at_35) rfl ?_
      show Steps p.tables e below (T59.setTop (mkF m 36 #[.val (.int x0), .val (.int (6 : Int32)), .val (.ref w_TERM), .val (.int (0 : Int32))] [(.int (0 : Int32)), (.int (0 : Int32))])) _
      refine XS.icmpNo X59.here hx rfl (hb hby at_36) rfl (teq ((by decide) : (0 : Int32) = (0 : Int32))).2 ?_
      show Steps p.tables e below (T59.setTop (mkF m 39 #[.val (.int x0), .val (.int (6 : Int32)), .val (.ref w_TERM), .val (.int (0 : Int32))] [])) _
      refine XS.iconst X59.here hx rfl (hb hby at_39) ?_
      show Steps p.tables e below (T59.setTop (mkF m 40 #[.val (.int x0), .val (.int (6 : Int32)), .val (.ref w_TERM), .val (.int (0 : Int32))] [(.int (1 : Int32))])) _
      refine XS.goto X59.here hx rfl (pc0 := 40) (pc' := 44) rfl (hb hby at_40) (by decide) (by decide) ?_
      exact kk)
    obtain ⟨fs, hr, hrun, hended, hW, hsame⟩ := X59.leave (v := some (.int (1 : Int32))) (fun h => by rw [Bd.returns] at h; cases h)
    refine ⟨_, _, pre60 _ ?_, hrun, hended, _, _, rfl, ?_, ⟨_, rfl⟩, hW, hsame.mono (by decide) (by decide)⟩
    · exact retN X59 hx (t := .boolean) Bd.returns (by simp) (hb hby at_44) hr
    · exact ⟨rfl, N59⟩
  ·
    have pre61 := pre31
    rw [hv32] at pre61
    obtain ⟨_, _, ⟨T62, L62, k62, n62⟩, -, X62, ⟨Lc62, hQ62, l62, y62, z62⟩, st62⟩ := Jvm.LawKit.callS X0 hx (y := (⟨"com/example/ballotwire/ballotwire/protocol/KindClaimsPinLaw", "kindOf", "(I)Lcom/example/ballotwire/ballotwire/protocol/Message$Kind;"⟩ : MethodName)) hown (mvT hZ (hw _ (List.mem_of_getElem? (i := 0) rfl))) (mvT hZ (hw _ (List.mem_of_getElem? (i := 1) rfl))) (mvT hZ (hw _ (List.mem_of_getElem? (i := 2) rfl))) (mvT hZ (hw _ (List.mem_of_getElem? (i := 3) rfl))) (by decide) (backOf (W := 0) (rm12 l Z a0 hw [] w_RELEASE h0 n0 Z0 S_w_RELEASE) hZ (hw _ (List.mem_of_getElem? (i := 3) rfl)) (hw _ (List.mem_of_getElem? (i := 2) rfl)) (by decide) (by decide)) (g := (mkF m 6 #[.val (.int x0), .val (.int (7 : Int32)), .unset, .unset] [(.int (7 : Int32))])) rfl (by rw [hml]; rfl) (argsL := [(.int (7 : Int32))]) (rest := []) (lenOf pd_0 rfl) rfl (by show 2 * 0 + _ ≤ _; exact Nat.le_of_eq rfl) (hb hby at_6) (fun _ _ => ⟨rfl, e0, (by decide : 0 + 0 ≤ _), (by decide : 0 + 0 ≤ _)⟩)
    dsimp only [Pt.U, Pt.locs, Pt.cells, Pt.slots] at X62 l62 y62 z62 st62 hQ62
    subst l62 y62 z62
    obtain ⟨rfl, N62q, e62⟩ := hQ62
    have N62 := Fr.app N0 N62q
    obtain ⟨cq63, kq63, q63a, q63b, q63c⟩ := isOf hZ e62 E_w_RELEASE
    obtain ⟨_, _, ⟨T63, L63, k63, n63⟩, -, X63, ⟨Lc63, hQ63, l63, y63, z63⟩, st63⟩ := X62.virtualBack hx (y := (⟨"com/example/ballotwire/ballotwire/protocol/Message$Kind", "claims", "()Z"⟩ : MethodName)) (z := (⟨"com/example/ballotwire/ballotwire/protocol/Message$Kind", "claims", "()Z"⟩ : MethodName)) hown (mvT hZ (hw _ (List.mem_of_getElem? (i := 7) rfl))) (mvT hZ (hw _ (List.mem_of_getElem? (i := 8) rfl))) (notFace_of_selects (args := #[]) (mvT hZ (hw _ (List.mem_of_getElem? (i := 10) rfl)))) (mvT hZ (hw _ (List.mem_of_getElem? (i := 10) rfl))) (mvT hZ (hw _ (List.mem_of_getElem? (i := 9) rfl))) (by decide) (backOf (W := 0) (rm2 l Z a0 hw [] w_RELEASE w_COORDINATOR w_HEARTBEAT w_CLAIM h0 n0 Z0 S_w_COORDINATOR ((Fld.ne F_ordinal_w_RELEASE F_ordinal_w_COORDINATOR (by decide))) S_w_HEARTBEAT ((Fld.ne F_ordinal_w_RELEASE F_ordinal_w_HEARTBEAT (by decide))) S_w_CLAIM ((Fld.ne F_ordinal_w_RELEASE F_ordinal_w_CLAIM (by decide)))) hZ (hw _ (List.mem_of_getElem? (i := 11) rfl)) (hw _ (List.mem_of_getElem? (i := 5) rfl)) (by decide) (by decide)) q63a q63c (g := (mkF m 32 #[.val (.int x0), .val (.int (7 : Int32)), .val (.ref w_RELEASE), .val (.int (0 : Int32))] [(.ref w_RELEASE)])) rfl (by rw [hml]; rfl) (Steps.refl _) (argsL := []) (rest := []) (lenOf pd_1 rfl) rfl (by show 2 * 0 + _ ≤ _; exact Nat.le_of_eq rfl) (hb hby at_32) (fun _ _ => ⟨rfl, e62, (by decide : 0 + 0 ≤ _), (by decide : 0 + 0 ≤ _)⟩)
    dsimp only [Pt.U, Pt.locs, Pt.cells, Pt.slots] at X63 l63 y63 z63 st63 hQ63
    subst l63 y63 z63
    obtain ⟨rfl, N63q, e63⟩ := hQ63
    have N63 := Fr.app N62 N63q
    have pre64 : ∀ t, Steps p.tables e below (T63.setTop (mkF m 44 #[.val (.int x0), .val (.int (7 : Int32)), .val (.ref w_RELEASE), .val (.int (0 : Int32))] [(.int (1 : Int32))])) t → Steps p.tables e below (s₁.setTop (entryFrame m #[(.int x0)] maxLocals)) t := fun t kk => pre61 t (by
      show Steps p.tables e below (s₁.setTop (mkF m 4 #[.val (.int x0), .unset, .unset, .unset] [(.int (7 : Int32))])) _
      refine XS.istoreN X0.here hx rfl (hb hby at_4) rfl (l' := #[.val (.int x0), .val (.int (7 : Int32)), .unset, .unset]) rfl ?_
      show Steps p.tables e below (s₁.setTop (mkF m 5 #[.val (.int x0), .val (.int (7 : Int32)), .unset, .unset] [])) _
      refine XS.iloadN X0.here hx rfl (hb hby at_5) rfl ?_
      show Steps p.tables e below (s₁.setTop (mkF m 6 #[.val (.int x0), .val (.int (7 : Int32)), .unset, .unset] [(.int (7 : Int32))])) _
      refine st62 _ ?_
      show Steps p.tables e below (T62.setTop (mkF m 9 #[.val (.int x0), .val (.int (7 : Int32)), .unset, .unset] [(.ref w_RELEASE)])) _
      refine XS.astoreN X62.here hx rfl (hb hby at_9) rfl rfl (l' := #[.val (.int x0), .val (.int (7 : Int32)), .val (.ref w_RELEASE), .unset]) rfl ?_
      show Steps p.tables e below (T62.setTop (mkF m 10 #[.val (.int x0), .val (.int (7 : Int32)), .val (.ref w_RELEASE), .unset] [])) _
      refine XS.iloadN X62.here hx rfl (hb hby at_10) rfl ?_
      show Steps p.tables e below (T62.setTop (mkF m 11 #[.val (.int x0), .val (.int (7 : Int32)), .val (.ref w_RELEASE), .unset] [(.int (7 : Int32))])) _
      refine XS.iconst X62.here hx rfl (hb hby at_11) ?_
      show Steps p.tables e below (T62.setTop (mkF m 12 #[.val (.int x0), .val (.int (7 : Int32)), .val (.ref w_RELEASE), .unset] [(.int (1 : Int32)), (.int (7 : Int32))])) _
      refine XS.icmpNo X62.here hx rfl (hb hby at_12) rfl (feq ((by decide) : ¬ ((7 : Int32) = (1 : Int32)))).1 ?_
      show Steps p.tables e below (T62.setTop (mkF m 15 #[.val (.int x0), .val (.int (7 : Int32)), .val (.ref w_RELEASE), .unset] [])) _
      refine XS.iloadN X62.here hx rfl (hb hby at_15) rfl ?_
      show Steps p.tables e below (T62.setTop (mkF m 16 #[.val (.int x0), .val (.int (7 : Int32)), .val (.ref w_RELEASE), .unset] [(.int (7 : Int32))])) _
      refine XS.iconst X62.here hx rfl (hb hby at_16) ?_
      show Steps p.tables e below (T62.setTop (mkF m 17 #[.val (.int x0), .val (.int (7 : Int32)), .val (.ref w_RELEASE), .unset] [(.int (2 : Int32)), (.int (7 : Int32))])) _
      refine XS.icmpNo X62.here hx rfl (hb hby at_17) rfl (feq ((by decide) : ¬ ((7 : Int32) = (2 : Int32)))).1 ?_
      show Steps p.tables e below (T62.setTop (mkF m 20 #[.val (.int x0), .val (.int (7 : Int32)), .val (.ref w_RELEASE), .unset] [])) _
      refine XS.iloadN X62.here hx rfl (hb hby at_20) rfl ?_
      show Steps p.tables e below (T62.setTop (mkF m 21 #[.val (.int x0), .val (.int (7 : Int32)), .val (.ref w_RELEASE), .unset] [(.int (7 : Int32))])) _
      refine XS.iconst X62.here hx rfl (hb hby at_21) ?_
      show Steps p.tables e below (T62.setTop (mkF m 22 #[.val (.int x0), .val (.int (7 : Int32)), .val (.ref w_RELEASE), .unset] [(.int (3 : Int32)), (.int (7 : Int32))])) _
      refine XS.icmpYes X62.here hx rfl (pc0 := 22) (pc' := 29) rfl (hb hby at_22) rfl (feq ((by decide) : ¬ ((7 : Int32) = (3 : Int32)))).2 (by decide) (by decide) ?_
      show Steps p.tables e below (T62.setTop (mkF m 29 #[.val (.int x0), .val (.int (7 : Int32)), .val (.ref w_RELEASE), .unset] [])) _
      refine XS.iconst X62.here hx rfl (hb hby at_29) ?_
      show Steps p.tables e below (T62.setTop (mkF m 30 #[.val (.int x0), .val (.int (7 : Int32)), .val (.ref w_RELEASE), .unset] [(.int (0 : Int32))])) _
      refine XS.istoreN X62.here hx rfl (hb hby at_30) rfl (l' := #[.val (.int x0), .val (.int (7 : Int32)), .val (.ref w_RELEASE), .val (.int (0 : Int32))]) rfl ?_
      show Steps p.tables e below (T62.setTop (mkF m 31 #[.val (.int x0), .val (.int (7 : Int32)), .val (.ref w_RELEASE), .val (.int (0 : Int32))] [])) _
      refine XS.aloadN X62.here hx rfl (hb hby at_31) rfl rfl ?_
      show Steps p.tables e below (T62.setTop (mkF m 32 #[.val (.int x0), .val (.int (7 : Int32)), .val (.ref w_RELEASE), .val (.int (0 : Int32))] [(.ref w_RELEASE)])) _
      refine st63.trans ?_
      show Steps p.tables e below (T63.setTop (mkF m 35 #[.val (.int x0), .val (.int (7 : Int32)), .val (.ref w_RELEASE), .val (.int (0 : Int32))] [(.int (0 : Int32))])) _
      refine XS.iloadN X63.here hx rfl (hb hby at_35) rfl ?_
      show Steps p.tables e below (T63.setTop (mkF m 36 #[.val (.int x0), .val (.int (7 : Int32)), .val (.ref w_RELEASE), .val (.int (0 : Int32))] [(.int (0 : Int32)), (.int (0 : Int32))])) _
      refine XS.icmpNo X63.here hx rfl (hb hby at_36) rfl (teq ((by decide) : (0 : Int32) = (0 : Int32))).2 ?_
      show Steps p.tables e below (T63.setTop (mkF m 39 #[.val (.int x0), .val (.int (7 : Int32)), .val (.ref w_RELEASE), .val (.int (0 : Int32))] [])) _
      refine XS.iconst X63.here hx rfl (hb hby at_39) ?_
      show Steps p.tables e below (T63.setTop (mkF m 40 #[.val (.int x0), .val (.int (7 : Int32)), .val (.ref w_RELEASE), .val (.int (0 : Int32))] [(.int (1 : Int32))])) _
      refine XS.goto X63.here hx rfl (pc0 := 40) (pc' := 44) rfl (hb hby at_40) (by decide) (by decide) ?_
      exact kk)
    obtain ⟨fs, hr, hrun, hended, hW, hsame⟩ := X63.leave (v := some (.int (1 : Int32))) (fun h => by rw [Bd.returns] at h; cases h)
    refine ⟨_, _, pre64 _ ?_, hrun, hended, _, _, rfl, ?_, ⟨_, rfl⟩, hW, hsame.mono (by decide) (by decide)⟩
    · exact retN X63 hx (t := .boolean) Bd.returns (by simp) (hb hby at_44) hr
    · exact ⟨rfl, N63⟩
set_option maxRecDepth 65536 in
set_option maxHeartbeats 40000000 in
theorem comes_1 {Post : Tables → Env → Array Value → State → Outcome → State → Prop} (hpost : ∀ tb e args s v u, (limb_1_1.after args s (.returned v) u = true ∧ limb_1_2.after args s (.returned v) u = true ∧ True) → FrameEnd s (.returned v) u (Jvm.fieldLocs frame_1_writes args s ++ Jvm.arrayLocs frame_1_arrays args s ++ Jvm.staticLocs frame_1_statics s) 0 0 → Post tb e args s (.returned v) u) :
    ArmFor flags0 classFile x code maxLocals ret World_1 tables_1 room_1 Calls_1 rest_1 Pre_1 Post := by
  intro l hfl _ _ p e ha hc hk s m args below hf hA hF happ hP
  obtain ⟨hcalls, hrest, hpre⟩ := hP
  obtain ⟨-, -, -, hnamed, -, -, -, hat⟩ := (Spec.applies_iff hf).mp happ
  obtain ⟨hg, hn⟩ := and_e (Cond.before_iff.mp (show (Jvm.Cond.and given_1 narrow_1).before args s = true from hpre))
  obtain ⟨hcount, hgs⟩ := and_e hg
  obtain ⟨v0, rfl⟩ : ∃ v0 : Value, args = #[v0] := by
    have hs : args.size = 1 := by simpa [Cond.value, given_1] using hcount
    obtain ⟨L⟩ := args
    match L, hs with
    | [v0], _ => exact ⟨v0, rfl⟩
  have hw := fun d (hd : d ∈ tables_1) => atoms_spec (ws := Jvm.Cond.code x code maxLocals ret :: tables_1) hat d (List.mem_cons_of_mem _ hd)
  have hfit : Fit s := fun {y c} hc i hi => by
    obtain ⟨ha, rfl⟩ := Array.getElem?_eq_some_iff.mp hc
    have q := List.all_eq_true.mp ((Array.all_eq_true_iff_forall_mem.mp hF) _ (Array.getElem_mem ha)) i (List.mem_range.mpr hi)
    simpa [Array.getElem?_eq_getElem hi] using q
  obtain ⟨i0, ei0⟩ := is_v hgs
  obtain rfl : v0 = (.int i0) := Option.some.inj ei0
  obtain ⟨n1, n2⟩ := and_e hn
  obtain ⟨n3, n4⟩ := and_e n2
  obtain ⟨n5, n6⟩ := and_e n4
  obtain ⟨n7, n8⟩ := and_e n6
  obtain ⟨n9, n10⟩ := and_e n8
  obtain ⟨n11, n12⟩ := and_e n10
  obtain ⟨n13, n14⟩ := and_e n12
  obtain ⟨n15, n16⟩ := and_e n14
  obtain ⟨n17, n18⟩ := and_e n16
  obtain ⟨n19, n20⟩ := and_e n18
  obtain ⟨n21, n22⟩ := and_e n20
  obtain ⟨n23, n24⟩ := and_e n22
  obtain ⟨n25, n26⟩ := and_e n24
  obtain ⟨n27, n28⟩ := and_e n26
  obtain ⟨n29, n30⟩ := and_e n28
  obtain ⟨w_ELECTION, e_w_ELECTION⟩ := exa_v n1
  obtain ⟨w_COORDINATOR, e_w_COORDINATOR⟩ := exa_v n3
  obtain ⟨w_HEARTBEAT, e_w_HEARTBEAT⟩ := exa_v n9
  obtain ⟨w_CLAIM, e_w_CLAIM⟩ := exa_v n13
  obtain ⟨w_TERM, e_w_TERM⟩ := exa_v n17
  obtain ⟨w_RELEASE, e_w_RELEASE⟩ := exa_v n21
  obtain ⟨w_ACK, e_w_ACK⟩ := exa_v n25
  obtain ⟨w_HELLO, e_w_HELLO⟩ := exa_v n29
  have h_S_w_ELECTION := Sta.start e_w_ELECTION (Or.inr ⟨(hw _ (List.mem_of_getElem? (i := 5) rfl)), (hw _ (List.mem_of_getElem? (i := 6) rfl))⟩)
  have h_E_w_ELECTION := Exa.start e_w_ELECTION n1
  have h_S_w_COORDINATOR := Sta.start e_w_COORDINATOR (Or.inr ⟨(hw _ (List.mem_of_getElem? (i := 5) rfl)), (hw _ (List.mem_of_getElem? (i := 13) rfl))⟩)
  have h_E_w_COORDINATOR := Exa.start e_w_COORDINATOR n3
  have h_S_w_HEARTBEAT := Sta.start e_w_HEARTBEAT (Or.inr ⟨(hw _ (List.mem_of_getElem? (i := 5) rfl)), (hw _ (List.mem_of_getElem? (i := 15) rfl))⟩)
  have h_E_w_HEARTBEAT := Exa.start e_w_HEARTBEAT n9
  have h_S_w_CLAIM := Sta.start e_w_CLAIM (Or.inr ⟨(hw _ (List.mem_of_getElem? (i := 5) rfl)), (hw _ (List.mem_of_getElem? (i := 17) rfl))⟩)
  have h_E_w_CLAIM := Exa.start e_w_CLAIM n13
  have h_S_w_TERM := Sta.start e_w_TERM (Or.inr ⟨(hw _ (List.mem_of_getElem? (i := 5) rfl)), (hw _ (List.mem_of_getElem? (i := 20) rfl))⟩)
  have h_E_w_TERM := Exa.start e_w_TERM n17
  have h_S_w_RELEASE := Sta.start e_w_RELEASE (Or.inr ⟨(hw _ (List.mem_of_getElem? (i := 5) rfl)), (hw _ (List.mem_of_getElem? (i := 22) rfl))⟩)
  have h_E_w_RELEASE := Exa.start e_w_RELEASE n21
  have h_S_w_ACK := Sta.start e_w_ACK (Or.inr ⟨(hw _ (List.mem_of_getElem? (i := 5) rfl)), (hw _ (List.mem_of_getElem? (i := 26) rfl))⟩)
  have h_E_w_ACK := Exa.start e_w_ACK n25
  have h_S_w_HELLO := Sta.start e_w_HELLO (Or.inr ⟨(hw _ (List.mem_of_getElem? (i := 5) rfl)), (hw _ (List.mem_of_getElem? (i := 28) rfl))⟩)
  have h_E_w_HELLO := Exa.start e_w_HELLO n29
  have h_F_ordinal_w_ELECTION := own_fld e_w_ELECTION n5
  have h_F_ordinal_w_COORDINATOR := own_fld e_w_COORDINATOR n7
  have h_F_ordinal_w_HEARTBEAT := own_fld e_w_HEARTBEAT n11
  have h_F_ordinal_w_CLAIM := own_fld e_w_CLAIM n15
  have h_F_ordinal_w_TERM := own_fld e_w_TERM n19
  have h_F_ordinal_w_RELEASE := own_fld e_w_RELEASE n23
  have h_F_ordinal_w_ACK := own_fld e_w_ACK n27
  have h_F_ordinal_w_HELLO := own_fld e_w_HELLO n30
  obtain ⟨n, o, h1, h2, h3, _, L, rfl, ⟨rfl, N⟩, hq⟩ := rm0 l s _ hw tables_1 i0 w_ELECTION w_COORDINATOR w_HEARTBEAT w_CLAIM w_TERM w_RELEASE w_ACK w_HELLO s.heap s.heap.size (Nat.le_refl _) h_S_w_ELECTION h_E_w_ELECTION h_S_w_COORDINATOR h_E_w_COORDINATOR h_S_w_HEARTBEAT h_E_w_HEARTBEAT h_S_w_CLAIM h_E_w_CLAIM h_S_w_TERM h_E_w_TERM h_S_w_RELEASE h_E_w_RELEASE h_S_w_ACK h_E_w_ACK h_S_w_HELLO h_E_w_HELLO h_F_ordinal_w_ELECTION h_F_ordinal_w_COORDINATOR h_F_ordinal_w_HEARTBEAT h_F_ordinal_w_CLAIM h_F_ordinal_w_TERM h_F_ordinal_w_RELEASE h_F_ordinal_w_ACK h_F_ordinal_w_HELLO p e ha hc hk s m _ below hf ((Spec.applies_iff_loose hf).mp happ).1 ⟨rfl, State.Warmed39.refl s, rfl⟩ trivial
  exact ⟨n, _, h1, h2, h3, hpost _ _ _ _ _ _ ⟨Cond.after_iff.mpr rfl, Cond.after_iff.mpr (eq_i res_at (Term.int_eval (1)) rfl), trivial⟩ ⟨hq.1, hq.2.1, (hq.2.2.sift fun y hy => Or.inr (N y hy)).mono (by decide) (by decide)⟩⟩
theorem main_1_1 : Claimed_1_1 := comes_1 fun _ _ _ _ _ _ h hF => ⟨h.1, hF⟩
theorem main_1_2 : Claimed_1_2 := comes_1 fun _ _ _ _ _ _ h hF => ⟨h.2.1, hF⟩
end Jvm.Pilot.@@N@@
namespace Jvm.Pilot.@@N@@
open Jvm Jvm.ClassFile Sem Op Lib Jvm.Free Jvm.Stand Jvm.Pilot.@@N@@.Jvm.D
/-! MADE BY PROGRAM (witnessworld.py) out of the Statement's table words and the real class files: 12 classes; the members and pool entries that the words name. The judged class is class 1, her method 1. -/
namespace start1
open Jvm.ClassFile
def u (s : String) : CpInfo := .utf8 (stringToUtf16 s)
/-- a pool by its gaps: so many unusable entries, then the entry; so many at the end -/
def gap : Nat → List CpInfo → List CpInfo
  | 0, r => r
  | n + 1, r => .unusable :: gap n r
def poolList (es : List (Nat × CpInfo)) (last : Nat) : List CpInfo := es.foldr (fun e r => gap e.1 (e.2 :: r)) (gap last [])
def pool (es : List (Nat × CpInfo)) (last : Nat) : Array CpInfo := ⟨poolList es last⟩
def fileOf (pool : Array CpInfo) (this : Nat) (attrs : Array Attribute := #[]) (ms : Array MethodInfo := #[]) (fl : Nat := 33) (sup : Nat := 0) (ifs : Array Nat := #[]) (fds : Array FieldInfo := #[]) : ClassFile where
  minorVersion := 0
  majorVersion := 65
  constantPool := pool
  accessFlags := fl
  thisClass := this
  superClass := sup
  interfaces := ifs
  fields := fds
  methods := ms
  attributes := attrs
def plain (name : String) (sup : Option ClassId) : Class where
  name := name
  kind := .ordinary
  loader := none
  accessFlags := 33
  super := sup
  interfaces := #[]
  cf := none
  fields := #[]
  methods := #[]
  instanceTypes := #[]
  staticTypes := #[]
  resolved := #[]
  callSites := []
  init := .initialized
  statics := none
  mirror := none

def pool0 : Array CpInfo := pool [(5, u "<init>"), (0, u "()V"), (1, .class_ 10), (1, u "java/lang/Object")] 113

def k0m0 : Method := { name := "<init>", desc := "()V", sig := { parameters := [], returnType := none }, accessFlags := 1, code := none }
/-- java/lang/Object -/
def k0 : Class := { plain "java/lang/Object" none with
  accessFlags := 33
  interfaces := #[]
  cf := some (fileOf pool0 8 #[] #[{ accessFlags := 1, nameIndex := 5, descriptorIndex := 6, attributes := #[] }] 33 0 #[] #[])
  fields := #[]
  methods := #[k0m0]
  instanceTypes := #[]
  staticTypes := #[]
  resolved := Array.replicate 124 none
  statics := none }

def pool1 : Array CpInfo := pool [(2, .class_ 4), (1, u "java/lang/Object"), (0, u "<init>"), (0, u "()V"), (0, .methodref 8 9), (0, .class_ 10), (0, .nameAndType 11 12), (0, u "com/example/ballotwire/ballotwire/protocol/KindClaimsPinLaw"), (0, u "kindOf"), (0, u "(I)Lcom/example/ballotwire/ballotwire/protocol/Message$Kind;"), (0, .methodref 14 15), (0, .class_ 16), (0, .nameAndType 17 18), (0, u "com/example/ballotwire/ballotwire/protocol/Message$Kind"), (0, u "claims"), (0, u "()Z"), (0, .fieldref 14 20), (0, .nameAndType 21 22), (0, u "ELECTION"), (0, u "Lcom/example/ballotwire/ballotwire/protocol/Message$Kind;"), (0, .fieldref 14 24), (0, .nameAndType 25 22), (0, u "COORDINATOR"), (0, .fieldref 14 27), (0, .nameAndType 28 22), (0, u "HEARTBEAT"), (0, .fieldref 14 30), (0, .nameAndType 31 22), (0, u "CLAIM"), (0, .fieldref 14 33), (0, .nameAndType 34 22), (0, u "ACK"), (0, .fieldref 14 36), (0, .nameAndType 37 22), (0, u "HELLO"), (0, .fieldref 14 39), (0, .nameAndType 40 22), (0, u "TERM"), (0, .fieldref 14 42), (0, .nameAndType 43 22), (0, u "RELEASE"), (2, u "law"), (0, u "(I)Z")] 7

def k1m0 : Method := { name := "<init>", desc := "()V", sig := { parameters := [], returnType := none }, accessFlags := 2, code := none }
def k1c1 : Code := { maxStack := 2, maxLocals := 4, code := code, exceptionTable := #[], attributes := #[] }
def k1m1 : Method := { name := "law", desc := "(I)Z", sig := { parameters := [.int], returnType := some .boolean }, accessFlags := 9, code := some k1c1 }
def k1c2 : Code := { maxStack := 2, maxLocals := 1, code := method_3_code, exceptionTable := #[], attributes := #[] }
def k1m2 : Method := { name := "kindOf", desc := "(I)Lcom/example/ballotwire/ballotwire/protocol/Message$Kind;", sig := { parameters := [.int], returnType := some (.object "com/example/ballotwire/ballotwire/protocol/Message$Kind") }, accessFlags := 10, code := some k1c2 }
/-- com/example/ballotwire/ballotwire/protocol/KindClaimsPinLaw -/
def k1 : Class := { plain "com/example/ballotwire/ballotwire/protocol/KindClaimsPinLaw" (some 0) with
  accessFlags := 49
  interfaces := #[]
  cf := some (fileOf pool1 8 #[] #[{ accessFlags := 2, nameIndex := 5, descriptorIndex := 6, attributes := #[] }, { accessFlags := 9, nameIndex := 46, descriptorIndex := 47, attributes := #[] }, { accessFlags := 10, nameIndex := 11, descriptorIndex := 12, attributes := #[] }] 49 2 #[] #[])
  fields := #[]
  methods := #[k1m0, k1m1, k1m2]
  instanceTypes := #[]
  staticTypes := #[]
  resolved := Array.replicate 55 none
  statics := none }

def pool2 : Array CpInfo := pool [(1, .class_ 2), (0, u "java/lang/constant/Constable"), (0, .class_ 4), (0, u "java/lang/Object")] 6

/-- java/lang/constant/Constable -/
def k2 : Class := { plain "java/lang/constant/Constable" (some 0) with
  accessFlags := 1537
  interfaces := #[]
  cf := some (fileOf pool2 1 #[] #[] 1537 3 #[] #[])
  fields := #[]
  methods := #[]
  instanceTypes := #[]
  staticTypes := #[]
  resolved := Array.replicate 11 none
  statics := none }

def pool3 : Array CpInfo := pool [(1, .class_ 2), (0, u "java/lang/Comparable"), (0, .class_ 4), (0, u "java/lang/Object")] 7

/-- java/lang/Comparable -/
def k3 : Class := { plain "java/lang/Comparable" (some 0) with
  accessFlags := 1537
  interfaces := #[]
  cf := some (fileOf pool3 1 #[] #[] 1537 3 #[] #[])
  fields := #[]
  methods := #[]
  instanceTypes := #[]
  staticTypes := #[]
  resolved := Array.replicate 12 none
  statics := none }

def pool4 : Array CpInfo := pool [(1, .class_ 2), (0, u "java/io/Serializable"), (0, .class_ 4), (0, u "java/lang/Object")] 2

/-- java/io/Serializable -/
def k4 : Class := { plain "java/io/Serializable" (some 0) with
  accessFlags := 1537
  interfaces := #[]
  cf := some (fileOf pool4 1 #[] #[] 1537 3 #[] #[])
  fields := #[]
  methods := #[]
  instanceTypes := #[]
  staticTypes := #[]
  resolved := Array.replicate 7 none
  statics := none }

def pool5 : Array CpInfo := pool [(2, .class_ 4), (1, u "java/lang/Enum"), (0, u "name"), (0, u "Ljava/lang/String;"), (2, u "ordinal"), (0, u "I"), (1, .class_ 14), (1, u "java/lang/Object"), (4, u "hash"), (86, .class_ 108), (1, u "java/lang/Enum$EnumDesc"), (2, .class_ 112), (0, u "java/lang/constant/Constable"), (0, .class_ 114), (0, u "java/lang/Comparable"), (0, .class_ 116), (0, u "java/io/Serializable")] 87

/-- java/lang/Enum -/
def k5 : Class := { plain "java/lang/Enum" (some 0) with
  accessFlags := 1057
  interfaces := #[2, 3, 4]
  cf := some (fileOf pool5 2 #[.nestMembers #[106]] #[] 1057 12 #[111, 113, 115] #[{ accessFlags := 18, nameIndex := 5, descriptorIndex := 6, attributes := #[] }, { accessFlags := 18, nameIndex := 9, descriptorIndex := 10, attributes := #[] }, { accessFlags := 2, nameIndex := 19, descriptorIndex := 10, attributes := #[] }])
  fields := #[{ name := "name", type := (.object "java/lang/String"), accessFlags := 18, slot := 0, constantValue := 0 }, { name := "ordinal", type := .int, accessFlags := 18, slot := 1, constantValue := 0 }, { name := "hash", type := .int, accessFlags := 2, slot := 2, constantValue := 0 }]
  methods := #[]
  instanceTypes := #[(.object "java/lang/String"), .int, .int]
  staticTypes := #[]
  resolved := Array.replicate 204 none
  statics := none }

def pool6 : Array CpInfo := pool [(1, .class_ 2), (0, u "com/example/ballotwire/ballotwire/protocol/Message$Kind"), (2, u "ELECTION"), (0, u "Lcom/example/ballotwire/ballotwire/protocol/Message$Kind;"), (0, .fieldref 1 8), (0, .nameAndType 9 6), (0, u "COORDINATOR"), (0, .fieldref 1 11), (0, .nameAndType 12 6), (0, u "HEARTBEAT"), (0, .fieldref 1 14), (0, .nameAndType 15 6), (0, u "CLAIM"), (2, u "ACK"), (2, u "HELLO"), (2, u "TERM"), (2, u "RELEASE"), (2, u "$VALUES"), (0, u "[Lcom/example/ballotwire/ballotwire/protocol/Message$Kind;"), (6, .class_ 40), (1, u "java/lang/Enum"), (27, u "()Z"), (1, u "claims"), (5, .class_ 77), (0, u "com/example/ballotwire/ballotwire/protocol/Message")] 2

def k6c0 : Code := { maxStack := 2, maxLocals := 1, code := prog_66_method_5_code, exceptionTable := #[], attributes := #[] }
def k6m0 : Method := { name := "claims", desc := "()Z", sig := { parameters := [], returnType := some .boolean }, accessFlags := 1, code := some k6c0 }
/-- com/example/ballotwire/ballotwire/protocol/Message$Kind -/
def k6 : Class := { plain "com/example/ballotwire/ballotwire/protocol/Message$Kind" (some 5) with
  accessFlags := 16433
  interfaces := #[]
  cf := some (fileOf pool6 1 #[.nestHost 76] #[{ accessFlags := 1, nameIndex := 70, descriptorIndex := 68, attributes := #[] }] 16433 38 #[] #[{ accessFlags := 16409, nameIndex := 5, descriptorIndex := 6, attributes := #[] }, { accessFlags := 16409, nameIndex := 9, descriptorIndex := 6, attributes := #[] }, { accessFlags := 16409, nameIndex := 12, descriptorIndex := 6, attributes := #[] }, { accessFlags := 16409, nameIndex := 15, descriptorIndex := 6, attributes := #[] }, { accessFlags := 16409, nameIndex := 18, descriptorIndex := 6, attributes := #[] }, { accessFlags := 16409, nameIndex := 21, descriptorIndex := 6, attributes := #[] }, { accessFlags := 16409, nameIndex := 24, descriptorIndex := 6, attributes := #[] }, { accessFlags := 16409, nameIndex := 27, descriptorIndex := 6, attributes := #[] }, { accessFlags := 4122, nameIndex := 30, descriptorIndex := 31, attributes := #[] }])
  fields := #[{ name := "ELECTION", type := (.object "com/example/ballotwire/ballotwire/protocol/Message$Kind"), accessFlags := 16409, slot := 0, constantValue := 0 }, { name := "COORDINATOR", type := (.object "com/example/ballotwire/ballotwire/protocol/Message$Kind"), accessFlags := 16409, slot := 1, constantValue := 0 }, { name := "HEARTBEAT", type := (.object "com/example/ballotwire/ballotwire/protocol/Message$Kind"), accessFlags := 16409, slot := 2, constantValue := 0 }, { name := "CLAIM", type := (.object "com/example/ballotwire/ballotwire/protocol/Message$Kind"), accessFlags := 16409, slot := 3, constantValue := 0 }, { name := "ACK", type := (.object "com/example/ballotwire/ballotwire/protocol/Message$Kind"), accessFlags := 16409, slot := 4, constantValue := 0 }, { name := "HELLO", type := (.object "com/example/ballotwire/ballotwire/protocol/Message$Kind"), accessFlags := 16409, slot := 5, constantValue := 0 }, { name := "TERM", type := (.object "com/example/ballotwire/ballotwire/protocol/Message$Kind"), accessFlags := 16409, slot := 6, constantValue := 0 }, { name := "RELEASE", type := (.object "com/example/ballotwire/ballotwire/protocol/Message$Kind"), accessFlags := 16409, slot := 7, constantValue := 0 }, { name := "$VALUES", type := (.array (.object "com/example/ballotwire/ballotwire/protocol/Message$Kind")), accessFlags := 4122, slot := 8, constantValue := 0 }]
  methods := #[k6m0]
  instanceTypes := #[(.object "java/lang/String"), .int, .int]
  staticTypes := #[(.object "com/example/ballotwire/ballotwire/protocol/Message$Kind"), (.object "com/example/ballotwire/ballotwire/protocol/Message$Kind"), (.object "com/example/ballotwire/ballotwire/protocol/Message$Kind"), (.object "com/example/ballotwire/ballotwire/protocol/Message$Kind"), (.object "com/example/ballotwire/ballotwire/protocol/Message$Kind"), (.object "com/example/ballotwire/ballotwire/protocol/Message$Kind"), (.object "com/example/ballotwire/ballotwire/protocol/Message$Kind"), (.object "com/example/ballotwire/ballotwire/protocol/Message$Kind"), (.array (.object "com/example/ballotwire/ballotwire/protocol/Message$Kind"))]
  resolved := Array.replicate 80 none
  statics := some 0 }

def pool7 : Array CpInfo := pool [(1, u "java/lang/Cloneable"), (0, .class_ 1), (0, u "java/lang/Object"), (0, .class_ 3)] 3

/-- java/lang/Cloneable -/
def k7 : Class := { plain "java/lang/Cloneable" (some 0) with
  accessFlags := 1537
  interfaces := #[]
  cf := some (fileOf pool7 2 #[] #[] 1537 4 #[] #[])
  fields := #[]
  methods := #[]
  instanceTypes := #[]
  staticTypes := #[]
  resolved := Array.replicate 8 none
  statics := none }

/-- the primitive byte -/
def k8 : Class := { plain "byte" none with kind := .primitive 'B', accessFlags := 0x411 }
/-- [B -/
def k9 : Class := { plain "[B" (some 0) with kind := .array 8 .byte, interfaces := #[7, 4], accessFlags := 1041 }

/-- the primitive int -/
def k10 : Class := { plain "int" none with kind := .primitive 'I', accessFlags := 0x411 }
/-- [I -/
def k11 : Class := { plain "[I" (some 0) with kind := .array 10 .int, interfaces := #[7, 4], accessFlags := 1041 }

def heap : Heap := #[{ cls := 6, slots := #[.ref 1, .ref 2, .ref 3, .ref 4, .ref 7, .ref 8, .ref 5, .ref 6, .null], vm := .statics 6 },
  { cls := 6, slots := #[.null, .int 0, .int 0], vm := .none },
  { cls := 6, slots := #[.null, .int 1, .int 0], vm := .none },
  { cls := 6, slots := #[.null, .int 2, .int 0], vm := .none },
  { cls := 6, slots := #[.null, .int 3, .int 0], vm := .none },
  { cls := 6, slots := #[.null, .int 6, .int 0], vm := .none },
  { cls := 6, slots := #[.null, .int 7, .int 0], vm := .none },
  { cls := 6, slots := #[.null, .int 4, .int 0], vm := .none },
  { cls := 6, slots := #[.null, .int 5, .int 0], vm := .none }]
def classes : Array Class := #[k0, k1, k2, k3, k4, k5, k6, k7, k8, k9, k10, k11]
def interned : List (Array UInt16 × Addr) := []
def slotsUsed : Nat := 33
def theMethod : MethodId := ⟨1, 1⟩
def args0 : Array Value := #[.int 5]
def aboutOver (below : List Frame) : State where
  vm := { classes := classes, interned := interned.toArray }
  heap := heap
  slotsUsed := slotsUsed
  threads := #[{ frames := .invoking theMethod args0 :: below }]
def below0 : List Frame := [.native { method := ⟨0, 0⟩, args := #[] }]
def about1 : State := aboutOver below0
def p0 : Program := .bare "" "" ""
def e0 : Env := launch0.env 0 0 0
theorem w_frames : about1.frames = Frame.invoking theMethod args0 :: below0 := rfl
set_option maxRecDepth 65536 in
theorem w_args : argsFit about1.vm theMethod args0 = true := by decide +kernel
set_option maxRecDepth 65536 in
theorem w_heap : heapFits about1 = true := by decide +kernel
set_option maxRecDepth 65536 in
theorem w_runnable : about1.curStatus? = some .runnable := by decide +kernel
set_option maxRecDepth 65536 in
theorem w_alone : about1.alone = true := by decide +kernel
set_option maxRecDepth 65536 in
theorem w_named : about1.methodNamed? x = some theMethod := by decide +kernel
set_option maxRecDepth 65536 in
theorem w_hears : about1.hears theMethod below0 = true := by decide +kernel
set_option maxRecDepth 65536 in
theorem w_ripe : about1.ripe theMethod args0 below0 = true := by decide +kernel
theorem w_running : about1.status = .running := rfl
set_option maxRecDepth 65536 in
theorem w_room : about1.hasRoom e0.platform room_1 = true :=
  launch0.hasRoom_least _ room_1 (by decide +kernel) (by decide +kernel) (by decide +kernel) (by decide +kernel) (by decide +kernel) (by decide +kernel)
theorem allAtoms_all (ts : List Jvm.Cond) (a : Array Jvm.Value) (st : Jvm.State) : (allAtoms ts).before a st = ts.all (fun c => c.before a st) := by
  induction ts with
  | nil => rfl
  | cons c t ih =>
    show (Jvm.Cond.and c (allAtoms t)).before a st = _
    rw [Jvm.Cond.before_and, ih, List.all_cons]
def words1 : List Jvm.Cond := Jvm.Cond.code x code maxLocals ret :: tables_1
/-- a 'code' word, met by the world's own term for the bytes: nothing is compared byte by byte -/
theorem code_word {y : MethodName} {bytes : ByteArray} {mx : Nat} {rt : Option FieldType} {a : Array Value} {s : State} {m : MethodId} {meth : Method} {c : Code} (h1 : s.methodNamed? y = some m) (h2 : s.vm.method? m = some meth) (h3 : meth.code = some c) (h4 : c.code = bytes)
    (h5 : (c.maxLocals == mx && c.exceptionTable.isEmpty && decide (c.maxStack ≤ mostOperands) && decide (meth.sig.returnType = rt) && !meth.locks && decide (parseMethodDescriptor y.desc = some meth.sig)) = true) : (Jvm.Cond.code y bytes mx rt).before a s = true := by
  simp only [Bool.and_eq_true, beq_iff_eq, Bool.not_eq_true', decide_eq_true_eq] at h5
  obtain ⟨⟨⟨⟨⟨g1, g2⟩, g3⟩, g4⟩, g5⟩, g6⟩ := h5
  simp [Cond.before, Cond.holds, Cond.value, h1, h2, h3, h4, g1, g2, g3, g4, g5, g6]
def isCode : Jvm.Cond → Bool
  | .code _ _ _ _ => true
  | _ => false
theorem all_split {L : List Jvm.Cond} {P : Jvm.Cond → Bool} (h1 : L.all (fun c => isCode c || P c) = true) (h2 : ∀ c ∈ L.filter isCode, P c = true) : L.all P = true := by
  refine List.all_eq_true.mpr fun c hc => ?_
  have h := List.all_eq_true.mp h1 c hc
  rcases Bool.eq_false_or_eq_true (isCode c) with hi | hi
  · exact h2 c (List.mem_filter.mpr ⟨hc, hi⟩)
  · simpa [hi] using h
set_option maxRecDepth 65536 in
theorem w_c0 : (Jvm.Cond.code x code maxLocals ret).before args0 about1 = true := code_word (m := ⟨1, 1⟩) (meth := k1m1) (c := k1c1) (by decide +kernel) rfl rfl rfl (by decide +kernel)
set_option maxRecDepth 65536 in
theorem w_c1 : (Jvm.Cond.code ({ cls := "com/example/ballotwire/ballotwire/protocol/KindClaimsPinLaw", name := "kindOf", desc := "(I)Lcom/example/ballotwire/ballotwire/protocol/Message$Kind;" } : Jvm.MethodName) method_3_code (1 : Nat) (Option.some (Jvm.ClassFile.FieldType.object "com/example/ballotwire/ballotwire/protocol/Message$Kind"))).before args0 about1 = true := code_word (m := ⟨1, 2⟩) (meth := k1m2) (c := k1c2) (by decide +kernel) rfl rfl rfl (by decide +kernel)
set_option maxRecDepth 65536 in
theorem w_c2 : (Jvm.Cond.code ({ cls := "com/example/ballotwire/ballotwire/protocol/Message$Kind", name := "claims", desc := "()Z" } : Jvm.MethodName) prog_66_method_5_code (1 : Nat) (Option.some Jvm.ClassFile.FieldType.boolean)).before args0 about1 = true := code_word (m := ⟨6, 0⟩) (meth := k6m0) (c := k6c0) (by decide +kernel) rfl rfl rfl (by decide +kernel)
def codes1 : List Jvm.Cond := [Jvm.Cond.code x code maxLocals ret, Jvm.Cond.code ({ cls := "com/example/ballotwire/ballotwire/protocol/KindClaimsPinLaw", name := "kindOf", desc := "(I)Lcom/example/ballotwire/ballotwire/protocol/Message$Kind;" } : Jvm.MethodName) method_3_code (1 : Nat) (Option.some (Jvm.ClassFile.FieldType.object "com/example/ballotwire/ballotwire/protocol/Message$Kind")), Jvm.Cond.code ({ cls := "com/example/ballotwire/ballotwire/protocol/Message$Kind", name := "claims", desc := "()Z" } : Jvm.MethodName) prog_66_method_5_code (1 : Nat) (Option.some Jvm.ClassFile.FieldType.boolean)]
set_option maxRecDepth 65536 in
theorem codes_eq : words1.filter isCode = codes1 := rfl
theorem w_codes : ∀ c ∈ words1.filter isCode, c.before args0 about1 = true := by
  rw [codes_eq]
  intro c hc
  simp only [codes1, List.mem_cons, List.not_mem_nil, or_false] at hc
  rcases hc with rfl | rfl | rfl
  · exact w_c0
  · exact w_c1
  · exact w_c2
set_option maxRecDepth 65536 in
theorem w_t1 : (words1.take 24).all (fun c => isCode c || c.before args0 about1) = true := by decide +kernel
set_option maxRecDepth 65536 in
theorem w_t2 : (words1.drop 24).all (fun c => isCode c || c.before args0 about1) = true := by decide +kernel
theorem w_tables : (allAtoms (Jvm.Cond.code x code maxLocals ret :: tables_1)).before args0 about1 = true := by
  rw [allAtoms_all]
  show words1.all (fun c => c.before args0 about1) = true
  refine all_split ?_ w_codes
  rw [← List.take_append_drop 24 words1, List.all_append, w_t1, w_t2]
  rfl
set_option maxRecDepth 65536 in
theorem w_case : (Jvm.Cond.and given_1 narrow_1).before args0 about1 = true := by decide +kernel
theorem w_applies : (headSpec (Jvm.Cond.code x code maxLocals ret :: tables_1) room_1).applies x e0.platform about1 = true :=
  (Spec.applies_iff w_frames).mpr ⟨w_running, w_runnable, w_alone, w_named, w_hears, w_ripe, w_room, w_tables⟩
theorem atStart : AtStart classFile x code maxLocals ret World_1 tables_1 room_1 Calls_1 rest_1 Pre_1 launch0 p0 e0 about1 theMethod args0 below0 :=
  ⟨lists_1, trivial, launch0.admits_env _ _ _, launch0.least_env, fairChoices_fair.cas, fairChoices_fair.clock, w_frames, w_args, w_heap, w_applies, trivial, trivial, w_case⟩
end start1
theorem witness_1 : WitnessClaimed_1 := ⟨start1.p0, start1.e0, start1.about1, start1.theMethod, start1.args0, start1.below0, start1.atStart⟩
end Jvm.Pilot.@@N@@
