import JvmDerived
import JvmDerived.Pilot.@@N@@Statement
import JvmDerived.Pilot.@@N@@Code
set_option linter.unusedVariables false
set_option linter.unusedSimpArgs false
namespace Jvm.RoadKit
open Sem ClassFile Op Lib Jvm.Stand Jvm.Free Jvm.LawKit
section New
variable {p : Program} {l : Launch} {e : Env} {R : Room} {s : State} {m : MethodId} {args : Array Value} {below : List Frame} {meth : Method} {c : Code} {T : State} {locs : List Loc} {cells slots : Nat}
theorem retI (X : Stand p l e R s m args below meth c T locs cells slots) (hx : p.tables.exec = Jvm.exec) {pc : Nat} {Ls : Array Slot} {z : Int32} {rest : List Value} (hret : meth.sig.returnType = some .int) (hd : decode c.code pc = .ok (.ireturn, 1)) {fs : List Frame}
    (hl : ∀ (f : JFrame) (acts : List Action), f.method = m → f.locked = none → f.entered = [] → (doReturn e (T.setTop f) acts (some (.int z))).1 = T.setFrames fs) : Steps p.tables e below (T.setTop (mkF m pc Ls (.int z :: rest))) (T.setFrames fs) := by
  have hm' : T.vm.method? m = some meth := X.method'
  have hn : narrow .int (.int z) = .int z := rfl
  show Steps p.tables e below (T.setTop { method := m, pc := pc, locals := Ls, stack := _ :: rest, locked := none }) _
  jvm_step X.here [X.here.top, hx, hd, hm', hret, hn]
  first | (intro acts; rw [hl _ acts rfl rfl rfl]) | rw [hl _ _ rfl rfl rfl]
  exact Steps.refl _
end New
end Jvm.RoadKit
namespace Jvm.Pilot.@@N@@
open Jvm Jvm.ClassFile Sem Op Lib Jvm.Free Jvm.Stand Jvm.LawKit Jvm.RoadKit Bundle Jvm.Pilot.@@N@@.Jvm.D
theorem own_fld {Z : State} {args : Array Value} {t : Term} {C n d : String} {k : Int32} {x : Addr} (ht : t.eval args Z none [] Z = some (.ref x)) (h : (Jvm.Cond.eq (Term.field t C n d) (Term.int k)).value args Z none Z [] = some true) : Fld Z Z.heap x C n d (.int k) := by
  refine Fld.start ?_
  have e := fld_at (C := C) (n := n) (dd := d) ht
  obtain ⟨u, w, e1, e2, -, -⟩ := cmp_v (Or.inl h)
  rw [e] at e1
  have e3 : (Term.int k).eval args Z none [] Z = some (.int k) := Term.int_eval k
  cases e3.symm.trans e2
  have e4 : (Term.field t C n d).eval args Z none [] Z = some u := e.trans e1
  have h' := h
  cases u <;> simp [Jvm.Cond.value, e4, e3] at h'
  subst h'
  exact e1
theorem own_eqI {Z : State} {args : Array Value} {t : Term} {k : Int32} (h : (Jvm.Cond.eq t (Term.int k)).value args Z none Z [] = some true) : t.eval args Z none [] Z = some (.int k) := by
  obtain ⟨u, w, e1, e2, -, -⟩ := cmp_v (Or.inl h)
  have e3 : (Term.int k).eval args Z none [] Z = some (.int k) := Term.int_eval k
  cases e3.symm.trans e2
  have h' := h
  cases u <;> simp [Jvm.Cond.value, e1, e3] at h'
  subst h'
  exact e1
theorem own_maskHi (x m : Int32) (k : Nat) (hk : k ≤ 31) (hm : m.toBitVec.toNat = 2 ^ k - 1) : (x &&& m).toInt < ((2 ^ k : Nat) : Int) := by
  rw [c_mask x m k hk hm]; exact Int.emod_lt_of_pos _ (Int.natCast_pos.mpr (Nat.two_pow_pos k))
theorem own_maskLo (x m : Int32) (k : Nat) (hk : k ≤ 31) (hm : m.toBitVec.toNat = 2 ^ k - 1) : 0 ≤ (x &&& m).toInt := by
  rw [c_mask x m k hk hm]; exact Int.emod_nonneg _ (Int.natCast_ne_zero.mpr (Nat.ne_of_gt (Nat.two_pow_pos k)))
theorem own_remLo (x y : Int32) (hx : 0 ≤ x.toInt) (hy : 0 < y.toInt) : 0 ≤ (x % y).toInt := ((c_iremV x y).1 hx hy).1
theorem own_remHi (x y : Int32) (hx : 0 ≤ x.toInt) (hy : 0 < y.toInt) : (x % y).toInt < y.toInt := ((c_iremV x y).1 hx hy).2.1
theorem own_nf {s : State} {args : Array Value} {C : String} {z y : MethodName} (hsel : (Jvm.Cond.selects C z z).before args s = true) (e : z.cls = y.cls) : NotFace s y := fun r0 h0 => by
  obtain ⟨c2, r2, m2, -, -, q3, -, kP, hkP, hkPi⟩ := Cond.selects_spec hsel
  have a := findClass_of_methodNamed q3
  rw [e] at a
  have b : m2.cls = r0.cls := Option.some.inj (a.symm.trans (findClass_of_methodNamed h0))
  exact ⟨kP, b ▸ hkP, hkPi⟩
theorem own_privateBack {p : Program} {l : Launch} {e : Env} {R : Room} {s : State} {m : MethodId} {args : Array Value} {below : List Frame} {meth : Method} {c : Code} {T : State} {locs : List Loc} {cells slots : Nat} (X : Stand p l e R s m args below meth c T locs cells slots) (hexec : p.tables.exec = Jvm.exec) {own : String} {index : Nat} {y : MethodName} {bytes : ByteArray} {maxL : Nat} {ret : Option FieldType}
    (hown : s.vm.findClass own = some m.cls) (hlink : (Jvm.Cond.methodLink own index y).before args s = true) (hinst : (Jvm.Cond.instanceMethod y).before args s = true) (hnf : NotFace s y)
    (hpriv : s.PrivateAt y) (hcode : (Jvm.Cond.code y bytes maxL ret).before args s = true) (hy : y.cls ≠ "java/lang/invoke/MethodHandle" ∧ y.cls ≠ "java/lang/invoke/VarHandle")
    {W : Nat} {Pre : Pt → Array Value → Prop} {Post : Pt → Array Value → Option Value → Pt → Prop} (hK : Back l R p e below s args y 3 W Pre Post)
    {g : JFrame} (hg : g.method = m) (hsize : g.locals.size = c.maxLocals) {s₀ : State} (hcome : Steps p.tables e below s₀ (T.setTop g)) {a : Addr} {cell : Cell} (hcell : T.heap[a]? = some cell) (hobj : ∀ q, cell.vm ≠ .statics q)
    {argsL rest : List Value} (hlen : ∀ sig, parseMethodDescriptor y.desc = some sig → argsL.length = sig.parameters.length)
    (hstack : g.stack = argsL.reverse ++ .ref a :: rest) (hW : 2 * g.monitorRoom + (rest.map fun v => v.category).sum ≤ W) (hdg : decode c.code g.pc = .ok (.invokevirtual index, 3))
    (hpre : ∀ vm₁, s.WarmedH vm₁ → Pre ⟨T.setVm vm₁, locs, cells, slots⟩ (.ref a :: argsL).toArray) :
    ∃ (v : Option Value) (vm₁ : Vm) (B : Pt), s.WarmedH vm₁ ∧ Stand p l e R s m args below meth c B.U B.locs B.cells B.slots ∧ Post ⟨T.setVm vm₁, locs, cells, slots⟩ (.ref a :: argsL).toArray v B ∧
      Steps p.tables e below s₀ (B.U.setTop { g with pc := g.pc + 3, stack := v.toList ++ rest }) := by
  obtain ⟨mk, methM, hnamed, hmethM, hstM, habM⟩ := Cond.instanceMethod_spec hinst
  obtain ⟨_, _, hmeth2, -, -, -, -, -, -, hsigM⟩ := Cond.code_spec hnamed hcode
  cases hmethM.symm.trans hmeth2
  obtain ⟨kP, hkP, hkPi⟩ := hnf mk hnamed
  have hselP : selectMethod e.platform s.vm cell.cls mk = .method mk := selectMethod_private hmethM (hpriv mk methM hnamed hmethM)
  obtain ⟨vm₁, X₁, hstep₁⟩ := X.invokevirtual hexec hown hlink hnamed hmethM hstM hkP hkPi hy (a := a) (cell := cell) hcell hobj hselP hmethM habM hkP hkPi (g := g) hg (argsL := argsL) (rest := rest) (hlen _ hsigM) hstack hdg
  obtain ⟨v, B, X2, hpost, hsteps⟩ := hK m meth c ⟨T.setVm vm₁, locs, cells, slots⟩ { g with stack := rest } (.invokevirtual index) mk (.ref a :: argsL).toArray X₁ hg hsize hdg hW (X₁.named hnamed) (hpre vm₁ X₁.warmed)
  exact ⟨v, vm₁, B, X₁.warmed, X2, hpost, (hcome.trans (hstep₁ _ fun acts => by rw [doInvoke_state]; exact Steps.refl _)).trans hsteps⟩
theorem own_staKeep {Z : State} {h h' : Heap} {C n d : String} {v : Value} {ws : List Addr} (F : Sta Z h C n d v) (K : Keep h h' ws) (hn : ∀ x ∈ ws, ∀ cell : Cell, h[x]? = some cell → cell.vm.isStatics = false) : Sta Z h' C n d v := by
  obtain ⟨cf, i, k, f, st, cell, h1, h2, h3, h4, h5, h6, h7⟩ := F
  exact ⟨cf, i, k, f, st, cell, h1, h2, h3, h4, K.2.1 _ _ h5 (fun q => by rw [hn st q cell h5] at h6; cases h6), h6, h7⟩
theorem ef_0 (m : MethodId) (x0 : Int32) (x1 : Int32) (x2 : Int32) : entryFrame m #[(.int x0), (.int x1), (.int x2)] maxLocals = mkF m 0 #[.val (.int x0), .val (.int x1), .val (.int x2), .unset, .unset, .unset, .unset] [] := by first | (simp [entryFrame, mkF, argsToLocals, Value.category, maxLocals]; done) | rfl
theorem pn_0 : plainName "com/example/ballotwire/ballotwire/simulator/SchedulePinLaw_RanksAllowsPinLaw" = true := by first | (simp [plainName, overriddenIn]; done) | decide +kernel
theorem own_lt4 (e : Int32) (h0 : 0 ≤ e.toInt) (h1 : e.toInt < 4) : e = (0 : Int32) ∨ e = (1 : Int32) ∨ e = (2 : Int32) ∨ e = (3 : Int32) := by
  have h2 : e.toInt = 0 ∨ e.toInt = 1 ∨ e.toInt = 2 ∨ e.toInt = 3 := by omega
  rcases h2 with h | h | h | h
  · exact (Or.inl (Int32.toInt_inj.mp (h.trans (by decide))))
  · exact (Or.inr (Or.inl (Int32.toInt_inj.mp (h.trans (by decide)))))
  · exact (Or.inr (Or.inr (Or.inl (Int32.toInt_inj.mp (h.trans (by decide))))))
  · exact (Or.inr (Or.inr (Or.inr (Int32.toInt_inj.mp (h.trans (by decide))))))
theorem d_prog_88_method_4_0 : decode prog_88_method_4_code 0 = .ok (.iload_n 1, 1) := by decide +kernel
theorem d_prog_88_method_4_1 : decode prog_88_method_4_code 1 = .ok (.aload_n 0, 1) := by decide +kernel
theorem d_prog_88_method_4_2 : decode prog_88_method_4_code 2 = .ok (.getfield 35, 3) := by decide +kernel
theorem d_prog_88_method_4_5 : decode prog_88_method_4_code 5 = .ok (.if_icmp .lt 15, 3) := by decide +kernel
theorem d_prog_88_method_4_8 : decode prog_88_method_4_code 8 = .ok (.iload_n 1, 1) := by decide +kernel
theorem d_prog_88_method_4_9 : decode prog_88_method_4_code 9 = .ok (.aload_n 0, 1) := by decide +kernel
theorem d_prog_88_method_4_10 : decode prog_88_method_4_code 10 = .ok (.getfield 39, 3) := by decide +kernel
theorem d_prog_88_method_4_13 : decode prog_88_method_4_code 13 = .ok (.if_icmp .gt 7, 3) := by decide +kernel
theorem d_prog_88_method_4_16 : decode prog_88_method_4_code 16 = .ok (.iconst 1, 1) := by decide +kernel
theorem d_prog_88_method_4_17 : decode prog_88_method_4_code 17 = .ok (.goto 4, 3) := by decide +kernel
theorem d_prog_88_method_4_21 : decode prog_88_method_4_code 21 = .ok (.ireturn, 1) := by decide +kernel
theorem ef_1 (m : MethodId) (x0 : Addr) : entryFrame m #[(.ref x0), (.int (0 : Int32))] 2 = mkF m 0 #[.val (.ref x0), .val (.int (0 : Int32))] [] := by first | (simp [entryFrame, mkF, argsToLocals, Value.category, maxLocals]; done) | rfl
theorem pn_1 : plainName "com/example/ballotwire/ballotwire/simulator/Schedule$Ranks" = true := by first | (simp [plainName, overriddenIn]; done) | decide +kernel
def Q1 (Z : State) (a1 : Addr) (h0 : Heap) (n0 : Nat) (v : Option Value) (h : Heap) (L : List Loc) : Prop := v = some (.int (1 : Int32)) ∧ Fr n0 L ∧ h = h0
set_option maxRecDepth 65536 in
set_option maxHeartbeats 40000000 in
theorem rm1 (l : Launch) (Z : State) (a0 : Array Value) (hw : ∀ d ∈ tables_1, d.before a0 Z = true) (ws : List Jvm.Cond) (a1 : Addr) (h0 : Heap) (n0 : Nat) (Z0 : n0 ≤ h0.size) (F_fewest_a1 : Fld Z h0 a1 "com/example/ballotwire/ballotwire/simulator/Schedule$Ranks" "fewest" "I" (.int (0 : Int32))) (F_most_a1 : Fld Z h0 a1 "com/example/ballotwire/ballotwire/simulator/Schedule$Ranks" "most" "I" (.int (0 : Int32))) :
    MetFree l (⟨"com/example/ballotwire/ballotwire/simulator/Schedule$Ranks", "allows", "(I)Z"⟩ : MethodName) (head1 (Jvm.Cond.code (⟨"com/example/ballotwire/ballotwire/simulator/Schedule$Ranks", "allows", "(I)Z"⟩ : MethodName) prog_88_method_4_code 2 (some .boolean) :: ws) ({ frames := 0, cells := 0, slots := 0, locals := 0 } : Room)) (fun a U => a = #[(.ref a1), (.int (0 : Int32))] ∧ Z.Warmed39 U.vm ∧ U.heap = h0) (fun _ _ _ _ _ => True) (fun _ U o U' => ∃ v L, o = .returned v ∧ Q1 Z a1 h0 n0 v U'.heap L ∧ FrameEnd U o U' L ({ frames := 0, cells := 0, slots := 0, locals := 0 } : Room).cells ({ frames := 0, cells := 0, slots := 0, locals := 0 } : Room).slots) := by
  refine MetFree.of_bodySF (plainFor_of_name pn_1) hisR ?_
  intro p e s m args below meth c s₁ Bd hml0 hP hK
  obtain ⟨rfl, hZ, hh⟩ := hP
  have hx := Bd.exec
  have hby := Bd.bytes
  have hml : c.maxLocals = 2 := hml0
  have hown : s.vm.findClass "com/example/ballotwire/ballotwire/simulator/Schedule$Ranks" = some m.cls := findClass_of_methodNamed Bd.named
  have hnm := (name_of_methodNamed Bd.named Bd.method).1
  have X0 : Stand p l e ({ frames := 0, cells := 0, slots := 0, locals := 0 } : Room) s m #[(.ref a1), (.int (0 : Int32))] below meth c s₁ [] 0 0 := Stand.of_body Bd
  have e0 : s₁.heap = h0 := by rw [← hh, Bd.state]; rfl
  have N0 := Fr.nil n0
  have pre0 : ∀ t, Steps p.tables e below (s₁.setTop (mkF m 0 #[.val (.ref a1), .val (.int (0 : Int32))] [])) t → Steps p.tables e below (s₁.setTop (entryFrame m #[(.ref a1), (.int (0 : Int32))] 2)) t := fun t k => castTop (ef_1 m a1) k
  obtain ⟨T2, X2, e2, st2⟩ := getF X0 hx hZ hown (host := "") (Or.inl (hw _ (List.mem_of_getElem? (i := 8) rfl))) Via.refl e0 F_fewest_a1 (g := (mkF m 2 #[.val (.ref a1), .val (.int (0 : Int32))] [(.ref a1), (.int (0 : Int32))])) rfl rfl (hb hby d_prog_88_method_4_2)
  obtain ⟨T3, X3, e3, st3⟩ := getF X2 hx hZ hown (host := "") (Or.inl (hw _ (List.mem_of_getElem? (i := 10) rfl))) Via.refl e2 F_most_a1 (g := (mkF m 10 #[.val (.ref a1), .val (.int (0 : Int32))] [(.ref a1), (.int (0 : Int32))])) rfl rfl (hb hby d_prog_88_method_4_10)
  have pre4 : ∀ t, Steps p.tables e below (T3.setTop (mkF m 21 #[.val (.ref a1), .val (.int (0 : Int32))] [(.int (1 : Int32))])) t → Steps p.tables e below (s₁.setTop (entryFrame m #[(.ref a1), (.int (0 : Int32))] 2)) t := fun t kk => pre0 t (by
    show Steps p.tables e below (s₁.setTop (mkF m 0 #[.val (.ref a1), .val (.int (0 : Int32))] [])) _
    refine XS.iloadN X0.here hx rfl (hb hby d_prog_88_method_4_0) rfl ?_
    show Steps p.tables e below (s₁.setTop (mkF m 1 #[.val (.ref a1), .val (.int (0 : Int32))] [(.int (0 : Int32))])) _
    refine XS.aloadN X0.here hx rfl (hb hby d_prog_88_method_4_1) rfl rfl ?_
    show Steps p.tables e below (s₁.setTop (mkF m 2 #[.val (.ref a1), .val (.int (0 : Int32))] [(.ref a1), (.int (0 : Int32))])) _
    refine st2 _ ?_
    show Steps p.tables e below (T2.setTop (mkF m 5 #[.val (.ref a1), .val (.int (0 : Int32))] [(.int (0 : Int32)), (.int (0 : Int32))])) _
    refine XS.icmpNo X2.here hx rfl (hb hby d_prog_88_method_4_5) rfl (flt ((by decide) : ¬ ((0 : Int32) < (0 : Int32)))).1 ?_
    show Steps p.tables e below (T2.setTop (mkF m 8 #[.val (.ref a1), .val (.int (0 : Int32))] [])) _
    refine XS.iloadN X2.here hx rfl (hb hby d_prog_88_method_4_8) rfl ?_
    show Steps p.tables e below (T2.setTop (mkF m 9 #[.val (.ref a1), .val (.int (0 : Int32))] [(.int (0 : Int32))])) _
    refine XS.aloadN X2.here hx rfl (hb hby d_prog_88_method_4_9) rfl rfl ?_
    show Steps p.tables e below (T2.setTop (mkF m 10 #[.val (.ref a1), .val (.int (0 : Int32))] [(.ref a1), (.int (0 : Int32))])) _
    refine st3 _ ?_
    show Steps p.tables e below (T3.setTop (mkF m 13 #[.val (.ref a1), .val (.int (0 : Int32))] [(.int (0 : Int32)), (.int (0 : Int32))])) _
    refine XS.icmpNo X3.here hx rfl (hb hby d_prog_88_method_4_13) rfl (flt ((by decide) : ¬ ((0 : Int32) < (0 : Int32)))).2.2.1 ?_
    show Steps p.tables e below (T3.setTop (mkF m 16 #[.val (.ref a1), .val (.int (0 : Int32))] [])) _
    refine XS.iconst X3.here hx rfl (hb hby d_prog_88_method_4_16) ?_
    show Steps p.tables e below (T3.setTop (mkF m 17 #[.val (.ref a1), .val (.int (0 : Int32))] [(.int (1 : Int32))])) _
    refine XS.goto X3.here hx rfl (pc0 := 17) (pc' := 21) rfl (hb hby d_prog_88_method_4_17) (by decide) (by decide) ?_
    exact kk)
  obtain ⟨fs, hr, hrun, hended, hW, hsame⟩ := X3.leave (v := some (.int (1 : Int32))) (fun h => by rw [Bd.returns] at h; cases h)
  refine ⟨_, _, pre4 _ ?_, hrun, hended, _, _, rfl, ?_, ⟨_, rfl⟩, hW, hsame.mono (by decide) (by decide)⟩
  · exact retN X3 hx (t := .boolean) Bd.returns (by simp) (hb hby d_prog_88_method_4_21) hr
  · show Q1 Z a1 h0 n0 _ T3.heap _
    rw [e3]
    exact ⟨rfl, N0, rfl⟩
theorem pd_0 : parseMethodDescriptor "(I)Z" = some ⟨[.int], some .boolean⟩ := by decide +kernel
theorem d_prog_88_method_4_20 : decode prog_88_method_4_code 20 = .ok (.iconst 0, 1) := by decide +kernel
theorem ef_2 (m : MethodId) (x0 : Addr) (x1 : Int32) : entryFrame m #[(.ref x0), (.int x1)] 2 = mkF m 0 #[.val (.ref x0), .val (.int x1)] [] := by first | (simp [entryFrame, mkF, argsToLocals, Value.category, maxLocals]; done) | rfl
def Q2 (Z : State) (a1 : Addr) (p2 : Int32) (h0 : Heap) (n0 : Nat) (v : Option Value) (h : Heap) (L : List Loc) : Prop := v = some (.int (0 : Int32)) ∧ Fr n0 L ∧ h = h0
set_option maxRecDepth 65536 in
set_option maxHeartbeats 40000000 in
theorem rm2 (l : Launch) (Z : State) (a0 : Array Value) (hw : ∀ d ∈ tables_1, d.before a0 Z = true) (ws : List Jvm.Cond) (a1 : Addr) (p2 : Int32) (h0 : Heap) (n0 : Nat) (Z0 : n0 ≤ h0.size) (F_fewest_a1 : Fld Z h0 a1 "com/example/ballotwire/ballotwire/simulator/Schedule$Ranks" "fewest" "I" (.int (0 : Int32))) (hc4 : p2 < (0 : Int32)) :
    MetFree l (⟨"com/example/ballotwire/ballotwire/simulator/Schedule$Ranks", "allows", "(I)Z"⟩ : MethodName) (head1 (Jvm.Cond.code (⟨"com/example/ballotwire/ballotwire/simulator/Schedule$Ranks", "allows", "(I)Z"⟩ : MethodName) prog_88_method_4_code 2 (some .boolean) :: ws) ({ frames := 0, cells := 0, slots := 0, locals := 0 } : Room)) (fun a U => a = #[(.ref a1), (.int p2)] ∧ Z.Warmed39 U.vm ∧ U.heap = h0) (fun _ _ _ _ _ => True) (fun _ U o U' => ∃ v L, o = .returned v ∧ Q2 Z a1 p2 h0 n0 v U'.heap L ∧ FrameEnd U o U' L ({ frames := 0, cells := 0, slots := 0, locals := 0 } : Room).cells ({ frames := 0, cells := 0, slots := 0, locals := 0 } : Room).slots) := by
  refine MetFree.of_bodySF (plainFor_of_name pn_1) hisR ?_
  intro p e s m args below meth c s₁ Bd hml0 hP hK
  obtain ⟨rfl, hZ, hh⟩ := hP
  have hx := Bd.exec
  have hby := Bd.bytes
  have hml : c.maxLocals = 2 := hml0
  have hown : s.vm.findClass "com/example/ballotwire/ballotwire/simulator/Schedule$Ranks" = some m.cls := findClass_of_methodNamed Bd.named
  have hnm := (name_of_methodNamed Bd.named Bd.method).1
  have X0 : Stand p l e ({ frames := 0, cells := 0, slots := 0, locals := 0 } : Room) s m #[(.ref a1), (.int p2)] below meth c s₁ [] 0 0 := Stand.of_body Bd
  have e0 : s₁.heap = h0 := by rw [← hh, Bd.state]; rfl
  have N0 := Fr.nil n0
  have pre0 : ∀ t, Steps p.tables e below (s₁.setTop (mkF m 0 #[.val (.ref a1), .val (.int p2)] [])) t → Steps p.tables e below (s₁.setTop (entryFrame m #[(.ref a1), (.int p2)] 2)) t := fun t k => castTop (ef_2 m a1 (p2)) k
  obtain ⟨T3, X3, e3, st3⟩ := getF X0 hx hZ hown (host := "") (Or.inl (hw _ (List.mem_of_getElem? (i := 8) rfl))) Via.refl e0 F_fewest_a1 (g := (mkF m 2 #[.val (.ref a1), .val (.int p2)] [(.ref a1), (.int p2)])) rfl rfl (hb hby d_prog_88_method_4_2)
  have pre5 : ∀ t, Steps p.tables e below (T3.setTop (mkF m 21 #[.val (.ref a1), .val (.int p2)] [(.int (0 : Int32))])) t → Steps p.tables e below (s₁.setTop (entryFrame m #[(.ref a1), (.int p2)] 2)) t := fun t kk => pre0 t (by
    show Steps p.tables e below (s₁.setTop (mkF m 0 #[.val (.ref a1), .val (.int p2)] [])) _
    refine XS.iloadN X0.here hx rfl (hb hby d_prog_88_method_4_0) rfl ?_
    show Steps p.tables e below (s₁.setTop (mkF m 1 #[.val (.ref a1), .val (.int p2)] [(.int p2)])) _
    refine XS.aloadN X0.here hx rfl (hb hby d_prog_88_method_4_1) rfl rfl ?_
    show Steps p.tables e below (s₁.setTop (mkF m 2 #[.val (.ref a1), .val (.int p2)] [(.ref a1), (.int p2)])) _
    refine st3 _ ?_
    show Steps p.tables e below (T3.setTop (mkF m 5 #[.val (.ref a1), .val (.int p2)] [(.int (0 : Int32)), (.int p2)])) _
    refine XS.icmpYes X3.here hx rfl (pc0 := 5) (pc' := 20) rfl (hb hby d_prog_88_method_4_5) rfl (tlt (hc4 : p2 < (0 : Int32))).1 (by decide) (by decide) ?_
    show Steps p.tables e below (T3.setTop (mkF m 20 #[.val (.ref a1), .val (.int p2)] [])) _
    refine XS.iconst X3.here hx rfl (hb hby d_prog_88_method_4_20) ?_
    exact kk)
  obtain ⟨fs, hr, hrun, hended, hW, hsame⟩ := X3.leave (v := some (.int (0 : Int32))) (fun h => by rw [Bd.returns] at h; cases h)
  refine ⟨_, _, pre5 _ ?_, hrun, hended, _, _, rfl, ?_, ⟨_, rfl⟩, hW, hsame.mono (by decide) (by decide)⟩
  · exact retN X3 hx (t := .boolean) Bd.returns (by simp) (hb hby d_prog_88_method_4_21) hr
  · show Q2 Z a1 p2 h0 n0 _ T3.heap _
    rw [e3]
    exact ⟨rfl, N0, rfl⟩
theorem own_ar0 (x1 : Int32) (h0 : ¬ (((x1 &&& (7 : Int32)) - (3 : Int32)) = (0 : Int32))) (h1 : ¬ (((x1 &&& (7 : Int32)) - (3 : Int32)) < (0 : Int32))) : (0 : Int32) < ((x1 &&& (7 : Int32)) - (3 : Int32)) := by
  refine Int32.lt_iff_toInt_lt.mpr ?_
  have k0 : ¬ (((x1 &&& (7 : Int32)) - (3 : Int32)).toInt = (0 : Int32).toInt) := fun q => h0 (Int32.toInt_inj.mp q)
  have k1 : ¬ (((x1 &&& (7 : Int32)) - (3 : Int32)).toInt < (0 : Int32).toInt) := fun q => h1 (Int32.lt_iff_toInt_lt.mpr q)
  have z0 := rng32 x1
  have z1 : (7 : Int32).toInt = 7 := by decide
  have z2 := rng32 (x1 &&& (7 : Int32))
  have z3 : (x1 &&& (7 : Int32)).toInt = x1.toInt % 8 := c_mask x1 (7 : Int32) 3 (by decide) (by decide)
  have z4 : (3 : Int32).toInt = 3 := by decide
  have z5 := rng32 ((x1 &&& (7 : Int32)) - (3 : Int32))
  have z6 := c_isub (x1 &&& (7 : Int32)) (3 : Int32)
  have z7 : ((x1 &&& (7 : Int32)) - (3 : Int32)).toInt = (x1 &&& (7 : Int32)).toInt - (3 : Int32).toInt := by omega
  clear z6
  have z9 : (0 : Int32).toInt = 0 := by decide
  clear h0 h1
  try generalize ((x1 &&& (7 : Int32)) - (3 : Int32)).toInt = t0 at *
  try generalize (x1 &&& (7 : Int32)).toInt = t1 at *
  try generalize (7 : Int32).toInt = t2 at *
  try generalize (3 : Int32).toInt = t3 at *
  try generalize (0 : Int32).toInt = t4 at *
  try generalize x1.toInt = t5 at *
  omega
def Q3 (Z : State) (a1 : Addr) (p2 : Int32) (h0 : Heap) (n0 : Nat) (v : Option Value) (h : Heap) (L : List Loc) : Prop := v = some (.int (0 : Int32)) ∧ Fr n0 L ∧ h = h0
set_option maxRecDepth 65536 in
set_option maxHeartbeats 40000000 in
theorem rm3 (l : Launch) (Z : State) (a0 : Array Value) (hw : ∀ d ∈ tables_1, d.before a0 Z = true) (ws : List Jvm.Cond) (a1 : Addr) (p2 : Int32) (h0 : Heap) (n0 : Nat) (Z0 : n0 ≤ h0.size) (F_fewest_a1 : Fld Z h0 a1 "com/example/ballotwire/ballotwire/simulator/Schedule$Ranks" "fewest" "I" (.int (0 : Int32))) (hc4 : ¬ (p2 < (0 : Int32))) (F_most_a1 : Fld Z h0 a1 "com/example/ballotwire/ballotwire/simulator/Schedule$Ranks" "most" "I" (.int (0 : Int32))) (hc6 : (0 : Int32) < p2) :
    MetFree l (⟨"com/example/ballotwire/ballotwire/simulator/Schedule$Ranks", "allows", "(I)Z"⟩ : MethodName) (head1 (Jvm.Cond.code (⟨"com/example/ballotwire/ballotwire/simulator/Schedule$Ranks", "allows", "(I)Z"⟩ : MethodName) prog_88_method_4_code 2 (some .boolean) :: ws) ({ frames := 0, cells := 0, slots := 0, locals := 0 } : Room)) (fun a U => a = #[(.ref a1), (.int p2)] ∧ Z.Warmed39 U.vm ∧ U.heap = h0) (fun _ _ _ _ _ => True) (fun _ U o U' => ∃ v L, o = .returned v ∧ Q3 Z a1 p2 h0 n0 v U'.heap L ∧ FrameEnd U o U' L ({ frames := 0, cells := 0, slots := 0, locals := 0 } : Room).cells ({ frames := 0, cells := 0, slots := 0, locals := 0 } : Room).slots) := by
  refine MetFree.of_bodySF (plainFor_of_name pn_1) hisR ?_
  intro p e s m args below meth c s₁ Bd hml0 hP hK
  obtain ⟨rfl, hZ, hh⟩ := hP
  have hx := Bd.exec
  have hby := Bd.bytes
  have hml : c.maxLocals = 2 := hml0
  have hown : s.vm.findClass "com/example/ballotwire/ballotwire/simulator/Schedule$Ranks" = some m.cls := findClass_of_methodNamed Bd.named
  have hnm := (name_of_methodNamed Bd.named Bd.method).1
  have X0 : Stand p l e ({ frames := 0, cells := 0, slots := 0, locals := 0 } : Room) s m #[(.ref a1), (.int p2)] below meth c s₁ [] 0 0 := Stand.of_body Bd
  have e0 : s₁.heap = h0 := by rw [← hh, Bd.state]; rfl
  have N0 := Fr.nil n0
  have pre0 : ∀ t, Steps p.tables e below (s₁.setTop (mkF m 0 #[.val (.ref a1), .val (.int p2)] [])) t → Steps p.tables e below (s₁.setTop (entryFrame m #[(.ref a1), (.int p2)] 2)) t := fun t k => castTop (ef_2 m a1 (p2)) k
  obtain ⟨T3, X3, e3, st3⟩ := getF X0 hx hZ hown (host := "") (Or.inl (hw _ (List.mem_of_getElem? (i := 8) rfl))) Via.refl e0 F_fewest_a1 (g := (mkF m 2 #[.val (.ref a1), .val (.int p2)] [(.ref a1), (.int p2)])) rfl rfl (hb hby d_prog_88_method_4_2)
  obtain ⟨T5, X5, e5, st5⟩ := getF X3 hx hZ hown (host := "") (Or.inl (hw _ (List.mem_of_getElem? (i := 10) rfl))) Via.refl e3 F_most_a1 (g := (mkF m 10 #[.val (.ref a1), .val (.int p2)] [(.ref a1), (.int p2)])) rfl rfl (hb hby d_prog_88_method_4_10)
  have pre7 : ∀ t, Steps p.tables e below (T5.setTop (mkF m 21 #[.val (.ref a1), .val (.int p2)] [(.int (0 : Int32))])) t → Steps p.tables e below (s₁.setTop (entryFrame m #[(.ref a1), (.int p2)] 2)) t := fun t kk => pre0 t (by
    show Steps p.tables e below (s₁.setTop (mkF m 0 #[.val (.ref a1), .val (.int p2)] [])) _
    refine XS.iloadN X0.here hx rfl (hb hby d_prog_88_method_4_0) rfl ?_
    show Steps p.tables e below (s₁.setTop (mkF m 1 #[.val (.ref a1), .val (.int p2)] [(.int p2)])) _
    refine XS.aloadN X0.here hx rfl (hb hby d_prog_88_method_4_1) rfl rfl ?_
    show Steps p.tables e below (s₁.setTop (mkF m 2 #[.val (.ref a1), .val (.int p2)] [(.ref a1), (.int p2)])) _
    refine st3 _ ?_
    show Steps p.tables e below (T3.setTop (mkF m 5 #[.val (.ref a1), .val (.int p2)] [(.int (0 : Int32)), (.int p2)])) _
    refine XS.icmpNo X3.here hx rfl (hb hby d_prog_88_method_4_5) rfl (flt (hc4 : ¬ (p2 < (0 : Int32)))).1 ?_
    show Steps p.tables e below (T3.setTop (mkF m 8 #[.val (.ref a1), .val (.int p2)] [])) _
    refine XS.iloadN X3.here hx rfl (hb hby d_prog_88_method_4_8) rfl ?_
    show Steps p.tables e below (T3.setTop (mkF m 9 #[.val (.ref a1), .val (.int p2)] [(.int p2)])) _
    refine XS.aloadN X3.here hx rfl (hb hby d_prog_88_method_4_9) rfl rfl ?_
    show Steps p.tables e below (T3.setTop (mkF m 10 #[.val (.ref a1), .val (.int p2)] [(.ref a1), (.int p2)])) _
    refine st5 _ ?_
    show Steps p.tables e below (T5.setTop (mkF m 13 #[.val (.ref a1), .val (.int p2)] [(.int (0 : Int32)), (.int p2)])) _
    refine XS.icmpYes X5.here hx rfl (pc0 := 13) (pc' := 20) rfl (hb hby d_prog_88_method_4_13) rfl (tlt (hc6 : (0 : Int32) < p2)).2.2.1 (by decide) (by decide) ?_
    show Steps p.tables e below (T5.setTop (mkF m 20 #[.val (.ref a1), .val (.int p2)] [])) _
    refine XS.iconst X5.here hx rfl (hb hby d_prog_88_method_4_20) ?_
    exact kk)
  obtain ⟨fs, hr, hrun, hended, hW, hsame⟩ := X5.leave (v := some (.int (0 : Int32))) (fun h => by rw [Bd.returns] at h; cases h)
  refine ⟨_, _, pre7 _ ?_, hrun, hended, _, _, rfl, ?_, ⟨_, rfl⟩, hW, hsame.mono (by decide) (by decide)⟩
  · exact retN X5 hx (t := .boolean) Bd.returns (by simp) (hb hby d_prog_88_method_4_21) hr
  · show Q3 Z a1 p2 h0 n0 _ T5.heap _
    rw [e5]
    exact ⟨rfl, N0, rfl⟩
theorem own_ar1 (x1 : Int32) (h0 : x1 = (0 : Int32)) : ¬ (x1 < (0 : Int32)) := by
  refine fun q => ?_
  have q' : x1.toInt < (0 : Int32).toInt := Int32.lt_iff_toInt_lt.mp q
  have k0 : x1.toInt = (0 : Int32).toInt := congrArg Int32.toInt h0
  have z0 := rng32 x1
  have z1 : (0 : Int32).toInt = 0 := by decide
  clear h0 q
  try generalize (0 : Int32).toInt = t0 at *
  try generalize x1.toInt = t1 at *
  omega
theorem own_ar2 (x1 : Int32) (h0 : x1 = (0 : Int32)) : ¬ ((0 : Int32) < x1) := by
  refine fun q => ?_
  have q' : (0 : Int32).toInt < x1.toInt := Int32.lt_iff_toInt_lt.mp q
  have k0 : x1.toInt = (0 : Int32).toInt := congrArg Int32.toInt h0
  have z0 := rng32 x1
  have z1 : (0 : Int32).toInt = 0 := by decide
  clear h0 q
  try generalize (0 : Int32).toInt = t0 at *
  try generalize x1.toInt = t1 at *
  omega
def Q4 (Z : State) (a1 : Addr) (p2 : Int32) (h0 : Heap) (n0 : Nat) (v : Option Value) (h : Heap) (L : List Loc) : Prop := v = some (.int (1 : Int32)) ∧ Fr n0 L ∧ h = h0
set_option maxRecDepth 65536 in
set_option maxHeartbeats 40000000 in
theorem rm4 (l : Launch) (Z : State) (a0 : Array Value) (hw : ∀ d ∈ tables_1, d.before a0 Z = true) (ws : List Jvm.Cond) (a1 : Addr) (p2 : Int32) (h0 : Heap) (n0 : Nat) (Z0 : n0 ≤ h0.size) (F_fewest_a1 : Fld Z h0 a1 "com/example/ballotwire/ballotwire/simulator/Schedule$Ranks" "fewest" "I" (.int (0 : Int32))) (hc4 : ¬ (p2 < (0 : Int32))) (F_most_a1 : Fld Z h0 a1 "com/example/ballotwire/ballotwire/simulator/Schedule$Ranks" "most" "I" (.int (0 : Int32))) (hc6 : ¬ ((0 : Int32) < p2)) :
    MetFree l (⟨"com/example/ballotwire/ballotwire/simulator/Schedule$Ranks", "allows", "(I)Z"⟩ : MethodName) (head1 (Jvm.Cond.code (⟨"com/example/ballotwire/ballotwire/simulator/Schedule$Ranks", "allows", "(I)Z"⟩ : MethodName) prog_88_method_4_code 2 (some .boolean) :: ws) ({ frames := 0, cells := 0, slots := 0, locals := 0 } : Room)) (fun a U => a = #[(.ref a1), (.int p2)] ∧ Z.Warmed39 U.vm ∧ U.heap = h0) (fun _ _ _ _ _ => True) (fun _ U o U' => ∃ v L, o = .returned v ∧ Q4 Z a1 p2 h0 n0 v U'.heap L ∧ FrameEnd U o U' L ({ frames := 0, cells := 0, slots := 0, locals := 0 } : Room).cells ({ frames := 0, cells := 0, slots := 0, locals := 0 } : Room).slots) := by
  refine MetFree.of_bodySF (plainFor_of_name pn_1) hisR ?_
  intro p e s m args below meth c s₁ Bd hml0 hP hK
  obtain ⟨rfl, hZ, hh⟩ := hP
  have hx := Bd.exec
  have hby := Bd.bytes
  have hml : c.maxLocals = 2 := hml0
  have hown : s.vm.findClass "com/example/ballotwire/ballotwire/simulator/Schedule$Ranks" = some m.cls := findClass_of_methodNamed Bd.named
  have hnm := (name_of_methodNamed Bd.named Bd.method).1
  have X0 : Stand p l e ({ frames := 0, cells := 0, slots := 0, locals := 0 } : Room) s m #[(.ref a1), (.int p2)] below meth c s₁ [] 0 0 := Stand.of_body Bd
  have e0 : s₁.heap = h0 := by rw [← hh, Bd.state]; rfl
  have N0 := Fr.nil n0
  have pre0 : ∀ t, Steps p.tables e below (s₁.setTop (mkF m 0 #[.val (.ref a1), .val (.int p2)] [])) t → Steps p.tables e below (s₁.setTop (entryFrame m #[(.ref a1), (.int p2)] 2)) t := fun t k => castTop (ef_2 m a1 (p2)) k
  obtain ⟨T3, X3, e3, st3⟩ := getF X0 hx hZ hown (host := "") (Or.inl (hw _ (List.mem_of_getElem? (i := 8) rfl))) Via.refl e0 F_fewest_a1 (g := (mkF m 2 #[.val (.ref a1), .val (.int p2)] [(.ref a1), (.int p2)])) rfl rfl (hb hby d_prog_88_method_4_2)
  obtain ⟨T5, X5, e5, st5⟩ := getF X3 hx hZ hown (host := "") (Or.inl (hw _ (List.mem_of_getElem? (i := 10) rfl))) Via.refl e3 F_most_a1 (g := (mkF m 10 #[.val (.ref a1), .val (.int p2)] [(.ref a1), (.int p2)])) rfl rfl (hb hby d_prog_88_method_4_10)
  have pre7 : ∀ t, Steps p.tables e below (T5.setTop (mkF m 21 #[.val (.ref a1), .val (.int p2)] [(.int (1 : Int32))])) t → Steps p.tables e below (s₁.setTop (entryFrame m #[(.ref a1), (.int p2)] 2)) t := fun t kk => pre0 t (by
    show Steps p.tables e below (s₁.setTop (mkF m 0 #[.val (.ref a1), .val (.int p2)] [])) _
    refine XS.iloadN X0.here hx rfl (hb hby d_prog_88_method_4_0) rfl ?_
    show Steps p.tables e below (s₁.setTop (mkF m 1 #[.val (.ref a1), .val (.int p2)] [(.int p2)])) _
    refine XS.aloadN X0.here hx rfl (hb hby d_prog_88_method_4_1) rfl rfl ?_
    show Steps p.tables e below (s₁.setTop (mkF m 2 #[.val (.ref a1), .val (.int p2)] [(.ref a1), (.int p2)])) _
    refine st3 _ ?_
    show Steps p.tables e below (T3.setTop (mkF m 5 #[.val (.ref a1), .val (.int p2)] [(.int (0 : Int32)), (.int p2)])) _
    refine XS.icmpNo X3.here hx rfl (hb hby d_prog_88_method_4_5) rfl (flt (hc4 : ¬ (p2 < (0 : Int32)))).1 ?_
    show Steps p.tables e below (T3.setTop (mkF m 8 #[.val (.ref a1), .val (.int p2)] [])) _
    refine XS.iloadN X3.here hx rfl (hb hby d_prog_88_method_4_8) rfl ?_
    show Steps p.tables e below (T3.setTop (mkF m 9 #[.val (.ref a1), .val (.int p2)] [(.int p2)])) _
    refine XS.aloadN X3.here hx rfl (hb hby d_prog_88_method_4_9) rfl rfl ?_
    show Steps p.tables e below (T3.setTop (mkF m 10 #[.val (.ref a1), .val (.int p2)] [(.ref a1), (.int p2)])) _
    refine st5 _ ?_
    show Steps p.tables e below (T5.setTop (mkF m 13 #[.val (.ref a1), .val (.int p2)] [(.int (0 : Int32)), (.int p2)])) _
    refine XS.icmpNo X5.here hx rfl (hb hby d_prog_88_method_4_13) rfl (flt (hc6 : ¬ ((0 : Int32) < p2))).2.2.1 ?_
    show Steps p.tables e below (T5.setTop (mkF m 16 #[.val (.ref a1), .val (.int p2)] [])) _
    refine XS.iconst X5.here hx rfl (hb hby d_prog_88_method_4_16) ?_
    show Steps p.tables e below (T5.setTop (mkF m 17 #[.val (.ref a1), .val (.int p2)] [(.int (1 : Int32))])) _
    refine XS.goto X5.here hx rfl (pc0 := 17) (pc' := 21) rfl (hb hby d_prog_88_method_4_17) (by decide) (by decide) ?_
    exact kk)
  obtain ⟨fs, hr, hrun, hended, hW, hsame⟩ := X5.leave (v := some (.int (1 : Int32))) (fun h => by rw [Bd.returns] at h; cases h)
  refine ⟨_, _, pre7 _ ?_, hrun, hended, _, _, rfl, ?_, ⟨_, rfl⟩, hW, hsame.mono (by decide) (by decide)⟩
  · exact retN X5 hx (t := .boolean) Bd.returns (by simp) (hb hby d_prog_88_method_4_21) hr
  · show Q4 Z a1 p2 h0 n0 _ T5.heap _
    rw [e5]
    exact ⟨rfl, N0, rfl⟩
theorem own_ar3 (x1 : Int32) (h0 : ¬ (x1 = (0 : Int32))) (h1 : ¬ (x1 < (0 : Int32))) : (0 : Int32) < x1 := by
  refine Int32.lt_iff_toInt_lt.mpr ?_
  have k0 : ¬ (x1.toInt = (0 : Int32).toInt) := fun q => h0 (Int32.toInt_inj.mp q)
  have k1 : ¬ (x1.toInt < (0 : Int32).toInt) := fun q => h1 (Int32.lt_iff_toInt_lt.mpr q)
  have z0 := rng32 x1
  have z1 : (0 : Int32).toInt = 0 := by decide
  clear h0 h1
  try generalize (0 : Int32).toInt = t0 at *
  try generalize x1.toInt = t1 at *
  omega
theorem ef_3 (m : MethodId) (x0 : Addr) : entryFrame m #[(.ref x0), (.int (1 : Int32))] 2 = mkF m 0 #[.val (.ref x0), .val (.int (1 : Int32))] [] := by first | (simp [entryFrame, mkF, argsToLocals, Value.category, maxLocals]; done) | rfl
def Q5 (Z : State) (a1 : Addr) (h0 : Heap) (n0 : Nat) (v : Option Value) (h : Heap) (L : List Loc) : Prop := v = some (.int (1 : Int32)) ∧ Fr n0 L ∧ h = h0
set_option maxRecDepth 65536 in
set_option maxHeartbeats 40000000 in
theorem rm5 (l : Launch) (Z : State) (a0 : Array Value) (hw : ∀ d ∈ tables_1, d.before a0 Z = true) (ws : List Jvm.Cond) (a1 : Addr) (h0 : Heap) (n0 : Nat) (Z0 : n0 ≤ h0.size) (F_fewest_a1 : Fld Z h0 a1 "com/example/ballotwire/ballotwire/simulator/Schedule$Ranks" "fewest" "I" (.int (1 : Int32))) (F_most_a1 : Fld Z h0 a1 "com/example/ballotwire/ballotwire/simulator/Schedule$Ranks" "most" "I" (.int (1 : Int32))) :
    MetFree l (⟨"com/example/ballotwire/ballotwire/simulator/Schedule$Ranks", "allows", "(I)Z"⟩ : MethodName) (head1 (Jvm.Cond.code (⟨"com/example/ballotwire/ballotwire/simulator/Schedule$Ranks", "allows", "(I)Z"⟩ : MethodName) prog_88_method_4_code 2 (some .boolean) :: ws) ({ frames := 0, cells := 0, slots := 0, locals := 0 } : Room)) (fun a U => a = #[(.ref a1), (.int (1 : Int32))] ∧ Z.Warmed39 U.vm ∧ U.heap = h0) (fun _ _ _ _ _ => True) (fun _ U o U' => ∃ v L, o = .returned v ∧ Q5 Z a1 h0 n0 v U'.heap L ∧ FrameEnd U o U' L ({ frames := 0, cells := 0, slots := 0, locals := 0 } : Room).cells ({ frames := 0, cells := 0, slots := 0, locals := 0 } : Room).slots) := by
  refine MetFree.of_bodySF (plainFor_of_name pn_1) hisR ?_
  intro p e s m args below meth c s₁ Bd hml0 hP hK
  obtain ⟨rfl, hZ, hh⟩ := hP
  have hx := Bd.exec
  have hby := Bd.bytes
  have hml : c.maxLocals = 2 := hml0
  have hown : s.vm.findClass "com/example/ballotwire/ballotwire/simulator/Schedule$Ranks" = some m.cls := findClass_of_methodNamed Bd.named
  have hnm := (name_of_methodNamed Bd.named Bd.method).1
  have X0 : Stand p l e ({ frames := 0, cells := 0, slots := 0, locals := 0 } : Room) s m #[(.ref a1), (.int (1 : Int32))] below meth c s₁ [] 0 0 := Stand.of_body Bd
  have e0 : s₁.heap = h0 := by rw [← hh, Bd.state]; rfl
  have N0 := Fr.nil n0
  have pre0 : ∀ t, Steps p.tables e below (s₁.setTop (mkF m 0 #[.val (.ref a1), .val (.int (1 : Int32))] [])) t → Steps p.tables e below (s₁.setTop (entryFrame m #[(.ref a1), (.int (1 : Int32))] 2)) t := fun t k => castTop (ef_3 m a1) k
  obtain ⟨T2, X2, e2, st2⟩ := getF X0 hx hZ hown (host := "") (Or.inl (hw _ (List.mem_of_getElem? (i := 8) rfl))) Via.refl e0 F_fewest_a1 (g := (mkF m 2 #[.val (.ref a1), .val (.int (1 : Int32))] [(.ref a1), (.int (1 : Int32))])) rfl rfl (hb hby d_prog_88_method_4_2)
  obtain ⟨T3, X3, e3, st3⟩ := getF X2 hx hZ hown (host := "") (Or.inl (hw _ (List.mem_of_getElem? (i := 10) rfl))) Via.refl e2 F_most_a1 (g := (mkF m 10 #[.val (.ref a1), .val (.int (1 : Int32))] [(.ref a1), (.int (1 : Int32))])) rfl rfl (hb hby d_prog_88_method_4_10)
  have pre4 : ∀ t, Steps p.tables e below (T3.setTop (mkF m 21 #[.val (.ref a1), .val (.int (1 : Int32))] [(.int (1 : Int32))])) t → Steps p.tables e below (s₁.setTop (entryFrame m #[(.ref a1), (.int (1 : Int32))] 2)) t := fun t kk => pre0 t (by
    show Steps p.tables e below (s₁.setTop (mkF m 0 #[.val (.ref a1), .val (.int (1 : Int32))] [])) _
    refine XS.iloadN X0.here hx rfl (hb hby d_prog_88_method_4_0) rfl ?_
    show Steps p.tables e below (s₁.setTop (mkF m 1 #[.val (.ref a1), .val (.int (1 : Int32))] [(.int (1 : Int32))])) _
    refine XS.aloadN X0.here hx rfl (hb hby d_prog_88_method_4_1) rfl rfl ?_
    show Steps p.tables e below (s₁.setTop (mkF m 2 #[.val (.ref a1), .val (.int (1 : Int32))] [(.ref a1), (.int (1 : Int32))])) _
    refine st2 _ ?_
    show Steps p.tables e below (T2.setTop (mkF m 5 #[.val (.ref a1), .val (.int (1 : Int32))] [(.int (1 : Int32)), (.int (1 : Int32))])) _
    refine XS.icmpNo X2.here hx rfl (hb hby d_prog_88_method_4_5) rfl (flt ((by decide) : ¬ ((1 : Int32) < (1 : Int32)))).1 ?_
    show Steps p.tables e below (T2.setTop (mkF m 8 #[.val (.ref a1), .val (.int (1 : Int32))] [])) _
    refine XS.iloadN X2.here hx rfl (hb hby d_prog_88_method_4_8) rfl ?_
    show Steps p.tables e below (T2.setTop (mkF m 9 #[.val (.ref a1), .val (.int (1 : Int32))] [(.int (1 : Int32))])) _
    refine XS.aloadN X2.here hx rfl (hb hby d_prog_88_method_4_9) rfl rfl ?_
    show Steps p.tables e below (T2.setTop (mkF m 10 #[.val (.ref a1), .val (.int (1 : Int32))] [(.ref a1), (.int (1 : Int32))])) _
    refine st3 _ ?_
    show Steps p.tables e below (T3.setTop (mkF m 13 #[.val (.ref a1), .val (.int (1 : Int32))] [(.int (1 : Int32)), (.int (1 : Int32))])) _
    refine XS.icmpNo X3.here hx rfl (hb hby d_prog_88_method_4_13) rfl (flt ((by decide) : ¬ ((1 : Int32) < (1 : Int32)))).2.2.1 ?_
    show Steps p.tables e below (T3.setTop (mkF m 16 #[.val (.ref a1), .val (.int (1 : Int32))] [])) _
    refine XS.iconst X3.here hx rfl (hb hby d_prog_88_method_4_16) ?_
    show Steps p.tables e below (T3.setTop (mkF m 17 #[.val (.ref a1), .val (.int (1 : Int32))] [(.int (1 : Int32))])) _
    refine XS.goto X3.here hx rfl (pc0 := 17) (pc' := 21) rfl (hb hby d_prog_88_method_4_17) (by decide) (by decide) ?_
    exact kk)
  obtain ⟨fs, hr, hrun, hended, hW, hsame⟩ := X3.leave (v := some (.int (1 : Int32))) (fun h => by rw [Bd.returns] at h; cases h)
  refine ⟨_, _, pre4 _ ?_, hrun, hended, _, _, rfl, ?_, ⟨_, rfl⟩, hW, hsame.mono (by decide) (by decide)⟩
  · exact retN X3 hx (t := .boolean) Bd.returns (by simp) (hb hby d_prog_88_method_4_21) hr
  · show Q5 Z a1 h0 n0 _ T3.heap _
    rw [e3]
    exact ⟨rfl, N0, rfl⟩
def Q6 (Z : State) (a1 : Addr) (p2 : Int32) (h0 : Heap) (n0 : Nat) (v : Option Value) (h : Heap) (L : List Loc) : Prop := v = some (.int (0 : Int32)) ∧ Fr n0 L ∧ h = h0
set_option maxRecDepth 65536 in
set_option maxHeartbeats 40000000 in
theorem rm6 (l : Launch) (Z : State) (a0 : Array Value) (hw : ∀ d ∈ tables_1, d.before a0 Z = true) (ws : List Jvm.Cond) (a1 : Addr) (p2 : Int32) (h0 : Heap) (n0 : Nat) (Z0 : n0 ≤ h0.size) (F_fewest_a1 : Fld Z h0 a1 "com/example/ballotwire/ballotwire/simulator/Schedule$Ranks" "fewest" "I" (.int (1 : Int32))) (hc4 : p2 < (1 : Int32)) :
    MetFree l (⟨"com/example/ballotwire/ballotwire/simulator/Schedule$Ranks", "allows", "(I)Z"⟩ : MethodName) (head1 (Jvm.Cond.code (⟨"com/example/ballotwire/ballotwire/simulator/Schedule$Ranks", "allows", "(I)Z"⟩ : MethodName) prog_88_method_4_code 2 (some .boolean) :: ws) ({ frames := 0, cells := 0, slots := 0, locals := 0 } : Room)) (fun a U => a = #[(.ref a1), (.int p2)] ∧ Z.Warmed39 U.vm ∧ U.heap = h0) (fun _ _ _ _ _ => True) (fun _ U o U' => ∃ v L, o = .returned v ∧ Q6 Z a1 p2 h0 n0 v U'.heap L ∧ FrameEnd U o U' L ({ frames := 0, cells := 0, slots := 0, locals := 0 } : Room).cells ({ frames := 0, cells := 0, slots := 0, locals := 0 } : Room).slots) := by
  refine MetFree.of_bodySF (plainFor_of_name pn_1) hisR ?_
  intro p e s m args below meth c s₁ Bd hml0 hP hK
  obtain ⟨rfl, hZ, hh⟩ := hP
  have hx := Bd.exec
  have hby := Bd.bytes
  have hml : c.maxLocals = 2 := hml0
  have hown : s.vm.findClass "com/example/ballotwire/ballotwire/simulator/Schedule$Ranks" = some m.cls := findClass_of_methodNamed Bd.named
  have hnm := (name_of_methodNamed Bd.named Bd.method).1
  have X0 : Stand p l e ({ frames := 0, cells := 0, slots := 0, locals := 0 } : Room) s m #[(.ref a1), (.int p2)] below meth c s₁ [] 0 0 := Stand.of_body Bd
  have e0 : s₁.heap = h0 := by rw [← hh, Bd.state]; rfl
  have N0 := Fr.nil n0
  have pre0 : ∀ t, Steps p.tables e below (s₁.setTop (mkF m 0 #[.val (.ref a1), .val (.int p2)] [])) t → Steps p.tables e below (s₁.setTop (entryFrame m #[(.ref a1), (.int p2)] 2)) t := fun t k => castTop (ef_2 m a1 (p2)) k
  obtain ⟨T3, X3, e3, st3⟩ := getF X0 hx hZ hown (host := "") (Or.inl (hw _ (List.mem_of_getElem? (i := 8) rfl))) Via.refl e0 F_fewest_a1 (g := (mkF m 2 #[.val (.ref a1), .val (.int p2)] [(.ref a1), (.int p2)])) rfl rfl (hb hby d_prog_88_method_4_2)
  have pre5 : ∀ t, Steps p.tables e below (T3.setTop (mkF m 21 #[.val (.ref a1), .val (.int p2)] [(.int (0 : Int32))])) t → Steps p.tables e below (s₁.setTop (entryFrame m #[(.ref a1), (.int p2)] 2)) t := fun t kk => pre0 t (by
    show Steps p.tables e below (s₁.setTop (mkF m 0 #[.val (.ref a1), .val (.int p2)] [])) _
    refine XS.iloadN X0.here hx rfl (hb hby d_prog_88_method_4_0) rfl ?_
    show Steps p.tables e below (s₁.setTop (mkF m 1 #[.val (.ref a1), .val (.int p2)] [(.int p2)])) _
    refine XS.aloadN X0.here hx rfl (hb hby d_prog_88_method_4_1) rfl rfl ?_
    show Steps p.tables e below (s₁.setTop (mkF m 2 #[.val (.ref a1), .val (.int p2)] [(.ref a1), (.int p2)])) _
    refine st3 _ ?_
    show Steps p.tables e below (T3.setTop (mkF m 5 #[.val (.ref a1), .val (.int p2)] [(.int (1 : Int32)), (.int p2)])) _
    refine XS.icmpYes X3.here hx rfl (pc0 := 5) (pc' := 20) rfl (hb hby d_prog_88_method_4_5) rfl (tlt (hc4 : p2 < (1 : Int32))).1 (by decide) (by decide) ?_
    show Steps p.tables e below (T3.setTop (mkF m 20 #[.val (.ref a1), .val (.int p2)] [])) _
    refine XS.iconst X3.here hx rfl (hb hby d_prog_88_method_4_20) ?_
    exact kk)
  obtain ⟨fs, hr, hrun, hended, hW, hsame⟩ := X3.leave (v := some (.int (0 : Int32))) (fun h => by rw [Bd.returns] at h; cases h)
  refine ⟨_, _, pre5 _ ?_, hrun, hended, _, _, rfl, ?_, ⟨_, rfl⟩, hW, hsame.mono (by decide) (by decide)⟩
  · exact retN X3 hx (t := .boolean) Bd.returns (by simp) (hb hby d_prog_88_method_4_21) hr
  · show Q6 Z a1 p2 h0 n0 _ T3.heap _
    rw [e3]
    exact ⟨rfl, N0, rfl⟩
theorem own_ar4 (x1 : Int32) (h0 : ¬ (((x1 &&& (7 : Int32)) - (3 : Int32)) = (1 : Int32))) (h1 : ¬ (((x1 &&& (7 : Int32)) - (3 : Int32)) < (1 : Int32))) : (1 : Int32) < ((x1 &&& (7 : Int32)) - (3 : Int32)) := by
  refine Int32.lt_iff_toInt_lt.mpr ?_
  have k0 : ¬ (((x1 &&& (7 : Int32)) - (3 : Int32)).toInt = (1 : Int32).toInt) := fun q => h0 (Int32.toInt_inj.mp q)
  have k1 : ¬ (((x1 &&& (7 : Int32)) - (3 : Int32)).toInt < (1 : Int32).toInt) := fun q => h1 (Int32.lt_iff_toInt_lt.mpr q)
  have z0 := rng32 x1
  have z1 : (7 : Int32).toInt = 7 := by decide
  have z2 := rng32 (x1 &&& (7 : Int32))
  have z3 : (x1 &&& (7 : Int32)).toInt = x1.toInt % 8 := c_mask x1 (7 : Int32) 3 (by decide) (by decide)
  have z4 : (3 : Int32).toInt = 3 := by decide
  have z5 := rng32 ((x1 &&& (7 : Int32)) - (3 : Int32))
  have z6 := c_isub (x1 &&& (7 : Int32)) (3 : Int32)
  have z7 : ((x1 &&& (7 : Int32)) - (3 : Int32)).toInt = (x1 &&& (7 : Int32)).toInt - (3 : Int32).toInt := by omega
  clear z6
  have z9 : (1 : Int32).toInt = 1 := by decide
  clear h0 h1
  try generalize ((x1 &&& (7 : Int32)) - (3 : Int32)).toInt = t0 at *
  try generalize (x1 &&& (7 : Int32)).toInt = t1 at *
  try generalize (7 : Int32).toInt = t2 at *
  try generalize (3 : Int32).toInt = t3 at *
  try generalize (1 : Int32).toInt = t4 at *
  try generalize x1.toInt = t5 at *
  omega
def Q7 (Z : State) (a1 : Addr) (p2 : Int32) (h0 : Heap) (n0 : Nat) (v : Option Value) (h : Heap) (L : List Loc) : Prop := v = some (.int (0 : Int32)) ∧ Fr n0 L ∧ h = h0
set_option maxRecDepth 65536 in
set_option maxHeartbeats 40000000 in
theorem rm7 (l : Launch) (Z : State) (a0 : Array Value) (hw : ∀ d ∈ tables_1, d.before a0 Z = true) (ws : List Jvm.Cond) (a1 : Addr) (p2 : Int32) (h0 : Heap) (n0 : Nat) (Z0 : n0 ≤ h0.size) (F_fewest_a1 : Fld Z h0 a1 "com/example/ballotwire/ballotwire/simulator/Schedule$Ranks" "fewest" "I" (.int (1 : Int32))) (hc4 : ¬ (p2 < (1 : Int32))) (F_most_a1 : Fld Z h0 a1 "com/example/ballotwire/ballotwire/simulator/Schedule$Ranks" "most" "I" (.int (1 : Int32))) (hc6 : (1 : Int32) < p2) :
    MetFree l (⟨"com/example/ballotwire/ballotwire/simulator/Schedule$Ranks", "allows", "(I)Z"⟩ : MethodName) (head1 (Jvm.Cond.code (⟨"com/example/ballotwire/ballotwire/simulator/Schedule$Ranks", "allows", "(I)Z"⟩ : MethodName) prog_88_method_4_code 2 (some .boolean) :: ws) ({ frames := 0, cells := 0, slots := 0, locals := 0 } : Room)) (fun a U => a = #[(.ref a1), (.int p2)] ∧ Z.Warmed39 U.vm ∧ U.heap = h0) (fun _ _ _ _ _ => True) (fun _ U o U' => ∃ v L, o = .returned v ∧ Q7 Z a1 p2 h0 n0 v U'.heap L ∧ FrameEnd U o U' L ({ frames := 0, cells := 0, slots := 0, locals := 0 } : Room).cells ({ frames := 0, cells := 0, slots := 0, locals := 0 } : Room).slots) := by
  refine MetFree.of_bodySF (plainFor_of_name pn_1) hisR ?_
  intro p e s m args below meth c s₁ Bd hml0 hP hK
  obtain ⟨rfl, hZ, hh⟩ := hP
  have hx := Bd.exec
  have hby := Bd.bytes
  have hml : c.maxLocals = 2 := hml0
  have hown : s.vm.findClass "com/example/ballotwire/ballotwire/simulator/Schedule$Ranks" = some m.cls := findClass_of_methodNamed Bd.named
  have hnm := (name_of_methodNamed Bd.named Bd.method).1
  have X0 : Stand p l e ({ frames := 0, cells := 0, slots := 0, locals := 0 } : Room) s m #[(.ref a1), (.int p2)] below meth c s₁ [] 0 0 := Stand.of_body Bd
  have e0 : s₁.heap = h0 := by rw [← hh, Bd.state]; rfl
  have N0 := Fr.nil n0
  have pre0 : ∀ t, Steps p.tables e below (s₁.setTop (mkF m 0 #[.val (.ref a1), .val (.int p2)] [])) t → Steps p.tables e below (s₁.setTop (entryFrame m #[(.ref a1), (.int p2)] 2)) t := fun t k => castTop (ef_2 m a1 (p2)) k
  obtain ⟨T3, X3, e3, st3⟩ := getF X0 hx hZ hown (host := "") (Or.inl (hw _ (List.mem_of_getElem? (i := 8) rfl))) Via.refl e0 F_fewest_a1 (g := (mkF m 2 #[.val (.ref a1), .val (.int p2)] [(.ref a1), (.int p2)])) rfl rfl (hb hby d_prog_88_method_4_2)
  obtain ⟨T5, X5, e5, st5⟩ := getF X3 hx hZ hown (host := "") (Or.inl (hw _ (List.mem_of_getElem? (i := 10) rfl))) Via.refl e3 F_most_a1 (g := (mkF m 10 #[.val (.ref a1), .val (.int p2)] [(.ref a1), (.int p2)])) rfl rfl (hb hby d_prog_88_method_4_10)
  have pre7 : ∀ t, Steps p.tables e below (T5.setTop (mkF m 21 #[.val (.ref a1), .val (.int p2)] [(.int (0 : Int32))])) t → Steps p.tables e below (s₁.setTop (entryFrame m #[(.ref a1), (.int p2)] 2)) t := fun t kk => pre0 t (by
    show Steps p.tables e below (s₁.setTop (mkF m 0 #[.val (.ref a1), .val (.int p2)] [])) _
    refine XS.iloadN X0.here hx rfl (hb hby d_prog_88_method_4_0) rfl ?_
    show Steps p.tables e below (s₁.setTop (mkF m 1 #[.val (.ref a1), .val (.int p2)] [(.int p2)])) _
    refine XS.aloadN X0.here hx rfl (hb hby d_prog_88_method_4_1) rfl rfl ?_
    show Steps p.tables e below (s₁.setTop (mkF m 2 #[.val (.ref a1), .val (.int p2)] [(.ref a1), (.int p2)])) _
    refine st3 _ ?_
    show Steps p.tables e below (T3.setTop (mkF m 5 #[.val (.ref a1), .val (.int p2)] [(.int (1 : Int32)), (.int p2)])) _
    refine XS.icmpNo X3.here hx rfl (hb hby d_prog_88_method_4_5) rfl (flt (hc4 : ¬ (p2 < (1 : Int32)))).1 ?_
    show Steps p.tables e below (T3.setTop (mkF m 8 #[.val (.ref a1), .val (.int p2)] [])) _
    refine XS.iloadN X3.here hx rfl (hb hby d_prog_88_method_4_8) rfl ?_
    show Steps p.tables e below (T3.setTop (mkF m 9 #[.val (.ref a1), .val (.int p2)] [(.int p2)])) _
    refine XS.aloadN X3.here hx rfl (hb hby d_prog_88_method_4_9) rfl rfl ?_
    show Steps p.tables e below (T3.setTop (mkF m 10 #[.val (.ref a1), .val (.int p2)] [(.ref a1), (.int p2)])) _
    refine st5 _ ?_
    show Steps p.tables e below (T5.setTop (mkF m 13 #[.val (.ref a1), .val (.int p2)] [(.int (1 : Int32)), (.int p2)])) _
    refine XS.icmpYes X5.here hx rfl (pc0 := 13) (pc' := 20) rfl (hb hby d_prog_88_method_4_13) rfl (tlt (hc6 : (1 : Int32) < p2)).2.2.1 (by decide) (by decide) ?_
    show Steps p.tables e below (T5.setTop (mkF m 20 #[.val (.ref a1), .val (.int p2)] [])) _
    refine XS.iconst X5.here hx rfl (hb hby d_prog_88_method_4_20) ?_
    exact kk)
  obtain ⟨fs, hr, hrun, hended, hW, hsame⟩ := X5.leave (v := some (.int (0 : Int32))) (fun h => by rw [Bd.returns] at h; cases h)
  refine ⟨_, _, pre7 _ ?_, hrun, hended, _, _, rfl, ?_, ⟨_, rfl⟩, hW, hsame.mono (by decide) (by decide)⟩
  · exact retN X5 hx (t := .boolean) Bd.returns (by simp) (hb hby d_prog_88_method_4_21) hr
  · show Q7 Z a1 p2 h0 n0 _ T5.heap _
    rw [e5]
    exact ⟨rfl, N0, rfl⟩
theorem own_ar5 (x1 : Int32) (h0 : x1 = (1 : Int32)) : ¬ (x1 < (1 : Int32)) := by
  refine fun q => ?_
  have q' : x1.toInt < (1 : Int32).toInt := Int32.lt_iff_toInt_lt.mp q
  have k0 : x1.toInt = (1 : Int32).toInt := congrArg Int32.toInt h0
  have z0 := rng32 x1
  have z1 : (1 : Int32).toInt = 1 := by decide
  clear h0 q
  try generalize (1 : Int32).toInt = t0 at *
  try generalize x1.toInt = t1 at *
  omega
theorem own_ar6 (x1 : Int32) (h0 : x1 = (1 : Int32)) : ¬ ((1 : Int32) < x1) := by
  refine fun q => ?_
  have q' : (1 : Int32).toInt < x1.toInt := Int32.lt_iff_toInt_lt.mp q
  have k0 : x1.toInt = (1 : Int32).toInt := congrArg Int32.toInt h0
  have z0 := rng32 x1
  have z1 : (1 : Int32).toInt = 1 := by decide
  clear h0 q
  try generalize (1 : Int32).toInt = t0 at *
  try generalize x1.toInt = t1 at *
  omega
def Q8 (Z : State) (a1 : Addr) (p2 : Int32) (h0 : Heap) (n0 : Nat) (v : Option Value) (h : Heap) (L : List Loc) : Prop := v = some (.int (1 : Int32)) ∧ Fr n0 L ∧ h = h0
set_option maxRecDepth 65536 in
set_option maxHeartbeats 40000000 in
theorem rm8 (l : Launch) (Z : State) (a0 : Array Value) (hw : ∀ d ∈ tables_1, d.before a0 Z = true) (ws : List Jvm.Cond) (a1 : Addr) (p2 : Int32) (h0 : Heap) (n0 : Nat) (Z0 : n0 ≤ h0.size) (F_fewest_a1 : Fld Z h0 a1 "com/example/ballotwire/ballotwire/simulator/Schedule$Ranks" "fewest" "I" (.int (1 : Int32))) (hc4 : ¬ (p2 < (1 : Int32))) (F_most_a1 : Fld Z h0 a1 "com/example/ballotwire/ballotwire/simulator/Schedule$Ranks" "most" "I" (.int (1 : Int32))) (hc6 : ¬ ((1 : Int32) < p2)) :
    MetFree l (⟨"com/example/ballotwire/ballotwire/simulator/Schedule$Ranks", "allows", "(I)Z"⟩ : MethodName) (head1 (Jvm.Cond.code (⟨"com/example/ballotwire/ballotwire/simulator/Schedule$Ranks", "allows", "(I)Z"⟩ : MethodName) prog_88_method_4_code 2 (some .boolean) :: ws) ({ frames := 0, cells := 0, slots := 0, locals := 0 } : Room)) (fun a U => a = #[(.ref a1), (.int p2)] ∧ Z.Warmed39 U.vm ∧ U.heap = h0) (fun _ _ _ _ _ => True) (fun _ U o U' => ∃ v L, o = .returned v ∧ Q8 Z a1 p2 h0 n0 v U'.heap L ∧ FrameEnd U o U' L ({ frames := 0, cells := 0, slots := 0, locals := 0 } : Room).cells ({ frames := 0, cells := 0, slots := 0, locals := 0 } : Room).slots) := by
  refine MetFree.of_bodySF (plainFor_of_name pn_1) hisR ?_
  intro p e s m args below meth c s₁ Bd hml0 hP hK
  obtain ⟨rfl, hZ, hh⟩ := hP
  have hx := Bd.exec
  have hby := Bd.bytes
  have hml : c.maxLocals = 2 := hml0
  have hown : s.vm.findClass "com/example/ballotwire/ballotwire/simulator/Schedule$Ranks" = some m.cls := findClass_of_methodNamed Bd.named
  have hnm := (name_of_methodNamed Bd.named Bd.method).1
  have X0 : Stand p l e ({ frames := 0, cells := 0, slots := 0, locals := 0 } : Room) s m #[(.ref a1), (.int p2)] below meth c s₁ [] 0 0 := Stand.of_body Bd
  have e0 : s₁.heap = h0 := by rw [← hh, Bd.state]; rfl
  have N0 := Fr.nil n0
  have pre0 : ∀ t, Steps p.tables e below (s₁.setTop (mkF m 0 #[.val (.ref a1), .val (.int p2)] [])) t → Steps p.tables e below (s₁.setTop (entryFrame m #[(.ref a1), (.int p2)] 2)) t := fun t k => castTop (ef_2 m a1 (p2)) k
  obtain ⟨T3, X3, e3, st3⟩ := getF X0 hx hZ hown (host := "") (Or.inl (hw _ (List.mem_of_getElem? (i := 8) rfl))) Via.refl e0 F_fewest_a1 (g := (mkF m 2 #[.val (.ref a1), .val (.int p2)] [(.ref a1), (.int p2)])) rfl rfl (hb hby d_prog_88_method_4_2)
  obtain ⟨T5, X5, e5, st5⟩ := getF X3 hx hZ hown (host := "") (Or.inl (hw _ (List.mem_of_getElem? (i := 10) rfl))) Via.refl e3 F_most_a1 (g := (mkF m 10 #[.val (.ref a1), .val (.int p2)] [(.ref a1), (.int p2)])) rfl rfl (hb hby d_prog_88_method_4_10)
  have pre7 : ∀ t, Steps p.tables e below (T5.setTop (mkF m 21 #[.val (.ref a1), .val (.int p2)] [(.int (1 : Int32))])) t → Steps p.tables e below (s₁.setTop (entryFrame m #[(.ref a1), (.int p2)] 2)) t := fun t kk => pre0 t (by
    show Steps p.tables e below (s₁.setTop (mkF m 0 #[.val (.ref a1), .val (.int p2)] [])) _
    refine XS.iloadN X0.here hx rfl (hb hby d_prog_88_method_4_0) rfl ?_
    show Steps p.tables e below (s₁.setTop (mkF m 1 #[.val (.ref a1), .val (.int p2)] [(.int p2)])) _
    refine XS.aloadN X0.here hx rfl (hb hby d_prog_88_method_4_1) rfl rfl ?_
    show Steps p.tables e below (s₁.setTop (mkF m 2 #[.val (.ref a1), .val (.int p2)] [(.ref a1), (.int p2)])) _
    refine st3 _ ?_
    show Steps p.tables e below (T3.setTop (mkF m 5 #[.val (.ref a1), .val (.int p2)] [(.int (1 : Int32)), (.int p2)])) _
    refine XS.icmpNo X3.here hx rfl (hb hby d_prog_88_method_4_5) rfl (flt (hc4 : ¬ (p2 < (1 : Int32)))).1 ?_
    show Steps p.tables e below (T3.setTop (mkF m 8 #[.val (.ref a1), .val (.int p2)] [])) _
    refine XS.iloadN X3.here hx rfl (hb hby d_prog_88_method_4_8) rfl ?_
    show Steps p.tables e below (T3.setTop (mkF m 9 #[.val (.ref a1), .val (.int p2)] [(.int p2)])) _
    refine XS.aloadN X3.here hx rfl (hb hby d_prog_88_method_4_9) rfl rfl ?_
    show Steps p.tables e below (T3.setTop (mkF m 10 #[.val (.ref a1), .val (.int p2)] [(.ref a1), (.int p2)])) _
    refine st5 _ ?_
    show Steps p.tables e below (T5.setTop (mkF m 13 #[.val (.ref a1), .val (.int p2)] [(.int (1 : Int32)), (.int p2)])) _
    refine XS.icmpNo X5.here hx rfl (hb hby d_prog_88_method_4_13) rfl (flt (hc6 : ¬ ((1 : Int32) < p2))).2.2.1 ?_
    show Steps p.tables e below (T5.setTop (mkF m 16 #[.val (.ref a1), .val (.int p2)] [])) _
    refine XS.iconst X5.here hx rfl (hb hby d_prog_88_method_4_16) ?_
    show Steps p.tables e below (T5.setTop (mkF m 17 #[.val (.ref a1), .val (.int p2)] [(.int (1 : Int32))])) _
    refine XS.goto X5.here hx rfl (pc0 := 17) (pc' := 21) rfl (hb hby d_prog_88_method_4_17) (by decide) (by decide) ?_
    exact kk)
  obtain ⟨fs, hr, hrun, hended, hW, hsame⟩ := X5.leave (v := some (.int (1 : Int32))) (fun h => by rw [Bd.returns] at h; cases h)
  refine ⟨_, _, pre7 _ ?_, hrun, hended, _, _, rfl, ?_, ⟨_, rfl⟩, hW, hsame.mono (by decide) (by decide)⟩
  · exact retN X5 hx (t := .boolean) Bd.returns (by simp) (hb hby d_prog_88_method_4_21) hr
  · show Q8 Z a1 p2 h0 n0 _ T5.heap _
    rw [e5]
    exact ⟨rfl, N0, rfl⟩
theorem own_ar7 (x1 : Int32) (h0 : ¬ (x1 = (1 : Int32))) (h1 : ¬ (x1 < (1 : Int32))) : (1 : Int32) < x1 := by
  refine Int32.lt_iff_toInt_lt.mpr ?_
  have k0 : ¬ (x1.toInt = (1 : Int32).toInt) := fun q => h0 (Int32.toInt_inj.mp q)
  have k1 : ¬ (x1.toInt < (1 : Int32).toInt) := fun q => h1 (Int32.lt_iff_toInt_lt.mpr q)
  have z0 := rng32 x1
  have z1 : (1 : Int32).toInt = 1 := by decide
  clear h0 h1
  try generalize (1 : Int32).toInt = t0 at *
  try generalize x1.toInt = t1 at *
  omega
theorem ef_4 (m : MethodId) (x0 : Addr) : entryFrame m #[(.ref x0), (.int (2 : Int32))] 2 = mkF m 0 #[.val (.ref x0), .val (.int (2 : Int32))] [] := by first | (simp [entryFrame, mkF, argsToLocals, Value.category, maxLocals]; done) | rfl
def Q9 (Z : State) (a1 : Addr) (h0 : Heap) (n0 : Nat) (v : Option Value) (h : Heap) (L : List Loc) : Prop := v = some (.int (1 : Int32)) ∧ Fr n0 L ∧ h = h0
set_option maxRecDepth 65536 in
set_option maxHeartbeats 40000000 in
theorem rm9 (l : Launch) (Z : State) (a0 : Array Value) (hw : ∀ d ∈ tables_1, d.before a0 Z = true) (ws : List Jvm.Cond) (a1 : Addr) (h0 : Heap) (n0 : Nat) (Z0 : n0 ≤ h0.size) (F_fewest_a1 : Fld Z h0 a1 "com/example/ballotwire/ballotwire/simulator/Schedule$Ranks" "fewest" "I" (.int (2 : Int32))) (F_most_a1 : Fld Z h0 a1 "com/example/ballotwire/ballotwire/simulator/Schedule$Ranks" "most" "I" (.int (2 : Int32))) :
    MetFree l (⟨"com/example/ballotwire/ballotwire/simulator/Schedule$Ranks", "allows", "(I)Z"⟩ : MethodName) (head1 (Jvm.Cond.code (⟨"com/example/ballotwire/ballotwire/simulator/Schedule$Ranks", "allows", "(I)Z"⟩ : MethodName) prog_88_method_4_code 2 (some .boolean) :: ws) ({ frames := 0, cells := 0, slots := 0, locals := 0 } : Room)) (fun a U => a = #[(.ref a1), (.int (2 : Int32))] ∧ Z.Warmed39 U.vm ∧ U.heap = h0) (fun _ _ _ _ _ => True) (fun _ U o U' => ∃ v L, o = .returned v ∧ Q9 Z a1 h0 n0 v U'.heap L ∧ FrameEnd U o U' L ({ frames := 0, cells := 0, slots := 0, locals := 0 } : Room).cells ({ frames := 0, cells := 0, slots := 0, locals := 0 } : Room).slots) := by
  refine MetFree.of_bodySF (plainFor_of_name pn_1) hisR ?_
  intro p e s m args below meth c s₁ Bd hml0 hP hK
  obtain ⟨rfl, hZ, hh⟩ := hP
  have hx := Bd.exec
  have hby := Bd.bytes
  have hml : c.maxLocals = 2 := hml0
  have hown : s.vm.findClass "com/example/ballotwire/ballotwire/simulator/Schedule$Ranks" = some m.cls := findClass_of_methodNamed Bd.named
  have hnm := (name_of_methodNamed Bd.named Bd.method).1
  have X0 : Stand p l e ({ frames := 0, cells := 0, slots := 0, locals := 0 } : Room) s m #[(.ref a1), (.int (2 : Int32))] below meth c s₁ [] 0 0 := Stand.of_body Bd
  have e0 : s₁.heap = h0 := by rw [← hh, Bd.state]; rfl
  have N0 := Fr.nil n0
  have pre0 : ∀ t, Steps p.tables e below (s₁.setTop (mkF m 0 #[.val (.ref a1), .val (.int (2 : Int32))] [])) t → Steps p.tables e below (s₁.setTop (entryFrame m #[(.ref a1), (.int (2 : Int32))] 2)) t := fun t k => castTop (ef_4 m a1) k
  obtain ⟨T2, X2, e2, st2⟩ := getF X0 hx hZ hown (host := "") (Or.inl (hw _ (List.mem_of_getElem? (i := 8) rfl))) Via.refl e0 F_fewest_a1 (g := (mkF m 2 #[.val (.ref a1), .val (.int (2 : Int32))] [(.ref a1), (.int (2 : Int32))])) rfl rfl (hb hby d_prog_88_method_4_2)
  obtain ⟨T3, X3, e3, st3⟩ := getF X2 hx hZ hown (host := "") (Or.inl (hw _ (List.mem_of_getElem? (i := 10) rfl))) Via.refl e2 F_most_a1 (g := (mkF m 10 #[.val (.ref a1), .val (.int (2 : Int32))] [(.ref a1), (.int (2 : Int32))])) rfl rfl (hb hby d_prog_88_method_4_10)
  have pre4 : ∀ t, Steps p.tables e below (T3.setTop (mkF m 21 #[.val (.ref a1), .val (.int (2 : Int32))] [(.int (1 : Int32))])) t → Steps p.tables e below (s₁.setTop (entryFrame m #[(.ref a1), (.int (2 : Int32))] 2)) t := fun t kk => pre0 t (by
    show Steps p.tables e below (s₁.setTop (mkF m 0 #[.val (.ref a1), .val (.int (2 : Int32))] [])) _
    refine XS.iloadN X0.here hx rfl (hb hby d_prog_88_method_4_0) rfl ?_
    show Steps p.tables e below (s₁.setTop (mkF m 1 #[.val (.ref a1), .val (.int (2 : Int32))] [(.int (2 : Int32))])) _
    refine XS.aloadN X0.here hx rfl (hb hby d_prog_88_method_4_1) rfl rfl ?_
    show Steps p.tables e below (s₁.setTop (mkF m 2 #[.val (.ref a1), .val (.int (2 : Int32))] [(.ref a1), (.int (2 : Int32))])) _
    refine st2 _ ?_
    show Steps p.tables e below (T2.setTop (mkF m 5 #[.val (.ref a1), .val (.int (2 : Int32))] [(.int (2 : Int32)), (.int (2 : Int32))])) _
    refine XS.icmpNo X2.here hx rfl (hb hby d_prog_88_method_4_5) rfl (flt ((by decide) : ¬ ((2 : Int32) < (2 : Int32)))).1 ?_
    show Steps p.tables e below (T2.setTop (mkF m 8 #[.val (.ref a1), .val (.int (2 : Int32))] [])) _
    refine XS.iloadN X2.here hx rfl (hb hby d_prog_88_method_4_8) rfl ?_
    show Steps p.tables e below (T2.setTop (mkF m 9 #[.val (.ref a1), .val (.int (2 : Int32))] [(.int (2 : Int32))])) _
    refine XS.aloadN X2.here hx rfl (hb hby d_prog_88_method_4_9) rfl rfl ?_
    show Steps p.tables e below (T2.setTop (mkF m 10 #[.val (.ref a1), .val (.int (2 : Int32))] [(.ref a1), (.int (2 : Int32))])) _
    refine st3 _ ?_
    show Steps p.tables e below (T3.setTop (mkF m 13 #[.val (.ref a1), .val (.int (2 : Int32))] [(.int (2 : Int32)), (.int (2 : Int32))])) _
    refine XS.icmpNo X3.here hx rfl (hb hby d_prog_88_method_4_13) rfl (flt ((by decide) : ¬ ((2 : Int32) < (2 : Int32)))).2.2.1 ?_
    show Steps p.tables e below (T3.setTop (mkF m 16 #[.val (.ref a1), .val (.int (2 : Int32))] [])) _
    refine XS.iconst X3.here hx rfl (hb hby d_prog_88_method_4_16) ?_
    show Steps p.tables e below (T3.setTop (mkF m 17 #[.val (.ref a1), .val (.int (2 : Int32))] [(.int (1 : Int32))])) _
    refine XS.goto X3.here hx rfl (pc0 := 17) (pc' := 21) rfl (hb hby d_prog_88_method_4_17) (by decide) (by decide) ?_
    exact kk)
  obtain ⟨fs, hr, hrun, hended, hW, hsame⟩ := X3.leave (v := some (.int (1 : Int32))) (fun h => by rw [Bd.returns] at h; cases h)
  refine ⟨_, _, pre4 _ ?_, hrun, hended, _, _, rfl, ?_, ⟨_, rfl⟩, hW, hsame.mono (by decide) (by decide)⟩
  · exact retN X3 hx (t := .boolean) Bd.returns (by simp) (hb hby d_prog_88_method_4_21) hr
  · show Q9 Z a1 h0 n0 _ T3.heap _
    rw [e3]
    exact ⟨rfl, N0, rfl⟩
def Q10 (Z : State) (a1 : Addr) (p2 : Int32) (h0 : Heap) (n0 : Nat) (v : Option Value) (h : Heap) (L : List Loc) : Prop := v = some (.int (0 : Int32)) ∧ Fr n0 L ∧ h = h0
set_option maxRecDepth 65536 in
set_option maxHeartbeats 40000000 in
theorem rm10 (l : Launch) (Z : State) (a0 : Array Value) (hw : ∀ d ∈ tables_1, d.before a0 Z = true) (ws : List Jvm.Cond) (a1 : Addr) (p2 : Int32) (h0 : Heap) (n0 : Nat) (Z0 : n0 ≤ h0.size) (F_fewest_a1 : Fld Z h0 a1 "com/example/ballotwire/ballotwire/simulator/Schedule$Ranks" "fewest" "I" (.int (2 : Int32))) (hc4 : p2 < (2 : Int32)) :
    MetFree l (⟨"com/example/ballotwire/ballotwire/simulator/Schedule$Ranks", "allows", "(I)Z"⟩ : MethodName) (head1 (Jvm.Cond.code (⟨"com/example/ballotwire/ballotwire/simulator/Schedule$Ranks", "allows", "(I)Z"⟩ : MethodName) prog_88_method_4_code 2 (some .boolean) :: ws) ({ frames := 0, cells := 0, slots := 0, locals := 0 } : Room)) (fun a U => a = #[(.ref a1), (.int p2)] ∧ Z.Warmed39 U.vm ∧ U.heap = h0) (fun _ _ _ _ _ => True) (fun _ U o U' => ∃ v L, o = .returned v ∧ Q10 Z a1 p2 h0 n0 v U'.heap L ∧ FrameEnd U o U' L ({ frames := 0, cells := 0, slots := 0, locals := 0 } : Room).cells ({ frames := 0, cells := 0, slots := 0, locals := 0 } : Room).slots) := by
  refine MetFree.of_bodySF (plainFor_of_name pn_1) hisR ?_
  intro p e s m args below meth c s₁ Bd hml0 hP hK
  obtain ⟨rfl, hZ, hh⟩ := hP
  have hx := Bd.exec
  have hby := Bd.bytes
  have hml : c.maxLocals = 2 := hml0
  have hown : s.vm.findClass "com/example/ballotwire/ballotwire/simulator/Schedule$Ranks" = some m.cls := findClass_of_methodNamed Bd.named
  have hnm := (name_of_methodNamed Bd.named Bd.method).1
  have X0 : Stand p l e ({ frames := 0, cells := 0, slots := 0, locals := 0 } : Room) s m #[(.ref a1), (.int p2)] below meth c s₁ [] 0 0 := Stand.of_body Bd
  have e0 : s₁.heap = h0 := by rw [← hh, Bd.state]; rfl
  have N0 := Fr.nil n0
  have pre0 : ∀ t, Steps p.tables e below (s₁.setTop (mkF m 0 #[.val (.ref a1), .val (.int p2)] [])) t → Steps p.tables e below (s₁.setTop (entryFrame m #[(.ref a1), (.int p2)] 2)) t := fun t k => castTop (ef_2 m a1 (p2)) k
  obtain ⟨T3, X3, e3, st3⟩ := getF X0 hx hZ hown (host := "") (Or.inl (hw _ (List.mem_of_getElem? (i := 8) rfl))) Via.refl e0 F_fewest_a1 (g := (mkF m 2 #[.val (.ref a1), .val (.int p2)] [(.ref a1), (.int p2)])) rfl rfl (hb hby d_prog_88_method_4_2)
  have pre5 : ∀ t, Steps p.tables e below (T3.setTop (mkF m 21 #[.val (.ref a1), .val (.int p2)] [(.int (0 : Int32))])) t → Steps p.tables e below (s₁.setTop (entryFrame m #[(.ref a1), (.int p2)] 2)) t := fun t kk => pre0 t (by
    show Steps p.tables e below (s₁.setTop (mkF m 0 #[.val (.ref a1), .val (.int p2)] [])) _
    refine XS.iloadN X0.here hx rfl (hb hby d_prog_88_method_4_0) rfl ?_
    show Steps p.tables e below (s₁.setTop (mkF m 1 #[.val (.ref a1), .val (.int p2)] [(.int p2)])) _
    refine XS.aloadN X0.here hx rfl (hb hby d_prog_88_method_4_1) rfl rfl ?_
    show Steps p.tables e below (s₁.setTop (mkF m 2 #[.val (.ref a1), .val (.int p2)] [(.ref a1), (.int p2)])) _
    refine st3 _ ?_
    show Steps p.tables e below (T3.setTop (mkF m 5 #[.val (.ref a1), .val (.int p2)] [(.int (2 : Int32)), (.int p2)])) _
    refine XS.icmpYes X3.here hx rfl (pc0 := 5) (pc' := 20) rfl (hb hby d_prog_88_method_4_5) rfl (tlt (hc4 : p2 < (2 : Int32))).1 (by decide) (by decide) ?_
    show Steps p.tables e below (T3.setTop (mkF m 20 #[.val (.ref a1), .val (.int p2)] [])) _
    refine XS.iconst X3.here hx rfl (hb hby d_prog_88_method_4_20) ?_
    exact kk)
  obtain ⟨fs, hr, hrun, hended, hW, hsame⟩ := X3.leave (v := some (.int (0 : Int32))) (fun h => by rw [Bd.returns] at h; cases h)
  refine ⟨_, _, pre5 _ ?_, hrun, hended, _, _, rfl, ?_, ⟨_, rfl⟩, hW, hsame.mono (by decide) (by decide)⟩
  · exact retN X3 hx (t := .boolean) Bd.returns (by simp) (hb hby d_prog_88_method_4_21) hr
  · show Q10 Z a1 p2 h0 n0 _ T3.heap _
    rw [e3]
    exact ⟨rfl, N0, rfl⟩
theorem own_ar8 (x1 : Int32) (h0 : ¬ (((x1 &&& (7 : Int32)) - (3 : Int32)) = (2 : Int32))) (h1 : ¬ (((x1 &&& (7 : Int32)) - (3 : Int32)) < (2 : Int32))) : (2 : Int32) < ((x1 &&& (7 : Int32)) - (3 : Int32)) := by
  refine Int32.lt_iff_toInt_lt.mpr ?_
  have k0 : ¬ (((x1 &&& (7 : Int32)) - (3 : Int32)).toInt = (2 : Int32).toInt) := fun q => h0 (Int32.toInt_inj.mp q)
  have k1 : ¬ (((x1 &&& (7 : Int32)) - (3 : Int32)).toInt < (2 : Int32).toInt) := fun q => h1 (Int32.lt_iff_toInt_lt.mpr q)
  have z0 := rng32 x1
  have z1 : (7 : Int32).toInt = 7 := by decide
  have z2 := rng32 (x1 &&& (7 : Int32))
  have z3 : (x1 &&& (7 : Int32)).toInt = x1.toInt % 8 := c_mask x1 (7 : Int32) 3 (by decide) (by decide)
  have z4 : (3 : Int32).toInt = 3 := by decide
  have z5 := rng32 ((x1 &&& (7 : Int32)) - (3 : Int32))
  have z6 := c_isub (x1 &&& (7 : Int32)) (3 : Int32)
  have z7 : ((x1 &&& (7 : Int32)) - (3 : Int32)).toInt = (x1 &&& (7 : Int32)).toInt - (3 : Int32).toInt := by omega
  clear z6
  have z9 : (2 : Int32).toInt = 2 := by decide
  clear h0 h1
  try generalize ((x1 &&& (7 : Int32)) - (3 : Int32)).toInt = t0 at *
  try generalize (x1 &&& (7 : Int32)).toInt = t1 at *
  try generalize (7 : Int32).toInt = t2 at *
  try generalize (3 : Int32).toInt = t3 at *
  try generalize (2 : Int32).toInt = t4 at *
  try generalize x1.toInt = t5 at *
  omega
def Q11 (Z : State) (a1 : Addr) (p2 : Int32) (h0 : Heap) (n0 : Nat) (v : Option Value) (h : Heap) (L : List Loc) : Prop := v = some (.int (0 : Int32)) ∧ Fr n0 L ∧ h = h0
set_option maxRecDepth 65536 in
set_option maxHeartbeats 40000000 in
theorem rm11 (l : Launch) (Z : State) (a0 : Array Value) (hw : ∀ d ∈ tables_1, d.before a0 Z = true) (ws : List Jvm.Cond) (a1 : Addr) (p2 : Int32) (h0 : Heap) (n0 : Nat) (Z0 : n0 ≤ h0.size) (F_fewest_a1 : Fld Z h0 a1 "com/example/ballotwire/ballotwire/simulator/Schedule$Ranks" "fewest" "I" (.int (2 : Int32))) (hc4 : ¬ (p2 < (2 : Int32))) (F_most_a1 : Fld Z h0 a1 "com/example/ballotwire/ballotwire/simulator/Schedule$Ranks" "most" "I" (.int (2 : Int32))) (hc6 : (2 : Int32) < p2) :
    MetFree l (⟨"com/example/ballotwire/ballotwire/simulator/Schedule$Ranks", "allows", "(I)Z"⟩ : MethodName) (head1 (Jvm.Cond.code (⟨"com/example/ballotwire/ballotwire/simulator/Schedule$Ranks", "allows", "(I)Z"⟩ : MethodName) prog_88_method_4_code 2 (some .boolean) :: ws) ({ frames := 0, cells := 0, slots := 0, locals := 0 } : Room)) (fun a U => a = #[(.ref a1), (.int p2)] ∧ Z.Warmed39 U.vm ∧ U.heap = h0) (fun _ _ _ _ _ => True) (fun _ U o U' => ∃ v L, o = .returned v ∧ Q11 Z a1 p2 h0 n0 v U'.heap L ∧ FrameEnd U o U' L ({ frames := 0, cells := 0, slots := 0, locals := 0 } : Room).cells ({ frames := 0, cells := 0, slots := 0, locals := 0 } : Room).slots) := by
  refine MetFree.of_bodySF (plainFor_of_name pn_1) hisR ?_
  intro p e s m args below meth c s₁ Bd hml0 hP hK
  obtain ⟨rfl, hZ, hh⟩ := hP
  have hx := Bd.exec
  have hby := Bd.bytes
  have hml : c.maxLocals = 2 := hml0
  have hown : s.vm.findClass "com/example/ballotwire/ballotwire/simulator/Schedule$Ranks" = some m.cls := findClass_of_methodNamed Bd.named
  have hnm := (name_of_methodNamed Bd.named Bd.method).1
  have X0 : Stand p l e ({ frames := 0, cells := 0, slots := 0, locals := 0 } : Room) s m #[(.ref a1), (.int p2)] below meth c s₁ [] 0 0 := Stand.of_body Bd
  have e0 : s₁.heap = h0 := by rw [← hh, Bd.state]; rfl
  have N0 := Fr.nil n0
  have pre0 : ∀ t, Steps p.tables e below (s₁.setTop (mkF m 0 #[.val (.ref a1), .val (.int p2)] [])) t → Steps p.tables e below (s₁.setTop (entryFrame m #[(.ref a1), (.int p2)] 2)) t := fun t k => castTop (ef_2 m a1 (p2)) k
  obtain ⟨T3, X3, e3, st3⟩ := getF X0 hx hZ hown (host := "") (Or.inl (hw _ (List.mem_of_getElem? (i := 8) rfl))) Via.refl e0 F_fewest_a1 (g := (mkF m 2 #[.val (.ref a1), .val (.int p2)] [(.ref a1), (.int p2)])) rfl rfl (hb hby d_prog_88_method_4_2)
  obtain ⟨T5, X5, e5, st5⟩ := getF X3 hx hZ hown (host := "") (Or.inl (hw _ (List.mem_of_getElem? (i := 10) rfl))) Via.refl e3 F_most_a1 (g := (mkF m 10 #[.val (.ref a1), .val (.int p2)] [(.ref a1), (.int p2)])) rfl rfl (hb hby d_prog_88_method_4_10)
  have pre7 : ∀ t, Steps p.tables e below (T5.setTop (mkF m 21 #[.val (.ref a1), .val (.int p2)] [(.int (0 : Int32))])) t → Steps p.tables e below (s₁.setTop (entryFrame m #[(.ref a1), (.int p2)] 2)) t := fun t kk => pre0 t (by
    show Steps p.tables e below (s₁.setTop (mkF m 0 #[.val (.ref a1), .val (.int p2)] [])) _
    refine XS.iloadN X0.here hx rfl (hb hby d_prog_88_method_4_0) rfl ?_
    show Steps p.tables e below (s₁.setTop (mkF m 1 #[.val (.ref a1), .val (.int p2)] [(.int p2)])) _
    refine XS.aloadN X0.here hx rfl (hb hby d_prog_88_method_4_1) rfl rfl ?_
    show Steps p.tables e below (s₁.setTop (mkF m 2 #[.val (.ref a1), .val (.int p2)] [(.ref a1), (.int p2)])) _
    refine st3 _ ?_
    show Steps p.tables e below (T3.setTop (mkF m 5 #[.val (.ref a1), .val (.int p2)] [(.int (2 : Int32)), (.int p2)])) _
    refine XS.icmpNo X3.here hx rfl (hb hby d_prog_88_method_4_5) rfl (flt (hc4 : ¬ (p2 < (2 : Int32)))).1 ?_
    show Steps p.tables e below (T3.setTop (mkF m 8 #[.val (.ref a1), .val (.int p2)] [])) _
    refine XS.iloadN X3.here hx rfl (hb hby d_prog_88_method_4_8) rfl ?_
    show Steps p.tables e below (T3.setTop (mkF m 9 #[.val (.ref a1), .val (.int p2)] [(.int p2)])) _
    refine XS.aloadN X3.here hx rfl (hb hby d_prog_88_method_4_9) rfl rfl ?_
    show Steps p.tables e below (T3.setTop (mkF m 10 #[.val (.ref a1), .val (.int p2)] [(.ref a1), (.int p2)])) _
    refine st5 _ ?_
    show Steps p.tables e below (T5.setTop (mkF m 13 #[.val (.ref a1), .val (.int p2)] [(.int (2 : Int32)), (.int p2)])) _
    refine XS.icmpYes X5.here hx rfl (pc0 := 13) (pc' := 20) rfl (hb hby d_prog_88_method_4_13) rfl (tlt (hc6 : (2 : Int32) < p2)).2.2.1 (by decide) (by decide) ?_
    show Steps p.tables e below (T5.setTop (mkF m 20 #[.val (.ref a1), .val (.int p2)] [])) _
    refine XS.iconst X5.here hx rfl (hb hby d_prog_88_method_4_20) ?_
    exact kk)
  obtain ⟨fs, hr, hrun, hended, hW, hsame⟩ := X5.leave (v := some (.int (0 : Int32))) (fun h => by rw [Bd.returns] at h; cases h)
  refine ⟨_, _, pre7 _ ?_, hrun, hended, _, _, rfl, ?_, ⟨_, rfl⟩, hW, hsame.mono (by decide) (by decide)⟩
  · exact retN X5 hx (t := .boolean) Bd.returns (by simp) (hb hby d_prog_88_method_4_21) hr
  · show Q11 Z a1 p2 h0 n0 _ T5.heap _
    rw [e5]
    exact ⟨rfl, N0, rfl⟩
theorem own_ar9 (x1 : Int32) (h0 : x1 = (2 : Int32)) : ¬ (x1 < (2 : Int32)) := by
  refine fun q => ?_
  have q' : x1.toInt < (2 : Int32).toInt := Int32.lt_iff_toInt_lt.mp q
  have k0 : x1.toInt = (2 : Int32).toInt := congrArg Int32.toInt h0
  have z0 := rng32 x1
  have z1 : (2 : Int32).toInt = 2 := by decide
  clear h0 q
  try generalize (2 : Int32).toInt = t0 at *
  try generalize x1.toInt = t1 at *
  omega
theorem own_ar10 (x1 : Int32) (h0 : x1 = (2 : Int32)) : ¬ ((2 : Int32) < x1) := by
  refine fun q => ?_
  have q' : (2 : Int32).toInt < x1.toInt := Int32.lt_iff_toInt_lt.mp q
  have k0 : x1.toInt = (2 : Int32).toInt := congrArg Int32.toInt h0
  have z0 := rng32 x1
  have z1 : (2 : Int32).toInt = 2 := by decide
  clear h0 q
  try generalize (2 : Int32).toInt = t0 at *
  try generalize x1.toInt = t1 at *
  omega
def Q12 (Z : State) (a1 : Addr) (p2 : Int32) (h0 : Heap) (n0 : Nat) (v : Option Value) (h : Heap) (L : List Loc) : Prop := v = some (.int (1 : Int32)) ∧ Fr n0 L ∧ h = h0
set_option maxRecDepth 65536 in
set_option maxHeartbeats 40000000 in
theorem rm12 (l : Launch) (Z : State) (a0 : Array Value) (hw : ∀ d ∈ tables_1, d.before a0 Z = true) (ws : List Jvm.Cond) (a1 : Addr) (p2 : Int32) (h0 : Heap) (n0 : Nat) (Z0 : n0 ≤ h0.size) (F_fewest_a1 : Fld Z h0 a1 "com/example/ballotwire/ballotwire/simulator/Schedule$Ranks" "fewest" "I" (.int (2 : Int32))) (hc4 : ¬ (p2 < (2 : Int32))) (F_most_a1 : Fld Z h0 a1 "com/example/ballotwire/ballotwire/simulator/Schedule$Ranks" "most" "I" (.int (2 : Int32))) (hc6 : ¬ ((2 : Int32) < p2)) :
    MetFree l (⟨"com/example/ballotwire/ballotwire/simulator/Schedule$Ranks", "allows", "(I)Z"⟩ : MethodName) (head1 (Jvm.Cond.code (⟨"com/example/ballotwire/ballotwire/simulator/Schedule$Ranks", "allows", "(I)Z"⟩ : MethodName) prog_88_method_4_code 2 (some .boolean) :: ws) ({ frames := 0, cells := 0, slots := 0, locals := 0 } : Room)) (fun a U => a = #[(.ref a1), (.int p2)] ∧ Z.Warmed39 U.vm ∧ U.heap = h0) (fun _ _ _ _ _ => True) (fun _ U o U' => ∃ v L, o = .returned v ∧ Q12 Z a1 p2 h0 n0 v U'.heap L ∧ FrameEnd U o U' L ({ frames := 0, cells := 0, slots := 0, locals := 0 } : Room).cells ({ frames := 0, cells := 0, slots := 0, locals := 0 } : Room).slots) := by
  refine MetFree.of_bodySF (plainFor_of_name pn_1) hisR ?_
  intro p e s m args below meth c s₁ Bd hml0 hP hK
  obtain ⟨rfl, hZ, hh⟩ := hP
  have hx := Bd.exec
  have hby := Bd.bytes
  have hml : c.maxLocals = 2 := hml0
  have hown : s.vm.findClass "com/example/ballotwire/ballotwire/simulator/Schedule$Ranks" = some m.cls := findClass_of_methodNamed Bd.named
  have hnm := (name_of_methodNamed Bd.named Bd.method).1
  have X0 : Stand p l e ({ frames := 0, cells := 0, slots := 0, locals := 0 } : Room) s m #[(.ref a1), (.int p2)] below meth c s₁ [] 0 0 := Stand.of_body Bd
  have e0 : s₁.heap = h0 := by rw [← hh, Bd.state]; rfl
  have N0 := Fr.nil n0
  have pre0 : ∀ t, Steps p.tables e below (s₁.setTop (mkF m 0 #[.val (.ref a1), .val (.int p2)] [])) t → Steps p.tables e below (s₁.setTop (entryFrame m #[(.ref a1), (.int p2)] 2)) t := fun t k => castTop (ef_2 m a1 (p2)) k
  obtain ⟨T3, X3, e3, st3⟩ := getF X0 hx hZ hown (host := "") (Or.inl (hw _ (List.mem_of_getElem? (i := 8) rfl))) Via.refl e0 F_fewest_a1 (g := (mkF m 2 #[.val (.ref a1), .val (.int p2)] [(.ref a1), (.int p2)])) rfl rfl (hb hby d_prog_88_method_4_2)
  obtain ⟨T5, X5, e5, st5⟩ := getF X3 hx hZ hown (host := "") (Or.inl (hw _ (List.mem_of_getElem? (i := 10) rfl))) Via.refl e3 F_most_a1 (g := (mkF m 10 #[.val (.ref a1), .val (.int p2)] [(.ref a1), (.int p2)])) rfl rfl (hb hby d_prog_88_method_4_10)
  have pre7 : ∀ t, Steps p.tables e below (T5.setTop (mkF m 21 #[.val (.ref a1), .val (.int p2)] [(.int (1 : Int32))])) t → Steps p.tables e below (s₁.setTop (entryFrame m #[(.ref a1), (.int p2)] 2)) t := fun t kk => pre0 t (by
    show Steps p.tables e below (s₁.setTop (mkF m 0 #[.val (.ref a1), .val (.int p2)] [])) _
    refine XS.iloadN X0.here hx rfl (hb hby d_prog_88_method_4_0) rfl ?_
    show Steps p.tables e below (s₁.setTop (mkF m 1 #[.val (.ref a1), .val (.int p2)] [(.int p2)])) _
    refine XS.aloadN X0.here hx rfl (hb hby d_prog_88_method_4_1) rfl rfl ?_
    show Steps p.tables e below (s₁.setTop (mkF m 2 #[.val (.ref a1), .val (.int p2)] [(.ref a1), (.int p2)])) _
    refine st3 _ ?_
    show Steps p.tables e below (T3.setTop (mkF m 5 #[.val (.ref a1), .val (.int p2)] [(.int (2 : Int32)), (.int p2)])) _
    refine XS.icmpNo X3.here hx rfl (hb hby d_prog_88_method_4_5) rfl (flt (hc4 : ¬ (p2 < (2 : Int32)))).1 ?_
    show Steps p.tables e below (T3.setTop (mkF m 8 #[.val (.ref a1), .val (.int p2)] [])) _
    refine XS.iloadN X3.here hx rfl (hb hby d_prog_88_method_4_8) rfl ?_
    show Steps p.tables e below (T3.setTop (mkF m 9 #[.val (.ref a1), .val (.int p2)] [(.int p2)])) _
    refine XS.aloadN X3.here hx rfl (hb hby d_prog_88_method_4_9) rfl rfl ?_
    show Steps p.tables e below (T3.setTop (mkF m 10 #[.val (.ref a1), .val (.int p2)] [(.ref a1), (.int p2)])) _
    refine st5 _ ?_
    show Steps p.tables e below (T5.setTop (mkF m 13 #[.val (.ref a1), .val (.int p2)] [(.int (2 : Int32)), (.int p2)])) _
    refine XS.icmpNo X5.here hx rfl (hb hby d_prog_88_method_4_13) rfl (flt (hc6 : ¬ ((2 : Int32) < p2))).2.2.1 ?_
    show Steps p.tables e below (T5.setTop (mkF m 16 #[.val (.ref a1), .val (.int p2)] [])) _
    refine XS.iconst X5.here hx rfl (hb hby d_prog_88_method_4_16) ?_
    show Steps p.tables e below (T5.setTop (mkF m 17 #[.val (.ref a1), .val (.int p2)] [(.int (1 : Int32))])) _
    refine XS.goto X5.here hx rfl (pc0 := 17) (pc' := 21) rfl (hb hby d_prog_88_method_4_17) (by decide) (by decide) ?_
    exact kk)
  obtain ⟨fs, hr, hrun, hended, hW, hsame⟩ := X5.leave (v := some (.int (1 : Int32))) (fun h => by rw [Bd.returns] at h; cases h)
  refine ⟨_, _, pre7 _ ?_, hrun, hended, _, _, rfl, ?_, ⟨_, rfl⟩, hW, hsame.mono (by decide) (by decide)⟩
  · exact retN X5 hx (t := .boolean) Bd.returns (by simp) (hb hby d_prog_88_method_4_21) hr
  · show Q12 Z a1 p2 h0 n0 _ T5.heap _
    rw [e5]
    exact ⟨rfl, N0, rfl⟩
theorem own_ar11 (x1 : Int32) (h0 : ¬ (x1 = (2 : Int32))) (h1 : ¬ (x1 < (2 : Int32))) : (2 : Int32) < x1 := by
  refine Int32.lt_iff_toInt_lt.mpr ?_
  have k0 : ¬ (x1.toInt = (2 : Int32).toInt) := fun q => h0 (Int32.toInt_inj.mp q)
  have k1 : ¬ (x1.toInt < (2 : Int32).toInt) := fun q => h1 (Int32.lt_iff_toInt_lt.mpr q)
  have z0 := rng32 x1
  have z1 : (2 : Int32).toInt = 2 := by decide
  clear h0 h1
  try generalize (2 : Int32).toInt = t0 at *
  try generalize x1.toInt = t1 at *
  omega
theorem own_ar12 (x1 : Int32) (h0 : (0 : Int32) < ((x1 &&& (7 : Int32)) - (3 : Int32))) : ¬ (((x1 &&& (7 : Int32)) - (3 : Int32)) < (1 : Int32)) := by
  refine fun q => ?_
  have q' : ((x1 &&& (7 : Int32)) - (3 : Int32)).toInt < (1 : Int32).toInt := Int32.lt_iff_toInt_lt.mp q
  have k0 : (0 : Int32).toInt < ((x1 &&& (7 : Int32)) - (3 : Int32)).toInt := Int32.lt_iff_toInt_lt.mp h0
  have z0 : (0 : Int32).toInt = 0 := by decide
  have z1 := rng32 x1
  have z2 : (7 : Int32).toInt = 7 := by decide
  have z3 := rng32 (x1 &&& (7 : Int32))
  have z4 : (x1 &&& (7 : Int32)).toInt = x1.toInt % 8 := c_mask x1 (7 : Int32) 3 (by decide) (by decide)
  have z5 : (3 : Int32).toInt = 3 := by decide
  have z6 := rng32 ((x1 &&& (7 : Int32)) - (3 : Int32))
  have z7 := c_isub (x1 &&& (7 : Int32)) (3 : Int32)
  have z8 : ((x1 &&& (7 : Int32)) - (3 : Int32)).toInt = (x1 &&& (7 : Int32)).toInt - (3 : Int32).toInt := by omega
  clear z7
  have z10 : (1 : Int32).toInt = 1 := by decide
  clear h0 q
  try generalize ((x1 &&& (7 : Int32)) - (3 : Int32)).toInt = t0 at *
  try generalize (x1 &&& (7 : Int32)).toInt = t1 at *
  try generalize (0 : Int32).toInt = t2 at *
  try generalize (7 : Int32).toInt = t3 at *
  try generalize (3 : Int32).toInt = t4 at *
  try generalize (1 : Int32).toInt = t5 at *
  try generalize x1.toInt = t6 at *
  omega
theorem own_ar13 (x1 : Int32) (h0 : (0 : Int32) < ((x1 &&& (7 : Int32)) - (3 : Int32))) : ¬ ((2147483647 : Int32) < ((x1 &&& (7 : Int32)) - (3 : Int32))) := by
  refine fun q => ?_
  have q' : (2147483647 : Int32).toInt < ((x1 &&& (7 : Int32)) - (3 : Int32)).toInt := Int32.lt_iff_toInt_lt.mp q
  have k0 : (0 : Int32).toInt < ((x1 &&& (7 : Int32)) - (3 : Int32)).toInt := Int32.lt_iff_toInt_lt.mp h0
  have z0 : (0 : Int32).toInt = 0 := by decide
  have z1 := rng32 x1
  have z2 : (7 : Int32).toInt = 7 := by decide
  have z3 := rng32 (x1 &&& (7 : Int32))
  have z4 : (x1 &&& (7 : Int32)).toInt = x1.toInt % 8 := c_mask x1 (7 : Int32) 3 (by decide) (by decide)
  have z5 : (3 : Int32).toInt = 3 := by decide
  have z6 := rng32 ((x1 &&& (7 : Int32)) - (3 : Int32))
  have z7 := c_isub (x1 &&& (7 : Int32)) (3 : Int32)
  have z8 : ((x1 &&& (7 : Int32)) - (3 : Int32)).toInt = (x1 &&& (7 : Int32)).toInt - (3 : Int32).toInt := by omega
  clear z7
  have z10 : (2147483647 : Int32).toInt = 2147483647 := by decide
  clear h0 q
  try generalize ((x1 &&& (7 : Int32)) - (3 : Int32)).toInt = t0 at *
  try generalize (x1 &&& (7 : Int32)).toInt = t1 at *
  try generalize (2147483647 : Int32).toInt = t2 at *
  try generalize (0 : Int32).toInt = t3 at *
  try generalize (7 : Int32).toInt = t4 at *
  try generalize (3 : Int32).toInt = t5 at *
  try generalize x1.toInt = t6 at *
  omega
def Q13 (Z : State) (a1 : Addr) (p2 : Int32) (h0 : Heap) (n0 : Nat) (v : Option Value) (h : Heap) (L : List Loc) : Prop := v = some (.int (1 : Int32)) ∧ Fr n0 L ∧ h = h0
set_option maxRecDepth 65536 in
set_option maxHeartbeats 40000000 in
theorem rm13 (l : Launch) (Z : State) (a0 : Array Value) (hw : ∀ d ∈ tables_1, d.before a0 Z = true) (ws : List Jvm.Cond) (a1 : Addr) (p2 : Int32) (h0 : Heap) (n0 : Nat) (Z0 : n0 ≤ h0.size) (F_fewest_a1 : Fld Z h0 a1 "com/example/ballotwire/ballotwire/simulator/Schedule$Ranks" "fewest" "I" (.int (1 : Int32))) (hc4 : ¬ (p2 < (1 : Int32))) (F_most_a1 : Fld Z h0 a1 "com/example/ballotwire/ballotwire/simulator/Schedule$Ranks" "most" "I" (.int (2147483647 : Int32))) (hc6 : ¬ ((2147483647 : Int32) < p2)) :
    MetFree l (⟨"com/example/ballotwire/ballotwire/simulator/Schedule$Ranks", "allows", "(I)Z"⟩ : MethodName) (head1 (Jvm.Cond.code (⟨"com/example/ballotwire/ballotwire/simulator/Schedule$Ranks", "allows", "(I)Z"⟩ : MethodName) prog_88_method_4_code 2 (some .boolean) :: ws) ({ frames := 0, cells := 0, slots := 0, locals := 0 } : Room)) (fun a U => a = #[(.ref a1), (.int p2)] ∧ Z.Warmed39 U.vm ∧ U.heap = h0) (fun _ _ _ _ _ => True) (fun _ U o U' => ∃ v L, o = .returned v ∧ Q13 Z a1 p2 h0 n0 v U'.heap L ∧ FrameEnd U o U' L ({ frames := 0, cells := 0, slots := 0, locals := 0 } : Room).cells ({ frames := 0, cells := 0, slots := 0, locals := 0 } : Room).slots) := by
  refine MetFree.of_bodySF (plainFor_of_name pn_1) hisR ?_
  intro p e s m args below meth c s₁ Bd hml0 hP hK
  obtain ⟨rfl, hZ, hh⟩ := hP
  have hx := Bd.exec
  have hby := Bd.bytes
  have hml : c.maxLocals = 2 := hml0
  have hown : s.vm.findClass "com/example/ballotwire/ballotwire/simulator/Schedule$Ranks" = some m.cls := findClass_of_methodNamed Bd.named
  have hnm := (name_of_methodNamed Bd.named Bd.method).1
  have X0 : Stand p l e ({ frames := 0, cells := 0, slots := 0, locals := 0 } : Room) s m #[(.ref a1), (.int p2)] below meth c s₁ [] 0 0 := Stand.of_body Bd
  have e0 : s₁.heap = h0 := by rw [← hh, Bd.state]; rfl
  have N0 := Fr.nil n0
  have pre0 : ∀ t, Steps p.tables e below (s₁.setTop (mkF m 0 #[.val (.ref a1), .val (.int p2)] [])) t → Steps p.tables e below (s₁.setTop (entryFrame m #[(.ref a1), (.int p2)] 2)) t := fun t k => castTop (ef_2 m a1 (p2)) k
  obtain ⟨T3, X3, e3, st3⟩ := getF X0 hx hZ hown (host := "") (Or.inl (hw _ (List.mem_of_getElem? (i := 8) rfl))) Via.refl e0 F_fewest_a1 (g := (mkF m 2 #[.val (.ref a1), .val (.int p2)] [(.ref a1), (.int p2)])) rfl rfl (hb hby d_prog_88_method_4_2)
  obtain ⟨T5, X5, e5, st5⟩ := getF X3 hx hZ hown (host := "") (Or.inl (hw _ (List.mem_of_getElem? (i := 10) rfl))) Via.refl e3 F_most_a1 (g := (mkF m 10 #[.val (.ref a1), .val (.int p2)] [(.ref a1), (.int p2)])) rfl rfl (hb hby d_prog_88_method_4_10)
  have pre7 : ∀ t, Steps p.tables e below (T5.setTop (mkF m 21 #[.val (.ref a1), .val (.int p2)] [(.int (1 : Int32))])) t → Steps p.tables e below (s₁.setTop (entryFrame m #[(.ref a1), (.int p2)] 2)) t := fun t kk => pre0 t (by
    show Steps p.tables e below (s₁.setTop (mkF m 0 #[.val (.ref a1), .val (.int p2)] [])) _
    refine XS.iloadN X0.here hx rfl (hb hby d_prog_88_method_4_0) rfl ?_
    show Steps p.tables e below (s₁.setTop (mkF m 1 #[.val (.ref a1), .val (.int p2)] [(.int p2)])) _
    refine XS.aloadN X0.here hx rfl (hb hby d_prog_88_method_4_1) rfl rfl ?_
    show Steps p.tables e below (s₁.setTop (mkF m 2 #[.val (.ref a1), .val (.int p2)] [(.ref a1), (.int p2)])) _
    refine st3 _ ?_
    show Steps p.tables e below (T3.setTop (mkF m 5 #[.val (.ref a1), .val (.int p2)] [(.int (1 : Int32)), (.int p2)])) _
    refine XS.icmpNo X3.here hx rfl (hb hby d_prog_88_method_4_5) rfl (flt (hc4 : ¬ (p2 < (1 : Int32)))).1 ?_
    show Steps p.tables e below (T3.setTop (mkF m 8 #[.val (.ref a1), .val (.int p2)] [])) _
    refine XS.iloadN X3.here hx rfl (hb hby d_prog_88_method_4_8) rfl ?_
    show Steps p.tables e below (T3.setTop (mkF m 9 #[.val (.ref a1), .val (.int p2)] [(.int p2)])) _
    refine XS.aloadN X3.here hx rfl (hb hby d_prog_88_method_4_9) rfl rfl ?_
    show Steps p.tables e below (T3.setTop (mkF m 10 #[.val (.ref a1), .val (.int p2)] [(.ref a1), (.int p2)])) _
    refine st5 _ ?_
    show Steps p.tables e below (T5.setTop (mkF m 13 #[.val (.ref a1), .val (.int p2)] [(.int (2147483647 : Int32)), (.int p2)])) _
    refine XS.icmpNo X5.here hx rfl (hb hby d_prog_88_method_4_13) rfl (flt (hc6 : ¬ ((2147483647 : Int32) < p2))).2.2.1 ?_
    show Steps p.tables e below (T5.setTop (mkF m 16 #[.val (.ref a1), .val (.int p2)] [])) _
    refine XS.iconst X5.here hx rfl (hb hby d_prog_88_method_4_16) ?_
    show Steps p.tables e below (T5.setTop (mkF m 17 #[.val (.ref a1), .val (.int p2)] [(.int (1 : Int32))])) _
    refine XS.goto X5.here hx rfl (pc0 := 17) (pc' := 21) rfl (hb hby d_prog_88_method_4_17) (by decide) (by decide) ?_
    exact kk)
  obtain ⟨fs, hr, hrun, hended, hW, hsame⟩ := X5.leave (v := some (.int (1 : Int32))) (fun h => by rw [Bd.returns] at h; cases h)
  refine ⟨_, _, pre7 _ ?_, hrun, hended, _, _, rfl, ?_, ⟨_, rfl⟩, hW, hsame.mono (by decide) (by decide)⟩
  · exact retN X5 hx (t := .boolean) Bd.returns (by simp) (hb hby d_prog_88_method_4_21) hr
  · show Q13 Z a1 p2 h0 n0 _ T5.heap _
    rw [e5]
    exact ⟨rfl, N0, rfl⟩
theorem own_ar14 (x1 : Int32) (h0 : ¬ ((0 : Int32) < ((x1 &&& (7 : Int32)) - (3 : Int32)))) : ((x1 &&& (7 : Int32)) - (3 : Int32)) < (1 : Int32) := by
  refine Int32.lt_iff_toInt_lt.mpr ?_
  have k0 : ¬ ((0 : Int32).toInt < ((x1 &&& (7 : Int32)) - (3 : Int32)).toInt) := fun q => h0 (Int32.lt_iff_toInt_lt.mpr q)
  have z0 : (0 : Int32).toInt = 0 := by decide
  have z1 := rng32 x1
  have z2 : (7 : Int32).toInt = 7 := by decide
  have z3 := rng32 (x1 &&& (7 : Int32))
  have z4 : (x1 &&& (7 : Int32)).toInt = x1.toInt % 8 := c_mask x1 (7 : Int32) 3 (by decide) (by decide)
  have z5 : (3 : Int32).toInt = 3 := by decide
  have z6 := rng32 ((x1 &&& (7 : Int32)) - (3 : Int32))
  have z7 := c_isub (x1 &&& (7 : Int32)) (3 : Int32)
  have z8 : ((x1 &&& (7 : Int32)) - (3 : Int32)).toInt = (x1 &&& (7 : Int32)).toInt - (3 : Int32).toInt := by omega
  clear z7
  have z10 : (1 : Int32).toInt = 1 := by decide
  clear h0
  try generalize ((x1 &&& (7 : Int32)) - (3 : Int32)).toInt = t0 at *
  try generalize (x1 &&& (7 : Int32)).toInt = t1 at *
  try generalize (0 : Int32).toInt = t2 at *
  try generalize (7 : Int32).toInt = t3 at *
  try generalize (3 : Int32).toInt = t4 at *
  try generalize (1 : Int32).toInt = t5 at *
  try generalize x1.toInt = t6 at *
  omega
theorem own_ar15 (x1 : Int32) (h0 : (0 : Int32) < x1) : ¬ (x1 < (1 : Int32)) := by
  refine fun q => ?_
  have q' : x1.toInt < (1 : Int32).toInt := Int32.lt_iff_toInt_lt.mp q
  have k0 : (0 : Int32).toInt < x1.toInt := Int32.lt_iff_toInt_lt.mp h0
  have z0 : (0 : Int32).toInt = 0 := by decide
  have z1 := rng32 x1
  have z2 : (1 : Int32).toInt = 1 := by decide
  clear h0 q
  try generalize (0 : Int32).toInt = t0 at *
  try generalize (1 : Int32).toInt = t1 at *
  try generalize x1.toInt = t2 at *
  omega
theorem own_ar16 (x1 : Int32) (h0 : (0 : Int32) < x1) : ¬ ((2147483647 : Int32) < x1) := by
  refine fun q => ?_
  have q' : (2147483647 : Int32).toInt < x1.toInt := Int32.lt_iff_toInt_lt.mp q
  have k0 : (0 : Int32).toInt < x1.toInt := Int32.lt_iff_toInt_lt.mp h0
  have z0 : (0 : Int32).toInt = 0 := by decide
  have z1 := rng32 x1
  have z2 : (2147483647 : Int32).toInt = 2147483647 := by decide
  clear h0 q
  try generalize (2147483647 : Int32).toInt = t0 at *
  try generalize (0 : Int32).toInt = t1 at *
  try generalize x1.toInt = t2 at *
  omega
theorem own_ar17 (x1 : Int32) (h0 : ¬ ((0 : Int32) < x1)) : x1 < (1 : Int32) := by
  refine Int32.lt_iff_toInt_lt.mpr ?_
  have k0 : ¬ ((0 : Int32).toInt < x1.toInt) := fun q => h0 (Int32.lt_iff_toInt_lt.mpr q)
  have z0 : (0 : Int32).toInt = 0 := by decide
  have z1 := rng32 x1
  have z2 : (1 : Int32).toInt = 1 := by decide
  clear h0
  try generalize (0 : Int32).toInt = t0 at *
  try generalize (1 : Int32).toInt = t1 at *
  try generalize x1.toInt = t2 at *
  omega
def Q0 (Z : State) (h0 : Heap) (n0 : Nat) (v : Option Value) (h : Heap) (L : List Loc) : Prop := v = some (.int (1 : Int32)) ∧ Fr n0 L
set_option maxRecDepth 65536 in
set_option maxHeartbeats 400000000 in
theorem rm0 (l : Launch) (Z : State) (a0 : Array Value) (hw : ∀ d ∈ tables_1, d.before a0 Z = true) (ws : List Jvm.Cond) (x0 : Int32) (x1 : Int32) (x2 : Int32) (w_NONE : Addr) (w_ONE : Addr) (w_SOME : Addr) (w_TWO : Addr) (h0 : Heap) (n0 : Nat) (Z0 : n0 ≤ h0.size) (S_w_NONE : Sta Z h0 "com/example/ballotwire/ballotwire/simulator/Schedule$Ranks" "NONE" "Lcom/example/ballotwire/ballotwire/simulator/Schedule$Ranks;" (.ref w_NONE)) (E_w_NONE : Exa Z h0 w_NONE "com/example/ballotwire/ballotwire/simulator/Schedule$Ranks") (S_w_ONE : Sta Z h0 "com/example/ballotwire/ballotwire/simulator/Schedule$Ranks" "ONE" "Lcom/example/ballotwire/ballotwire/simulator/Schedule$Ranks;" (.ref w_ONE)) (E_w_ONE : Exa Z h0 w_ONE "com/example/ballotwire/ballotwire/simulator/Schedule$Ranks") (S_w_SOME : Sta Z h0 "com/example/ballotwire/ballotwire/simulator/Schedule$Ranks" "SOME" "Lcom/example/ballotwire/ballotwire/simulator/Schedule$Ranks;" (.ref w_SOME)) (E_w_SOME : Exa Z h0 w_SOME "com/example/ballotwire/ballotwire/simulator/Schedule$Ranks") (S_w_TWO : Sta Z h0 "com/example/ballotwire/ballotwire/simulator/Schedule$Ranks" "TWO" "Lcom/example/ballotwire/ballotwire/simulator/Schedule$Ranks;" (.ref w_TWO)) (E_w_TWO : Exa Z h0 w_TWO "com/example/ballotwire/ballotwire/simulator/Schedule$Ranks") (F_fewest_w_NONE : Fld Z h0 w_NONE "com/example/ballotwire/ballotwire/simulator/Schedule$Ranks" "fewest" "I" (.int (0 : Int32))) (F_most_w_NONE : Fld Z h0 w_NONE "com/example/ballotwire/ballotwire/simulator/Schedule$Ranks" "most" "I" (.int (0 : Int32))) (F_fewest_w_ONE : Fld Z h0 w_ONE "com/example/ballotwire/ballotwire/simulator/Schedule$Ranks" "fewest" "I" (.int (1 : Int32))) (F_most_w_ONE : Fld Z h0 w_ONE "com/example/ballotwire/ballotwire/simulator/Schedule$Ranks" "most" "I" (.int (1 : Int32))) (F_fewest_w_SOME : Fld Z h0 w_SOME "com/example/ballotwire/ballotwire/simulator/Schedule$Ranks" "fewest" "I" (.int (1 : Int32))) (F_fewest_w_TWO : Fld Z h0 w_TWO "com/example/ballotwire/ballotwire/simulator/Schedule$Ranks" "fewest" "I" (.int (2 : Int32))) (F_most_w_SOME : Fld Z h0 w_SOME "com/example/ballotwire/ballotwire/simulator/Schedule$Ranks" "most" "I" (.int (2147483647 : Int32))) (F_most_w_TWO : Fld Z h0 w_TWO "com/example/ballotwire/ballotwire/simulator/Schedule$Ranks" "most" "I" (.int (2 : Int32))) :
    MetFree l x (head1 (Jvm.Cond.code x code maxLocals ret :: ws) room_1) (fun a U => a = #[(.int x0), (.int x1), (.int x2)] ∧ Z.Warmed39 U.vm ∧ U.heap = h0) (fun _ _ _ _ _ => True) (fun _ U o U' => ∃ v L, o = .returned v ∧ Q0 Z h0 n0 v U'.heap L ∧ FrameEnd U o U' L room_1.cells room_1.slots) := by
  refine MetFree.of_bodySF (plainFor_of_name pn_0) hisR ?_
  intro p e s m args below meth c s₁ Bd hml0 hP hK
  obtain ⟨rfl, hZ, hh⟩ := hP
  have hx := Bd.exec
  have hby := Bd.bytes
  have hml : c.maxLocals = 7 := hml0
  have hown : s.vm.findClass "com/example/ballotwire/ballotwire/simulator/SchedulePinLaw_RanksAllowsPinLaw" = some m.cls := findClass_of_methodNamed Bd.named
  have hnm := (name_of_methodNamed Bd.named Bd.method).1
  have X0 : Stand p l e room_1 s m #[(.int x0), (.int x1), (.int x2)] below meth c s₁ [] 0 0 := Stand.of_body Bd
  have e0 : s₁.heap = h0 := by rw [← hh, Bd.state]; rfl
  have N0 := Fr.nil n0
  have pre0 : ∀ t, Steps p.tables e below (s₁.setTop (mkF m 0 #[.val (.int x0), .val (.int x1), .val (.int x2), .unset, .unset, .unset, .unset] [])) t → Steps p.tables e below (s₁.setTop (entryFrame m #[(.int x0), (.int x1), (.int x2)] maxLocals)) t := fun t k => castTop (ef_0 m (x0) (x1) (x2)) k
  have pre23 : ∀ t, Steps p.tables e below (s₁.setTop (mkF m 3 #[.val (.int x0), .val (.int x1), .val (.int x2), .unset, .unset, .unset, .unset] [(.int (x0 &&& (3 : Int32)))])) t → Steps p.tables e below (s₁.setTop (entryFrame m #[(.int x0), (.int x1), (.int x2)] maxLocals)) t := fun t kk => pre0 t (by
    show Steps p.tables e below (s₁.setTop (mkF m 0 #[.val (.int x0), .val (.int x1), .val (.int x2), .unset, .unset, .unset, .unset] [])) _
    refine XS.iloadN X0.here hx rfl (hb hby at_0) rfl ?_
    show Steps p.tables e below (s₁.setTop (mkF m 1 #[.val (.int x0), .val (.int x1), .val (.int x2), .unset, .unset, .unset, .unset] [(.int x0)])) _
    refine XS.iconst X0.here hx rfl (hb hby at_1) ?_
    show Steps p.tables e below (s₁.setTop (mkF m 2 #[.val (.int x0), .val (.int x1), .val (.int x2), .unset, .unset, .unset, .unset] [(.int (3 : Int32)), (.int x0)])) _
    refine XS.iand X0.here hx rfl (hb hby at_2) rfl ?_
    exact kk)
  rcases own_lt4 (x0 &&& (3 : Int32)) (own_maskLo x0 (3 : Int32) 2 (by decide) (by decide)) (by have := own_maskHi x0 (3 : Int32) 2 (by decide) (by decide); exact this) with hv24 | hv24 | hv24 | hv24
  ·
    have pre25 := pre23
    rw [hv24] at pre25
    have pre26 : ∀ t, Steps p.tables e below (s₁.setTop (mkF m 7 #[.val (.int x0), .val (.int x1), .val (.int x2), .val (.int (0 : Int32)), .unset, .unset, .unset] [(.int (x2 &&& (1 : Int32)))])) t → Steps p.tables e below (s₁.setTop (entryFrame m #[(.int x0), (.int x1), (.int x2)] maxLocals)) t := fun t kk => pre25 t (by
      show Steps p.tables e below (s₁.setTop (mkF m 3 #[.val (.int x0), .val (.int x1), .val (.int x2), .unset, .unset, .unset, .unset] [(.int (0 : Int32))])) _
      refine XS.istoreN X0.here hx rfl (hb hby at_3) rfl (l' := #[.val (.int x0), .val (.int x1), .val (.int x2), .val (.int (0 : Int32)), .unset, .unset, .unset]) rfl ?_
      show Steps p.tables e below (s₁.setTop (mkF m 4 #[.val (.int x0), .val (.int x1), .val (.int x2), .val (.int (0 : Int32)), .unset, .unset, .unset] [])) _
      refine XS.iloadN X0.here hx rfl (hb hby at_4) rfl ?_
      show Steps p.tables e below (s₁.setTop (mkF m 5 #[.val (.int x0), .val (.int x1), .val (.int x2), .val (.int (0 : Int32)), .unset, .unset, .unset] [(.int x2)])) _
      refine XS.iconst X0.here hx rfl (hb hby at_5) ?_
      show Steps p.tables e below (s₁.setTop (mkF m 6 #[.val (.int x0), .val (.int x1), .val (.int x2), .val (.int (0 : Int32)), .unset, .unset, .unset] [(.int (1 : Int32)), (.int x2)])) _
      refine XS.iand X0.here hx rfl (hb hby at_6) rfl ?_
      exact kk)
    by_cases hc27 : (x2 &&& (1 : Int32)) = (0 : Int32)
    ·
      obtain ⟨T28, X28, e28, st28⟩ := getS2 X0 hx hZ hown (host := "") (Or.inl (hw _ (List.mem_of_getElem? (i := 0) rfl))) Via.refl e0 S_w_NONE (g := (mkF m 26 #[.val (.int x0), .val (.int x1), .val (.int x2), .val (.int (0 : Int32)), .val (.int ((x1 &&& (7 : Int32)) - (3 : Int32))), .unset, .unset] [])) rfl (hb hby at_26)
      have pre29 : ∀ t, Steps p.tables e below (T28.setTop (mkF m 33 #[.val (.int x0), .val (.int x1), .val (.int x2), .val (.int (0 : Int32)), .val (.int ((x1 &&& (7 : Int32)) - (3 : Int32))), .val (.ref w_NONE), .unset] [(.int ((x1 &&& (7 : Int32)) - (3 : Int32)))])) t → Steps p.tables e below (s₁.setTop (entryFrame m #[(.int x0), (.int x1), (.int x2)] maxLocals)) t := fun t kk => pre26 t (by
        show Steps p.tables e below (s₁.setTop (mkF m 7 #[.val (.int x0), .val (.int x1), .val (.int x2), .val (.int (0 : Int32)), .unset, .unset, .unset] [(.int (x2 &&& (1 : Int32)))])) _
        refine XS.ifYes X0.here hx rfl (pc0 := 7) (pc' := 14) rfl (hb hby at_7) rfl ((if0 _ _).trans (teq (hc27 : (x2 &&& (1 : Int32)) = (0 : Int32))).1) (by decide) (by decide) ?_
        show Steps p.tables e below (s₁.setTop (mkF m 14 #[.val (.int x0), .val (.int x1), .val (.int x2), .val (.int (0 : Int32)), .unset, .unset, .unset] [])) _
        refine XS.iloadN X0.here hx rfl (hb hby at_14) rfl ?_
        show Steps p.tables e below (s₁.setTop (mkF m 15 #[.val (.int x0), .val (.int x1), .val (.int x2), .val (.int (0 : Int32)), .unset, .unset, .unset] [(.int x1)])) _
        refine XS.bipush X0.here hx rfl (hb hby at_15) ?_
        show Steps p.tables e below (s₁.setTop (mkF m 17 #[.val (.int x0), .val (.int x1), .val (.int x2), .val (.int (0 : Int32)), .unset, .unset, .unset] [(.int (7 : Int32)), (.int x1)])) _
        refine XS.iand X0.here hx rfl (hb hby at_17) rfl ?_
        show Steps p.tables e below (s₁.setTop (mkF m 18 #[.val (.int x0), .val (.int x1), .val (.int x2), .val (.int (0 : Int32)), .unset, .unset, .unset] [(.int (x1 &&& (7 : Int32)))])) _
        refine XS.iconst X0.here hx rfl (hb hby at_18) ?_
        show Steps p.tables e below (s₁.setTop (mkF m 19 #[.val (.int x0), .val (.int x1), .val (.int x2), .val (.int (0 : Int32)), .unset, .unset, .unset] [(.int (3 : Int32)), (.int (x1 &&& (7 : Int32)))])) _
        refine XS.isub X0.here hx rfl (hb hby at_19) rfl ?_
        show Steps p.tables e below (s₁.setTop (mkF m 20 #[.val (.int x0), .val (.int x1), .val (.int x2), .val (.int (0 : Int32)), .unset, .unset, .unset] [(.int ((x1 &&& (7 : Int32)) - (3 : Int32)))])) _
        refine XS.istore X0.here hx rfl (hb hby at_20) rfl (l' := #[.val (.int x0), .val (.int x1), .val (.int x2), .val (.int (0 : Int32)), .val (.int ((x1 &&& (7 : Int32)) - (3 : Int32))), .unset, .unset]) rfl ?_
        show Steps p.tables e below (s₁.setTop (mkF m 22 #[.val (.int x0), .val (.int x1), .val (.int x2), .val (.int (0 : Int32)), .val (.int ((x1 &&& (7 : Int32)) - (3 : Int32))), .unset, .unset] [])) _
        refine XS.iloadN X0.here hx rfl (hb hby at_22) rfl ?_
        show Steps p.tables e below (s₁.setTop (mkF m 23 #[.val (.int x0), .val (.int x1), .val (.int x2), .val (.int (0 : Int32)), .val (.int ((x1 &&& (7 : Int32)) - (3 : Int32))), .unset, .unset] [(.int (0 : Int32))])) _
        refine XS.ifNo X0.here hx rfl (hb hby at_23) rfl ((if0 _ _).trans (teq ((by decide) : (0 : Int32) = (0 : Int32))).2) ?_
        show Steps p.tables e below (s₁.setTop (mkF m 26 #[.val (.int x0), .val (.int x1), .val (.int x2), .val (.int (0 : Int32)), .val (.int ((x1 &&& (7 : Int32)) - (3 : Int32))), .unset, .unset] [])) _
        refine st28 _ ?_
        show Steps p.tables e below (T28.setTop (mkF m 29 #[.val (.int x0), .val (.int x1), .val (.int x2), .val (.int (0 : Int32)), .val (.int ((x1 &&& (7 : Int32)) - (3 : Int32))), .unset, .unset] [(.ref w_NONE)])) _
        refine XS.astore X28.here hx rfl (hb hby at_29) rfl rfl (l' := #[.val (.int x0), .val (.int x1), .val (.int x2), .val (.int (0 : Int32)), .val (.int ((x1 &&& (7 : Int32)) - (3 : Int32))), .val (.ref w_NONE), .unset]) rfl ?_
        show Steps p.tables e below (T28.setTop (mkF m 31 #[.val (.int x0), .val (.int x1), .val (.int x2), .val (.int (0 : Int32)), .val (.int ((x1 &&& (7 : Int32)) - (3 : Int32))), .val (.ref w_NONE), .unset] [])) _
        refine XS.iload X28.here hx rfl (hb hby at_31) rfl ?_
        exact kk)
      by_cases hc30 : ((x1 &&& (7 : Int32)) - (3 : Int32)) = (0 : Int32)
      ·
        have pre31 : ∀ t, Steps p.tables e below (T28.setTop (mkF m 36 #[.val (.int x0), .val (.int x1), .val (.int x2), .val (.int (0 : Int32)), .val (.int ((x1 &&& (7 : Int32)) - (3 : Int32))), .val (.ref w_NONE), .unset] [])) t → Steps p.tables e below (s₁.setTop (entryFrame m #[(.int x0), (.int x1), (.int x2)] maxLocals)) t := fun t kk => pre29 t (by
          show Steps p.tables e below (T28.setTop (mkF m 33 #[.val (.int x0), .val (.int x1), .val (.int x2), .val (.int (0 : Int32)), .val (.int ((x1 &&& (7 : Int32)) - (3 : Int32))), .val (.ref w_NONE), .unset] [(.int ((x1 &&& (7 : Int32)) - (3 : Int32)))])) _
          refine XS.ifNo X28.here hx rfl (hb hby at_33) rfl ((if0 _ _).trans (teq (hc30 : ((x1 &&& (7 : Int32)) - (3 : Int32)) = (0 : Int32))).2) ?_
          exact kk)
        have pre32 := pre31
        rw [hc30] at pre32
        obtain ⟨cq33, kq33, q33a, q33b, q33c⟩ := isOf hZ e28 E_w_NONE
        obtain ⟨_, _, ⟨T33, L33, k33, n33⟩, -, X33, ⟨Lc33, hQ33, l33, y33, z33⟩, st33⟩ := X28.virtualBack hx (y := (⟨"com/example/ballotwire/ballotwire/simulator/Schedule$Ranks", "allows", "(I)Z"⟩ : MethodName)) (z := (⟨"com/example/ballotwire/ballotwire/simulator/Schedule$Ranks", "allows", "(I)Z"⟩ : MethodName)) hown (mvT hZ (hw _ (List.mem_of_getElem? (i := 3) rfl))) (mvT hZ (hw _ (List.mem_of_getElem? (i := 4) rfl))) (notFace_of_selects (args := #[]) (mvT hZ (hw _ (List.mem_of_getElem? (i := 6) rfl)))) (mvT hZ (hw _ (List.mem_of_getElem? (i := 6) rfl))) (mvT hZ (hw _ (List.mem_of_getElem? (i := 5) rfl))) (by decide) (backOf (W := 0) (rm1 l Z a0 hw [] w_NONE h0 n0 Z0 F_fewest_w_NONE F_most_w_NONE) hZ (hw _ (List.mem_of_getElem? (i := 7) rfl)) (hw _ (List.mem_of_getElem? (i := 1) rfl)) (by decide) (by decide)) q33a q33c (g := (mkF m 119 #[.val (.int x0), .val (.int x1), .val (.int x2), .val (.int (0 : Int32)), .val (.int (0 : Int32)), .val (.ref w_NONE), .val (.int (1 : Int32))] [(.int (0 : Int32)), (.ref w_NONE)])) rfl (by rw [hml]; rfl) (Steps.refl _) (argsL := [(.int (0 : Int32))]) (rest := []) (lenOf pd_0 rfl) rfl (by show 2 * 0 + _ ≤ _; exact Nat.le_of_eq rfl) (hb hby at_119) (fun _ _ => ⟨rfl, e28, (by decide : 0 + 0 ≤ _), (by decide : 0 + 0 ≤ _)⟩)
        dsimp only [Pt.U, Pt.locs, Pt.cells, Pt.slots] at X33 l33 y33 z33 st33 hQ33
        subst l33 y33 z33
        obtain ⟨rfl, N33q, e33⟩ := hQ33
        have N33 := Fr.app N0 N33q
        have pre34 : ∀ t, Steps p.tables e below (T33.setTop (mkF m 132 #[.val (.int x0), .val (.int x1), .val (.int x2), .val (.int (0 : Int32)), .val (.int (0 : Int32)), .val (.ref w_NONE), .val (.int (1 : Int32))] [(.int (1 : Int32))])) t → Steps p.tables e below (s₁.setTop (entryFrame m #[(.int x0), (.int x1), (.int x2)] maxLocals)) t := fun t kk => pre32 t (by
          show Steps p.tables e below (T28.setTop (mkF m 36 #[.val (.int x0), .val (.int x1), .val (.int x2), .val (.int (0 : Int32)), .val (.int (0 : Int32)), .val (.ref w_NONE), .unset] [])) _
          refine XS.iconst X28.here hx rfl (hb hby at_36) ?_
          show Steps p.tables e below (T28.setTop (mkF m 37 #[.val (.int x0), .val (.int x1), .val (.int x2), .val (.int (0 : Int32)), .val (.int (0 : Int32)), .val (.ref w_NONE), .unset] [(.int (1 : Int32))])) _
          refine XS.goto X28.here hx rfl (pc0 := 37) (pc' := 41) rfl (hb hby at_37) (by decide) (by decide) ?_
          show Steps p.tables e below (T28.setTop (mkF m 41 #[.val (.int x0), .val (.int x1), .val (.int x2), .val (.int (0 : Int32)), .val (.int (0 : Int32)), .val (.ref w_NONE), .unset] [(.int (1 : Int32))])) _
          refine XS.istore X28.here hx rfl (hb hby at_41) rfl (l' := #[.val (.int x0), .val (.int x1), .val (.int x2), .val (.int (0 : Int32)), .val (.int (0 : Int32)), .val (.ref w_NONE), .val (.int (1 : Int32))]) rfl ?_
          show Steps p.tables e below (T28.setTop (mkF m 43 #[.val (.int x0), .val (.int x1), .val (.int x2), .val (.int (0 : Int32)), .val (.int (0 : Int32)), .val (.ref w_NONE), .val (.int (1 : Int32))] [])) _
          refine XS.goto X28.here hx rfl (pc0 := 43) (pc' := 115) rfl (hb hby at_43) (by decide) (by decide) ?_
          show Steps p.tables e below (T28.setTop (mkF m 115 #[.val (.int x0), .val (.int x1), .val (.int x2), .val (.int (0 : Int32)), .val (.int (0 : Int32)), .val (.ref w_NONE), .val (.int (1 : Int32))] [])) _
          refine XS.aload X28.here hx rfl (hb hby at_115) rfl rfl ?_
          show Steps p.tables e below (T28.setTop (mkF m 117 #[.val (.int x0), .val (.int x1), .val (.int x2), .val (.int (0 : Int32)), .val (.int (0 : Int32)), .val (.ref w_NONE), .val (.int (1 : Int32))] [(.ref w_NONE)])) _
          refine XS.iload X28.here hx rfl (hb hby at_117) rfl ?_
          show Steps p.tables e below (T28.setTop (mkF m 119 #[.val (.int x0), .val (.int x1), .val (.int x2), .val (.int (0 : Int32)), .val (.int (0 : Int32)), .val (.ref w_NONE), .val (.int (1 : Int32))] [(.int (0 : Int32)), (.ref w_NONE)])) _
          refine st33.trans ?_
          show Steps p.tables e below (T33.setTop (mkF m 122 #[.val (.int x0), .val (.int x1), .val (.int x2), .val (.int (0 : Int32)), .val (.int (0 : Int32)), .val (.ref w_NONE), .val (.int (1 : Int32))] [(.int (1 : Int32))])) _
          refine XS.iload X33.here hx rfl (hb hby at_122) rfl ?_
          show Steps p.tables e below (T33.setTop (mkF m 124 #[.val (.int x0), .val (.int x1), .val (.int x2), .val (.int (0 : Int32)), .val (.int (0 : Int32)), .val (.ref w_NONE), .val (.int (1 : Int32))] [(.int (1 : Int32)), (.int (1 : Int32))])) _
          refine XS.icmpNo X33.here hx rfl (hb hby at_124) rfl (teq ((by decide) : (1 : Int32) = (1 : Int32))).2 ?_
          show Steps p.tables e below (T33.setTop (mkF m 127 #[.val (.int x0), .val (.int x1), .val (.int x2), .val (.int (0 : Int32)), .val (.int (0 : Int32)), .val (.ref w_NONE), .val (.int (1 : Int32))] [])) _
          refine XS.iconst X33.here hx rfl (hb hby at_127) ?_
          show Steps p.tables e below (T33.setTop (mkF m 128 #[.val (.int x0), .val (.int x1), .val (.int x2), .val (.int (0 : Int32)), .val (.int (0 : Int32)), .val (.ref w_NONE), .val (.int (1 : Int32))] [(.int (1 : Int32))])) _
          refine XS.goto X33.here hx rfl (pc0 := 128) (pc' := 132) rfl (hb hby at_128) (by decide) (by decide) ?_
          exact kk)
        obtain ⟨fs, hr, hrun, hended, hW, hsame⟩ := X33.leave (v := some (.int (1 : Int32))) (fun h => by rw [Bd.returns] at h; cases h)
        refine ⟨_, _, pre34 _ ?_, hrun, hended, _, _, rfl, ?_, ⟨_, rfl⟩, hW, hsame.mono (by decide) (by decide)⟩
        · exact retN X33 hx (t := .boolean) Bd.returns (by simp) (hb hby at_132) hr
        · exact ⟨rfl, N33⟩
      ·
        have pre35 : ∀ t, Steps p.tables e below (T28.setTop (mkF m 119 #[.val (.int x0), .val (.int x1), .val (.int x2), .val (.int (0 : Int32)), .val (.int ((x1 &&& (7 : Int32)) - (3 : Int32))), .val (.ref w_NONE), .val (.int (0 : Int32))] [(.int ((x1 &&& (7 : Int32)) - (3 : Int32))), (.ref w_NONE)])) t → Steps p.tables e below (s₁.setTop (entryFrame m #[(.int x0), (.int x1), (.int x2)] maxLocals)) t := fun t kk => pre29 t (by
          show Steps p.tables e below (T28.setTop (mkF m 33 #[.val (.int x0), .val (.int x1), .val (.int x2), .val (.int (0 : Int32)), .val (.int ((x1 &&& (7 : Int32)) - (3 : Int32))), .val (.ref w_NONE), .unset] [(.int ((x1 &&& (7 : Int32)) - (3 : Int32)))])) _
          refine XS.ifYes X28.here hx rfl (pc0 := 33) (pc' := 40) rfl (hb hby at_33) rfl ((if0 _ _).trans (feq (hc30 : ¬ (((x1 &&& (7 : Int32)) - (3 : Int32)) = (0 : Int32)))).2) (by decide) (by decide) ?_
          show Steps p.tables e below (T28.setTop (mkF m 40 #[.val (.int x0), .val (.int x1), .val (.int x2), .val (.int (0 : Int32)), .val (.int ((x1 &&& (7 : Int32)) - (3 : Int32))), .val (.ref w_NONE), .unset] [])) _
          refine XS.iconst X28.here hx rfl (hb hby at_40) ?_
          show Steps p.tables e below (T28.setTop (mkF m 41 #[.val (.int x0), .val (.int x1), .val (.int x2), .val (.int (0 : Int32)), .val (.int ((x1 &&& (7 : Int32)) - (3 : Int32))), .val (.ref w_NONE), .unset] [(.int (0 : Int32))])) _
          refine XS.istore X28.here hx rfl (hb hby at_41) rfl (l' := #[.val (.int x0), .val (.int x1), .val (.int x2), .val (.int (0 : Int32)), .val (.int ((x1 &&& (7 : Int32)) - (3 : Int32))), .val (.ref w_NONE), .val (.int (0 : Int32))]) rfl ?_
          show Steps p.tables e below (T28.setTop (mkF m 43 #[.val (.int x0), .val (.int x1), .val (.int x2), .val (.int (0 : Int32)), .val (.int ((x1 &&& (7 : Int32)) - (3 : Int32))), .val (.ref w_NONE), .val (.int (0 : Int32))] [])) _
          refine XS.goto X28.here hx rfl (pc0 := 43) (pc' := 115) rfl (hb hby at_43) (by decide) (by decide) ?_
          show Steps p.tables e below (T28.setTop (mkF m 115 #[.val (.int x0), .val (.int x1), .val (.int x2), .val (.int (0 : Int32)), .val (.int ((x1 &&& (7 : Int32)) - (3 : Int32))), .val (.ref w_NONE), .val (.int (0 : Int32))] [])) _
          refine XS.aload X28.here hx rfl (hb hby at_115) rfl rfl ?_
          show Steps p.tables e below (T28.setTop (mkF m 117 #[.val (.int x0), .val (.int x1), .val (.int x2), .val (.int (0 : Int32)), .val (.int ((x1 &&& (7 : Int32)) - (3 : Int32))), .val (.ref w_NONE), .val (.int (0 : Int32))] [(.ref w_NONE)])) _
          refine XS.iload X28.here hx rfl (hb hby at_117) rfl ?_
          exact kk)
        by_cases hc36 : ((x1 &&& (7 : Int32)) - (3 : Int32)) < (0 : Int32)
        ·
          obtain ⟨cq37, kq37, q37a, q37b, q37c⟩ := isOf hZ e28 E_w_NONE
          obtain ⟨_, _, ⟨T37, L37, k37, n37⟩, -, X37, ⟨Lc37, hQ37, l37, y37, z37⟩, st37⟩ := X28.virtualBack hx (y := (⟨"com/example/ballotwire/ballotwire/simulator/Schedule$Ranks", "allows", "(I)Z"⟩ : MethodName)) (z := (⟨"com/example/ballotwire/ballotwire/simulator/Schedule$Ranks", "allows", "(I)Z"⟩ : MethodName)) hown (mvT hZ (hw _ (List.mem_of_getElem? (i := 3) rfl))) (mvT hZ (hw _ (List.mem_of_getElem? (i := 4) rfl))) (notFace_of_selects (args := #[]) (mvT hZ (hw _ (List.mem_of_getElem? (i := 6) rfl)))) (mvT hZ (hw _ (List.mem_of_getElem? (i := 6) rfl))) (mvT hZ (hw _ (List.mem_of_getElem? (i := 5) rfl))) (by decide) (backOf (W := 0) (rm2 l Z a0 hw [] w_NONE (((x1 &&& (7 : Int32)) - (3 : Int32))) h0 n0 Z0 F_fewest_w_NONE hc36) hZ (hw _ (List.mem_of_getElem? (i := 7) rfl)) (hw _ (List.mem_of_getElem? (i := 1) rfl)) (by decide) (by decide)) q37a q37c (g := (mkF m 119 #[.val (.int x0), .val (.int x1), .val (.int x2), .val (.int (0 : Int32)), .val (.int ((x1 &&& (7 : Int32)) - (3 : Int32))), .val (.ref w_NONE), .val (.int (0 : Int32))] [(.int ((x1 &&& (7 : Int32)) - (3 : Int32))), (.ref w_NONE)])) rfl (by rw [hml]; rfl) (Steps.refl _) (argsL := [(.int ((x1 &&& (7 : Int32)) - (3 : Int32)))]) (rest := []) (lenOf pd_0 rfl) rfl (by show 2 * 0 + _ ≤ _; exact Nat.le_of_eq rfl) (hb hby at_119) (fun _ _ => ⟨rfl, e28, (by decide : 0 + 0 ≤ _), (by decide : 0 + 0 ≤ _)⟩)
          dsimp only [Pt.U, Pt.locs, Pt.cells, Pt.slots] at X37 l37 y37 z37 st37 hQ37
          subst l37 y37 z37
          obtain ⟨rfl, N37q, e37⟩ := hQ37
          have N37 := Fr.app N0 N37q
          have pre38 : ∀ t, Steps p.tables e below (T37.setTop (mkF m 132 #[.val (.int x0), .val (.int x1), .val (.int x2), .val (.int (0 : Int32)), .val (.int ((x1 &&& (7 : Int32)) - (3 : Int32))), .val (.ref w_NONE), .val (.int (0 : Int32))] [(.int (1 : Int32))])) t → Steps p.tables e below (s₁.setTop (entryFrame m #[(.int x0), (.int x1), (.int x2)] maxLocals)) t := fun t kk => pre35 t (by
            show Steps p.tables e below (T28.setTop (mkF m 119 #[.val (.int x0), .val (.int x1), .val (.int x2), .val (.int (0 : Int32)), .val (.int ((x1 &&& (7 : Int32)) - (3 : Int32))), .val (.ref w_NONE), .val (.int (0 : Int32))] [(.int ((x1 &&& (7 : Int32)) - (3 : Int32))), (.ref w_NONE)])) _
            refine st37.trans ?_
            show Steps p.tables e below (T37.setTop (mkF m 122 #[.val (.int x0), .val (.int x1), .val (.int x2), .val (.int (0 : Int32)), .val (.int ((x1 &&& (7 : Int32)) - (3 : Int32))), .val (.ref w_NONE), .val (.int (0 : Int32))] [(.int (0 : Int32))])) _
            refine XS.iload X37.here hx rfl (hb hby at_122) rfl ?_
            show Steps p.tables e below (T37.setTop (mkF m 124 #[.val (.int x0), .val (.int x1), .val (.int x2), .val (.int (0 : Int32)), .val (.int ((x1 &&& (7 : Int32)) - (3 : Int32))), .val (.ref w_NONE), .val (.int (0 : Int32))] [(.int (0 : Int32)), (.int (0 : Int32))])) _
            refine XS.icmpNo X37.here hx rfl (hb hby at_124) rfl (teq ((by decide) : (0 : Int32) = (0 : Int32))).2 ?_
            show Steps p.tables e below (T37.setTop (mkF m 127 #[.val (.int x0), .val (.int x1), .val (.int x2), .val (.int (0 : Int32)), .val (.int ((x1 &&& (7 : Int32)) - (3 : Int32))), .val (.ref w_NONE), .val (.int (0 : Int32))] [])) _
            refine XS.iconst X37.here hx rfl (hb hby at_127) ?_
            show Steps p.tables e below (T37.setTop (mkF m 128 #[.val (.int x0), .val (.int x1), .val (.int x2), .val (.int (0 : Int32)), .val (.int ((x1 &&& (7 : Int32)) - (3 : Int32))), .val (.ref w_NONE), .val (.int (0 : Int32))] [(.int (1 : Int32))])) _
            refine XS.goto X37.here hx rfl (pc0 := 128) (pc' := 132) rfl (hb hby at_128) (by decide) (by decide) ?_
            exact kk)
          obtain ⟨fs, hr, hrun, hended, hW, hsame⟩ := X37.leave (v := some (.int (1 : Int32))) (fun h => by rw [Bd.returns] at h; cases h)
          refine ⟨_, _, pre38 _ ?_, hrun, hended, _, _, rfl, ?_, ⟨_, rfl⟩, hW, hsame.mono (by decide) (by decide)⟩
          · exact retN X37 hx (t := .boolean) Bd.returns (by simp) (hb hby at_132) hr
          · exact ⟨rfl, N37⟩
        ·
          obtain ⟨cq39, kq39, q39a, q39b, q39c⟩ := isOf hZ e28 E_w_NONE
          obtain ⟨_, _, ⟨T39, L39, k39, n39⟩, -, X39, ⟨Lc39, hQ39, l39, y39, z39⟩, st39⟩ := X28.virtualBack hx (y := (⟨"com/example/ballotwire/ballotwire/simulator/Schedule$Ranks", "allows", "(I)Z"⟩ : MethodName)) (z := (⟨"com/example/ballotwire/ballotwire/simulator/Schedule$Ranks", "allows", "(I)Z"⟩ : MethodName)) hown (mvT hZ (hw _ (List.mem_of_getElem? (i := 3) rfl))) (mvT hZ (hw _ (List.mem_of_getElem? (i := 4) rfl))) (notFace_of_selects (args := #[]) (mvT hZ (hw _ (List.mem_of_getElem? (i := 6) rfl)))) (mvT hZ (hw _ (List.mem_of_getElem? (i := 6) rfl))) (mvT hZ (hw _ (List.mem_of_getElem? (i := 5) rfl))) (by decide) (backOf (W := 0) (rm3 l Z a0 hw [] w_NONE (((x1 &&& (7 : Int32)) - (3 : Int32))) h0 n0 Z0 F_fewest_w_NONE hc36 F_most_w_NONE ((own_ar0 x1 hc30 hc36))) hZ (hw _ (List.mem_of_getElem? (i := 7) rfl)) (hw _ (List.mem_of_getElem? (i := 1) rfl)) (by decide) (by decide)) q39a q39c (g := (mkF m 119 #[.val (.int x0), .val (.int x1), .val (.int x2), .val (.int (0 : Int32)), .val (.int ((x1 &&& (7 : Int32)) - (3 : Int32))), .val (.ref w_NONE), .val (.int (0 : Int32))] [(.int ((x1 &&& (7 : Int32)) - (3 : Int32))), (.ref w_NONE)])) rfl (by rw [hml]; rfl) (Steps.refl _) (argsL := [(.int ((x1 &&& (7 : Int32)) - (3 : Int32)))]) (rest := []) (lenOf pd_0 rfl) rfl (by show 2 * 0 + _ ≤ _; exact Nat.le_of_eq rfl) (hb hby at_119) (fun _ _ => ⟨rfl, e28, (by decide : 0 + 0 ≤ _), (by decide : 0 + 0 ≤ _)⟩)
          dsimp only [Pt.U, Pt.locs, Pt.cells, Pt.slots] at X39 l39 y39 z39 st39 hQ39
          subst l39 y39 z39
          obtain ⟨rfl, N39q, e39⟩ := hQ39
          have N39 := Fr.app N0 N39q
          have pre40 : ∀ t, Steps p.tables e below (T39.setTop (mkF m 132 #[.val (.int x0), .val (.int x1), .val (.int x2), .val (.int (0 : Int32)), .val (.int ((x1 &&& (7 : Int32)) - (3 : Int32))), .val (.ref w_NONE), .val (.int (0 : Int32))] [(.int (1 : Int32))])) t → Steps p.tables e below (s₁.setTop (entryFrame m #[(.int x0), (.int x1), (.int x2)] maxLocals)) t := fun t kk => pre35 t (by
            show Steps p.tables e below (T28.setTop (mkF m 119 #[.val (.int x0), .val (.int x1), .val (.int x2), .val (.int (0 : Int32)), .val (.int ((x1 &&& (7 : Int32)) - (3 : Int32))), .val (.ref w_NONE), .val (.int (0 : Int32))] [(.int ((x1 &&& (7 : Int32)) - (3 : Int32))), (.ref w_NONE)])) _
            refine st39.trans ?_
            show Steps p.tables e below (T39.setTop (mkF m 122 #[.val (.int x0), .val (.int x1), .val (.int x2), .val (.int (0 : Int32)), .val (.int ((x1 &&& (7 : Int32)) - (3 : Int32))), .val (.ref w_NONE), .val (.int (0 : Int32))] [(.int (0 : Int32))])) _
            refine XS.iload X39.here hx rfl (hb hby at_122) rfl ?_
            show Steps p.tables e below (T39.setTop (mkF m 124 #[.val (.int x0), .val (.int x1), .val (.int x2), .val (.int (0 : Int32)), .val (.int ((x1 &&& (7 : Int32)) - (3 : Int32))), .val (.ref w_NONE), .val (.int (0 : Int32))] [(.int (0 : Int32)), (.int (0 : Int32))])) _
            refine XS.icmpNo X39.here hx rfl (hb hby at_124) rfl (teq ((by decide) : (0 : Int32) = (0 : Int32))).2 ?_
            show Steps p.tables e below (T39.setTop (mkF m 127 #[.val (.int x0), .val (.int x1), .val (.int x2), .val (.int (0 : Int32)), .val (.int ((x1 &&& (7 : Int32)) - (3 : Int32))), .val (.ref w_NONE), .val (.int (0 : Int32))] [])) _
            refine XS.iconst X39.here hx rfl (hb hby at_127) ?_
            show Steps p.tables e below (T39.setTop (mkF m 128 #[.val (.int x0), .val (.int x1), .val (.int x2), .val (.int (0 : Int32)), .val (.int ((x1 &&& (7 : Int32)) - (3 : Int32))), .val (.ref w_NONE), .val (.int (0 : Int32))] [(.int (1 : Int32))])) _
            refine XS.goto X39.here hx rfl (pc0 := 128) (pc' := 132) rfl (hb hby at_128) (by decide) (by decide) ?_
            exact kk)
          obtain ⟨fs, hr, hrun, hended, hW, hsame⟩ := X39.leave (v := some (.int (1 : Int32))) (fun h => by rw [Bd.returns] at h; cases h)
          refine ⟨_, _, pre40 _ ?_, hrun, hended, _, _, rfl, ?_, ⟨_, rfl⟩, hW, hsame.mono (by decide) (by decide)⟩
          · exact retN X39 hx (t := .boolean) Bd.returns (by simp) (hb hby at_132) hr
          · exact ⟨rfl, N39⟩
    ·
      obtain ⟨T41, X41, e41, st41⟩ := getS2 X0 hx hZ hown (host := "") (Or.inl (hw _ (List.mem_of_getElem? (i := 0) rfl))) Via.refl e0 S_w_NONE (g := (mkF m 26 #[.val (.int x0), .val (.int x1), .val (.int x2), .val (.int (0 : Int32)), .val (.int x1), .unset, .unset] [])) rfl (hb hby at_26)
      have pre42 : ∀ t, Steps p.tables e below (T41.setTop (mkF m 33 #[.val (.int x0), .val (.int x1), .val (.int x2), .val (.int (0 : Int32)), .val (.int x1), .val (.ref w_NONE), .unset] [(.int x1)])) t → Steps p.tables e below (s₁.setTop (entryFrame m #[(.int x0), (.int x1), (.int x2)] maxLocals)) t := fun t kk => pre26 t (by
        show Steps p.tables e below (s₁.setTop (mkF m 7 #[.val (.int x0), .val (.int x1), .val (.int x2), .val (.int (0 : Int32)), .unset, .unset, .unset] [(.int (x2 &&& (1 : Int32)))])) _
        refine XS.ifNo X0.here hx rfl (hb hby at_7) rfl ((if0 _ _).trans (feq (hc27 : ¬ ((x2 &&& (1 : Int32)) = (0 : Int32)))).1) ?_
        show Steps p.tables e below (s₁.setTop (mkF m 10 #[.val (.int x0), .val (.int x1), .val (.int x2), .val (.int (0 : Int32)), .unset, .unset, .unset] [])) _
        refine XS.iloadN X0.here hx rfl (hb hby at_10) rfl ?_
        show Steps p.tables e below (s₁.setTop (mkF m 11 #[.val (.int x0), .val (.int x1), .val (.int x2), .val (.int (0 : Int32)), .unset, .unset, .unset] [(.int x1)])) _
        refine XS.goto X0.here hx rfl (pc0 := 11) (pc' := 20) rfl (hb hby at_11) (by decide) (by decide) ?_
        show Steps p.tables e below (s₁.setTop (mkF m 20 #[.val (.int x0), .val (.int x1), .val (.int x2), .val (.int (0 : Int32)), .unset, .unset, .unset] [(.int x1)])) _
        refine XS.istore X0.here hx rfl (hb hby at_20) rfl (l' := #[.val (.int x0), .val (.int x1), .val (.int x2), .val (.int (0 : Int32)), .val (.int x1), .unset, .unset]) rfl ?_
        show Steps p.tables e below (s₁.setTop (mkF m 22 #[.val (.int x0), .val (.int x1), .val (.int x2), .val (.int (0 : Int32)), .val (.int x1), .unset, .unset] [])) _
        refine XS.iloadN X0.here hx rfl (hb hby at_22) rfl ?_
        show Steps p.tables e below (s₁.setTop (mkF m 23 #[.val (.int x0), .val (.int x1), .val (.int x2), .val (.int (0 : Int32)), .val (.int x1), .unset, .unset] [(.int (0 : Int32))])) _
        refine XS.ifNo X0.here hx rfl (hb hby at_23) rfl ((if0 _ _).trans (teq ((by decide) : (0 : Int32) = (0 : Int32))).2) ?_
        show Steps p.tables e below (s₁.setTop (mkF m 26 #[.val (.int x0), .val (.int x1), .val (.int x2), .val (.int (0 : Int32)), .val (.int x1), .unset, .unset] [])) _
        refine st41 _ ?_
        show Steps p.tables e below (T41.setTop (mkF m 29 #[.val (.int x0), .val (.int x1), .val (.int x2), .val (.int (0 : Int32)), .val (.int x1), .unset, .unset] [(.ref w_NONE)])) _
        refine XS.astore X41.here hx rfl (hb hby at_29) rfl rfl (l' := #[.val (.int x0), .val (.int x1), .val (.int x2), .val (.int (0 : Int32)), .val (.int x1), .val (.ref w_NONE), .unset]) rfl ?_
        show Steps p.tables e below (T41.setTop (mkF m 31 #[.val (.int x0), .val (.int x1), .val (.int x2), .val (.int (0 : Int32)), .val (.int x1), .val (.ref w_NONE), .unset] [])) _
        refine XS.iload X41.here hx rfl (hb hby at_31) rfl ?_
        exact kk)
      by_cases hc43 : x1 = (0 : Int32)
      ·
        obtain ⟨cq44, kq44, q44a, q44b, q44c⟩ := isOf hZ e41 E_w_NONE
        obtain ⟨_, _, ⟨T44, L44, k44, n44⟩, -, X44, ⟨Lc44, hQ44, l44, y44, z44⟩, st44⟩ := X41.virtualBack hx (y := (⟨"com/example/ballotwire/ballotwire/simulator/Schedule$Ranks", "allows", "(I)Z"⟩ : MethodName)) (z := (⟨"com/example/ballotwire/ballotwire/simulator/Schedule$Ranks", "allows", "(I)Z"⟩ : MethodName)) hown (mvT hZ (hw _ (List.mem_of_getElem? (i := 3) rfl))) (mvT hZ (hw _ (List.mem_of_getElem? (i := 4) rfl))) (notFace_of_selects (args := #[]) (mvT hZ (hw _ (List.mem_of_getElem? (i := 6) rfl)))) (mvT hZ (hw _ (List.mem_of_getElem? (i := 6) rfl))) (mvT hZ (hw _ (List.mem_of_getElem? (i := 5) rfl))) (by decide) (backOf (W := 0) (rm4 l Z a0 hw [] w_NONE x1 h0 n0 Z0 F_fewest_w_NONE ((own_ar1 x1 hc43)) F_most_w_NONE ((own_ar2 x1 hc43))) hZ (hw _ (List.mem_of_getElem? (i := 7) rfl)) (hw _ (List.mem_of_getElem? (i := 1) rfl)) (by decide) (by decide)) q44a q44c (g := (mkF m 119 #[.val (.int x0), .val (.int x1), .val (.int x2), .val (.int (0 : Int32)), .val (.int x1), .val (.ref w_NONE), .val (.int (1 : Int32))] [(.int x1), (.ref w_NONE)])) rfl (by rw [hml]; rfl) (Steps.refl _) (argsL := [(.int x1)]) (rest := []) (lenOf pd_0 rfl) rfl (by show 2 * 0 + _ ≤ _; exact Nat.le_of_eq rfl) (hb hby at_119) (fun _ _ => ⟨rfl, e41, (by decide : 0 + 0 ≤ _), (by decide : 0 + 0 ≤ _)⟩)
        dsimp only [Pt.U, Pt.locs, Pt.cells, Pt.slots] at X44 l44 y44 z44 st44 hQ44
        subst l44 y44 z44
        obtain ⟨rfl, N44q, e44⟩ := hQ44
        have N44 := Fr.app N0 N44q
        have pre45 : ∀ t, Steps p.tables e below (T44.setTop (mkF m 132 #[.val (.int x0), .val (.int x1), .val (.int x2), .val (.int (0 : Int32)), .val (.int x1), .val (.ref w_NONE), .val (.int (1 : Int32))] [(.int (1 : Int32))])) t → Steps p.tables e below (s₁.setTop (entryFrame m #[(.int x0), (.int x1), (.int x2)] maxLocals)) t := fun t kk => pre42 t (by
          show Steps p.tables e below (T41.setTop (mkF m 33 #[.val (.int x0), .val (.int x1), .val (.int x2), .val (.int (0 : Int32)), .val (.int x1), .val (.ref w_NONE), .unset] [(.int x1)])) _
          refine XS.ifNo X41.here hx rfl (hb hby at_33) rfl ((if0 _ _).trans (teq (hc43 : x1 = (0 : Int32))).2) ?_
          show Steps p.tables e below (T41.setTop (mkF m 36 #[.val (.int x0), .val (.int x1), .val (.int x2), .val (.int (0 : Int32)), .val (.int x1), .val (.ref w_NONE), .unset] [])) _
          refine XS.iconst X41.here hx rfl (hb hby at_36) ?_
          show Steps p.tables e below (T41.setTop (mkF m 37 #[.val (.int x0), .val (.int x1), .val (.int x2), .val (.int (0 : Int32)), .val (.int x1), .val (.ref w_NONE), .unset] [(.int (1 : Int32))])) _
          refine XS.goto X41.here hx rfl (pc0 := 37) (pc' := 41) rfl (hb hby at_37) (by decide) (by decide) ?_
          show Steps p.tables e below (T41.setTop (mkF m 41 #[.val (.int x0), .val (.int x1), .val (.int x2), .val (.int (0 : Int32)), .val (.int x1), .val (.ref w_NONE), .unset] [(.int (1 : Int32))])) _
          refine XS.istore X41.here hx rfl (hb hby at_41) rfl (l' := #[.val (.int x0), .val (.int x1), .val (.int x2), .val (.int (0 : Int32)), .val (.int x1), .val (.ref w_NONE), .val (.int (1 : Int32))]) rfl ?_
          show Steps p.tables e below (T41.setTop (mkF m 43 #[.val (.int x0), .val (.int x1), .val (.int x2), .val (.int (0 : Int32)), .val (.int x1), .val (.ref w_NONE), .val (.int (1 : Int32))] [])) _
          refine XS.goto X41.here hx rfl (pc0 := 43) (pc' := 115) rfl (hb hby at_43) (by decide) (by decide) ?_
          show Steps p.tables e below (T41.setTop (mkF m 115 #[.val (.int x0), .val (.int x1), .val (.int x2), .val (.int (0 : Int32)), .val (.int x1), .val (.ref w_NONE), .val (.int (1 : Int32))] [])) _
          refine XS.aload X41.here hx rfl (hb hby at_115) rfl rfl ?_
          show Steps p.tables e below (T41.setTop (mkF m 117 #[.val (.int x0), .val (.int x1), .val (.int x2), .val (.int (0 : Int32)), .val (.int x1), .val (.ref w_NONE), .val (.int (1 : Int32))] [(.ref w_NONE)])) _
          refine XS.iload X41.here hx rfl (hb hby at_117) rfl ?_
          show Steps p.tables e below (T41.setTop (mkF m 119 #[.val (.int x0), .val (.int x1), .val (.int x2), .val (.int (0 : Int32)), .val (.int x1), .val (.ref w_NONE), .val (.int (1 : Int32))] [(.int x1), (.ref w_NONE)])) _
          refine st44.trans ?_
          show Steps p.tables e below (T44.setTop (mkF m 122 #[.val (.int x0), .val (.int x1), .val (.int x2), .val (.int (0 : Int32)), .val (.int x1), .val (.ref w_NONE), .val (.int (1 : Int32))] [(.int (1 : Int32))])) _
          refine XS.iload X44.here hx rfl (hb hby at_122) rfl ?_
          show Steps p.tables e below (T44.setTop (mkF m 124 #[.val (.int x0), .val (.int x1), .val (.int x2), .val (.int (0 : Int32)), .val (.int x1), .val (.ref w_NONE), .val (.int (1 : Int32))] [(.int (1 : Int32)), (.int (1 : Int32))])) _
          refine XS.icmpNo X44.here hx rfl (hb hby at_124) rfl (teq ((by decide) : (1 : Int32) = (1 : Int32))).2 ?_
          show Steps p.tables e below (T44.setTop (mkF m 127 #[.val (.int x0), .val (.int x1), .val (.int x2), .val (.int (0 : Int32)), .val (.int x1), .val (.ref w_NONE), .val (.int (1 : Int32))] [])) _
          refine XS.iconst X44.here hx rfl (hb hby at_127) ?_
          show Steps p.tables e below (T44.setTop (mkF m 128 #[.val (.int x0), .val (.int x1), .val (.int x2), .val (.int (0 : Int32)), .val (.int x1), .val (.ref w_NONE), .val (.int (1 : Int32))] [(.int (1 : Int32))])) _
          refine XS.goto X44.here hx rfl (pc0 := 128) (pc' := 132) rfl (hb hby at_128) (by decide) (by decide) ?_
          exact kk)
        obtain ⟨fs, hr, hrun, hended, hW, hsame⟩ := X44.leave (v := some (.int (1 : Int32))) (fun h => by rw [Bd.returns] at h; cases h)
        refine ⟨_, _, pre45 _ ?_, hrun, hended, _, _, rfl, ?_, ⟨_, rfl⟩, hW, hsame.mono (by decide) (by decide)⟩
        · exact retN X44 hx (t := .boolean) Bd.returns (by simp) (hb hby at_132) hr
        · exact ⟨rfl, N44⟩
      ·
        have pre46 : ∀ t, Steps p.tables e below (T41.setTop (mkF m 119 #[.val (.int x0), .val (.int x1), .val (.int x2), .val (.int (0 : Int32)), .val (.int x1), .val (.ref w_NONE), .val (.int (0 : Int32))] [(.int x1), (.ref w_NONE)])) t → Steps p.tables e below (s₁.setTop (entryFrame m #[(.int x0), (.int x1), (.int x2)] maxLocals)) t := fun t kk => pre42 t (by
          show Steps p.tables e below (T41.setTop (mkF m 33 #[.val (.int x0), .val (.int x1), .val (.int x2), .val (.int (0 : Int32)), .val (.int x1), .val (.ref w_NONE), .unset] [(.int x1)])) _
          refine XS.ifYes X41.here hx rfl (pc0 := 33) (pc' := 40) rfl (hb hby at_33) rfl ((if0 _ _).trans (feq (hc43 : ¬ (x1 = (0 : Int32)))).2) (by decide) (by decide) ?_
          show Steps p.tables e below (T41.setTop (mkF m 40 #[.val (.int x0), .val (.int x1), .val (.int x2), .val (.int (0 : Int32)), .val (.int x1), .val (.ref w_NONE), .unset] [])) _
          refine XS.iconst X41.here hx rfl (hb hby at_40) ?_
          show Steps p.tables e below (T41.setTop (mkF m 41 #[.val (.int x0), .val (.int x1), .val (.int x2), .val (.int (0 : Int32)), .val (.int x1), .val (.ref w_NONE), .unset] [(.int (0 : Int32))])) _
          refine XS.istore X41.here hx rfl (hb hby at_41) rfl (l' := #[.val (.int x0), .val (.int x1), .val (.int x2), .val (.int (0 : Int32)), .val (.int x1), .val (.ref w_NONE), .val (.int (0 : Int32))]) rfl ?_
          show Steps p.tables e below (T41.setTop (mkF m 43 #[.val (.int x0), .val (.int x1), .val (.int x2), .val (.int (0 : Int32)), .val (.int x1), .val (.ref w_NONE), .val (.int (0 : Int32))] [])) _
          refine XS.goto X41.here hx rfl (pc0 := 43) (pc' := 115) rfl (hb hby at_43) (by decide) (by decide) ?_
          show Steps p.tables e below (T41.setTop (mkF m 115 #[.val (.int x0), .val (.int x1), .val (.int x2), .val (.int (0 : Int32)), .val (.int x1), .val (.ref w_NONE), .val (.int (0 : Int32))] [])) _
          refine XS.aload X41.here hx rfl (hb hby at_115) rfl rfl ?_
          show Steps p.tables e below (T41.setTop (mkF m 117 #[.val (.int x0), .val (.int x1), .val (.int x2), .val (.int (0 : Int32)), .val (.int x1), .val (.ref w_NONE), .val (.int (0 : Int32))] [(.ref w_NONE)])) _
          refine XS.iload X41.here hx rfl (hb hby at_117) rfl ?_
          exact kk)
        by_cases hc47 : x1 < (0 : Int32)
        ·
          obtain ⟨cq48, kq48, q48a, q48b, q48c⟩ := isOf hZ e41 E_w_NONE
          obtain ⟨_, _, ⟨T48, L48, k48, n48⟩, -, X48, ⟨Lc48, hQ48, l48, y48, z48⟩, st48⟩ := X41.virtualBack hx (y := (⟨"com/example/ballotwire/ballotwire/simulator/Schedule$Ranks", "allows", "(I)Z"⟩ : MethodName)) (z := (⟨"com/example/ballotwire/ballotwire/simulator/Schedule$Ranks", "allows", "(I)Z"⟩ : MethodName)) hown (mvT hZ (hw _ (List.mem_of_getElem? (i := 3) rfl))) (mvT hZ (hw _ (List.mem_of_getElem? (i := 4) rfl))) (notFace_of_selects (args := #[]) (mvT hZ (hw _ (List.mem_of_getElem? (i := 6) rfl)))) (mvT hZ (hw _ (List.mem_of_getElem? (i := 6) rfl))) (mvT hZ (hw _ (List.mem_of_getElem? (i := 5) rfl))) (by decide) (backOf (W := 0) (rm2 l Z a0 hw [] w_NONE x1 h0 n0 Z0 F_fewest_w_NONE hc47) hZ (hw _ (List.mem_of_getElem? (i := 7) rfl)) (hw _ (List.mem_of_getElem? (i := 1) rfl)) (by decide) (by decide)) q48a q48c (g := (mkF m 119 #[.val (.int x0), .val (.int x1), .val (.int x2), .val (.int (0 : Int32)), .val (.int x1), .val (.ref w_NONE), .val (.int (0 : Int32))] [(.int x1), (.ref w_NONE)])) rfl (by rw [hml]; rfl) (Steps.refl _) (argsL := [(.int x1)]) (rest := []) (lenOf pd_0 rfl) rfl (by show 2 * 0 + _ ≤ _; exact Nat.le_of_eq rfl) (hb hby at_119) (fun _ _ => ⟨rfl, e41, (by decide : 0 + 0 ≤ _), (by decide : 0 + 0 ≤ _)⟩)
          dsimp only [Pt.U, Pt.locs, Pt.cells, Pt.slots] at X48 l48 y48 z48 st48 hQ48
          subst l48 y48 z48
          obtain ⟨rfl, N48q, e48⟩ := hQ48
          have N48 := Fr.app N0 N48q
          have pre49 : ∀ t, Steps p.tables e below (T48.setTop (mkF m 132 #[.val (.int x0), .val (.int x1), .val (.int x2), .val (.int (0 : Int32)), .val (.int x1), .val (.ref w_NONE), .val (.int (0 : Int32))] [(.int (1 : Int32))])) t → Steps p.tables e below (s₁.setTop (entryFrame m #[(.int x0), (.int x1), (.int x2)] maxLocals)) t := fun t kk => pre46 t (by
            show Steps p.tables e below (T41.setTop (mkF m 119 #[.val (.int x0), .val (.int x1), .val (.int x2), .val (.int (0 : Int32)), .val (.int x1), .val (.ref w_NONE), .val (.int (0 : Int32))] [(.int x1), (.ref w_NONE)])) _
            refine st48.trans ?_
            show Steps p.tables e below (T48.setTop (mkF m 122 #[.val (.int x0), .val (.int x1), .val (.int x2), .val (.int (0 : Int32)), .val (.int x1), .val (.ref w_NONE), .val (.int (0 : Int32))] [(.int (0 : Int32))])) _
            refine XS.iload X48.here hx rfl (hb hby at_122) rfl ?_
            show Steps p.tables e below (T48.setTop (mkF m 124 #[.val (.int x0), .val (.int x1), .val (.int x2), .val (.int (0 : Int32)), .val (.int x1), .val (.ref w_NONE), .val (.int (0 : Int32))] [(.int (0 : Int32)), (.int (0 : Int32))])) _
            refine XS.icmpNo X48.here hx rfl (hb hby at_124) rfl (teq ((by decide) : (0 : Int32) = (0 : Int32))).2 ?_
            show Steps p.tables e below (T48.setTop (mkF m 127 #[.val (.int x0), .val (.int x1), .val (.int x2), .val (.int (0 : Int32)), .val (.int x1), .val (.ref w_NONE), .val (.int (0 : Int32))] [])) _
            refine XS.iconst X48.here hx rfl (hb hby at_127) ?_
            show Steps p.tables e below (T48.setTop (mkF m 128 #[.val (.int x0), .val (.int x1), .val (.int x2), .val (.int (0 : Int32)), .val (.int x1), .val (.ref w_NONE), .val (.int (0 : Int32))] [(.int (1 : Int32))])) _
            refine XS.goto X48.here hx rfl (pc0 := 128) (pc' := 132) rfl (hb hby at_128) (by decide) (by decide) ?_
            exact kk)
          obtain ⟨fs, hr, hrun, hended, hW, hsame⟩ := X48.leave (v := some (.int (1 : Int32))) (fun h => by rw [Bd.returns] at h; cases h)
          refine ⟨_, _, pre49 _ ?_, hrun, hended, _, _, rfl, ?_, ⟨_, rfl⟩, hW, hsame.mono (by decide) (by decide)⟩
          · exact retN X48 hx (t := .boolean) Bd.returns (by simp) (hb hby at_132) hr
          · exact ⟨rfl, N48⟩
        ·
          obtain ⟨cq50, kq50, q50a, q50b, q50c⟩ := isOf hZ e41 E_w_NONE
          obtain ⟨_, _, ⟨T50, L50, k50, n50⟩, -, X50, ⟨Lc50, hQ50, l50, y50, z50⟩, st50⟩ := X41.virtualBack hx (y := (⟨"com/example/ballotwire/ballotwire/simulator/Schedule$Ranks", "allows", "(I)Z"⟩ : MethodName)) (z := (⟨"com/example/ballotwire/ballotwire/simulator/Schedule$Ranks", "allows", "(I)Z"⟩ : MethodName)) hown (mvT hZ (hw _ (List.mem_of_getElem? (i := 3) rfl))) (mvT hZ (hw _ (List.mem_of_getElem? (i := 4) rfl))) (notFace_of_selects (args := #[]) (mvT hZ (hw _ (List.mem_of_getElem? (i := 6) rfl)))) (mvT hZ (hw _ (List.mem_of_getElem? (i := 6) rfl))) (mvT hZ (hw _ (List.mem_of_getElem? (i := 5) rfl))) (by decide) (backOf (W := 0) (rm3 l Z a0 hw [] w_NONE x1 h0 n0 Z0 F_fewest_w_NONE hc47 F_most_w_NONE ((own_ar3 x1 hc43 hc47))) hZ (hw _ (List.mem_of_getElem? (i := 7) rfl)) (hw _ (List.mem_of_getElem? (i := 1) rfl)) (by decide) (by decide)) q50a q50c (g := (mkF m 119 #[.val (.int x0), .val (.int x1), .val (.int x2), .val (.int (0 : Int32)), .val (.int x1), .val (.ref w_NONE), .val (.int (0 : Int32))] [(.int x1), (.ref w_NONE)])) rfl (by rw [hml]; rfl) (Steps.refl _) (argsL := [(.int x1)]) (rest := []) (lenOf pd_0 rfl) rfl (by show 2 * 0 + _ ≤ _; exact Nat.le_of_eq rfl) (hb hby at_119) (fun _ _ => ⟨rfl, e41, (by decide : 0 + 0 ≤ _), (by decide : 0 + 0 ≤ _)⟩)
          dsimp only [Pt.U, Pt.locs, Pt.cells, Pt.slots] at X50 l50 y50 z50 st50 hQ50
          subst l50 y50 z50
          obtain ⟨rfl, N50q, e50⟩ := hQ50
          have N50 := Fr.app N0 N50q
          have pre51 : ∀ t, Steps p.tables e below (T50.setTop (mkF m 132 #[.val (.int x0), .val (.int x1), .val (.int x2), .val (.int (0 : Int32)), .val (.int x1), .val (.ref w_NONE), .val (.int (0 : Int32))] [(.int (1 : Int32))])) t → Steps p.tables e below (s₁.setTop (entryFrame m #[(.int x0), (.int x1), (.int x2)] maxLocals)) t := fun t kk => pre46 t (by
            show Steps p.tables e below (T41.setTop (mkF m 119 #[.val (.int x0), .val (.int x1), .val (.int x2), .val (.int (0 : Int32)), .val (.int x1), .val (.ref w_NONE), .val (.int (0 : Int32))] [(.int x1), (.ref w_NONE)])) _
            refine st50.trans ?_
            show Steps p.tables e below (T50.setTop (mkF m 122 #[.val (.int x0), .val (.int x1), .val (.int x2), .val (.int (0 : Int32)), .val (.int x1), .val (.ref w_NONE), .val (.int (0 : Int32))] [(.int (0 : Int32))])) _
            refine XS.iload X50.here hx rfl (hb hby at_122) rfl ?_
            show Steps p.tables e below (T50.setTop (mkF m 124 #[.val (.int x0), .val (.int x1), .val (.int x2), .val (.int (0 : Int32)), .val (.int x1), .val (.ref w_NONE), .val (.int (0 : Int32))] [(.int (0 : Int32)), (.int (0 : Int32))])) _
            refine XS.icmpNo X50.here hx rfl (hb hby at_124) rfl (teq ((by decide) : (0 : Int32) = (0 : Int32))).2 ?_
            show Steps p.tables e below (T50.setTop (mkF m 127 #[.val (.int x0), .val (.int x1), .val (.int x2), .val (.int (0 : Int32)), .val (.int x1), .val (.ref w_NONE), .val (.int (0 : Int32))] [])) _
            refine XS.iconst X50.here hx rfl (hb hby at_127) ?_
            show Steps p.tables e below (T50.setTop (mkF m 128 #[.val (.int x0), .val (.int x1), .val (.int x2), .val (.int (0 : Int32)), .val (.int x1), .val (.ref w_NONE), .val (.int (0 : Int32))] [(.int (1 : Int32))])) _
            refine XS.goto X50.here hx rfl (pc0 := 128) (pc' := 132) rfl (hb hby at_128) (by decide) (by decide) ?_
            exact kk)
          obtain ⟨fs, hr, hrun, hended, hW, hsame⟩ := X50.leave (v := some (.int (1 : Int32))) (fun h => by rw [Bd.returns] at h; cases h)
          refine ⟨_, _, pre51 _ ?_, hrun, hended, _, _, rfl, ?_, ⟨_, rfl⟩, hW, hsame.mono (by decide) (by decide)⟩
          · exact retN X50 hx (t := .boolean) Bd.returns (by simp) (hb hby at_132) hr
          · exact ⟨rfl, N50⟩
  ·
    have pre52 := pre23
    rw [hv24] at pre52
    have pre53 : ∀ t, Steps p.tables e below (s₁.setTop (mkF m 7 #[.val (.int x0), .val (.int x1), .val (.int x2), .val (.int (1 : Int32)), .unset, .unset, .unset] [(.int (x2 &&& (1 : Int32)))])) t → Steps p.tables e below (s₁.setTop (entryFrame m #[(.int x0), (.int x1), (.int x2)] maxLocals)) t := fun t kk => pre52 t (by
      show Steps p.tables e below (s₁.setTop (mkF m 3 #[.val (.int x0), .val (.int x1), .val (.int x2), .unset, .unset, .unset, .unset] [(.int (1 : Int32))])) _
      refine XS.istoreN X0.here hx rfl (hb hby at_3) rfl (l' := #[.val (.int x0), .val (.int x1), .val (.int x2), .val (.int (1 : Int32)), .unset, .unset, .unset]) rfl ?_
      show Steps p.tables e below (s₁.setTop (mkF m 4 #[.val (.int x0), .val (.int x1), .val (.int x2), .val (.int (1 : Int32)), .unset, .unset, .unset] [])) _
      refine XS.iloadN X0.here hx rfl (hb hby at_4) rfl ?_
      show Steps p.tables e below (s₁.setTop (mkF m 5 #[.val (.int x0), .val (.int x1), .val (.int x2), .val (.int (1 : Int32)), .unset, .unset, .unset] [(.int x2)])) _
      refine XS.iconst X0.here hx rfl (hb hby at_5) ?_
      show Steps p.tables e below (s₁.setTop (mkF m 6 #[.val (.int x0), .val (.int x1), .val (.int x2), .val (.int (1 : Int32)), .unset, .unset, .unset] [(.int (1 : Int32)), (.int x2)])) _
      refine XS.iand X0.here hx rfl (hb hby at_6) rfl ?_
      exact kk)
    by_cases hc54 : (x2 &&& (1 : Int32)) = (0 : Int32)
    ·
      obtain ⟨T55, X55, e55, st55⟩ := getS2 X0 hx hZ hown (host := "") (Or.inl (hw _ (List.mem_of_getElem? (i := 12) rfl))) Via.refl e0 S_w_ONE (g := (mkF m 51 #[.val (.int x0), .val (.int x1), .val (.int x2), .val (.int (1 : Int32)), .val (.int ((x1 &&& (7 : Int32)) - (3 : Int32))), .unset, .unset] [])) rfl (hb hby at_51)
      have pre56 : ∀ t, Steps p.tables e below (T55.setTop (mkF m 59 #[.val (.int x0), .val (.int x1), .val (.int x2), .val (.int (1 : Int32)), .val (.int ((x1 &&& (7 : Int32)) - (3 : Int32))), .val (.ref w_ONE), .unset] [(.int (1 : Int32)), (.int ((x1 &&& (7 : Int32)) - (3 : Int32)))])) t → Steps p.tables e below (s₁.setTop (entryFrame m #[(.int x0), (.int x1), (.int x2)] maxLocals)) t := fun t kk => pre53 t (by
        show Steps p.tables e below (s₁.setTop (mkF m 7 #[.val (.int x0), .val (.int x1), .val (.int x2), .val (.int (1 : Int32)), .unset, .unset, .unset] [(.int (x2 &&& (1 : Int32)))])) _
        refine XS.ifYes X0.here hx rfl (pc0 := 7) (pc' := 14) rfl (hb hby at_7) rfl ((if0 _ _).trans (teq (hc54 : (x2 &&& (1 : Int32)) = (0 : Int32))).1) (by decide) (by decide) ?_
        show Steps p.tables e below (s₁.setTop (mkF m 14 #[.val (.int x0), .val (.int x1), .val (.int x2), .val (.int (1 : Int32)), .unset, .unset, .unset] [])) _
        refine XS.iloadN X0.here hx rfl (hb hby at_14) rfl ?_
        show Steps p.tables e below (s₁.setTop (mkF m 15 #[.val (.int x0), .val (.int x1), .val (.int x2), .val (.int (1 : Int32)), .unset, .unset, .unset] [(.int x1)])) _
        refine XS.bipush X0.here hx rfl (hb hby at_15) ?_
        show Steps p.tables e below (s₁.setTop (mkF m 17 #[.val (.int x0), .val (.int x1), .val (.int x2), .val (.int (1 : Int32)), .unset, .unset, .unset] [(.int (7 : Int32)), (.int x1)])) _
        refine XS.iand X0.here hx rfl (hb hby at_17) rfl ?_
        show Steps p.tables e below (s₁.setTop (mkF m 18 #[.val (.int x0), .val (.int x1), .val (.int x2), .val (.int (1 : Int32)), .unset, .unset, .unset] [(.int (x1 &&& (7 : Int32)))])) _
        refine XS.iconst X0.here hx rfl (hb hby at_18) ?_
        show Steps p.tables e below (s₁.setTop (mkF m 19 #[.val (.int x0), .val (.int x1), .val (.int x2), .val (.int (1 : Int32)), .unset, .unset, .unset] [(.int (3 : Int32)), (.int (x1 &&& (7 : Int32)))])) _
        refine XS.isub X0.here hx rfl (hb hby at_19) rfl ?_
        show Steps p.tables e below (s₁.setTop (mkF m 20 #[.val (.int x0), .val (.int x1), .val (.int x2), .val (.int (1 : Int32)), .unset, .unset, .unset] [(.int ((x1 &&& (7 : Int32)) - (3 : Int32)))])) _
        refine XS.istore X0.here hx rfl (hb hby at_20) rfl (l' := #[.val (.int x0), .val (.int x1), .val (.int x2), .val (.int (1 : Int32)), .val (.int ((x1 &&& (7 : Int32)) - (3 : Int32))), .unset, .unset]) rfl ?_
        show Steps p.tables e below (s₁.setTop (mkF m 22 #[.val (.int x0), .val (.int x1), .val (.int x2), .val (.int (1 : Int32)), .val (.int ((x1 &&& (7 : Int32)) - (3 : Int32))), .unset, .unset] [])) _
        refine XS.iloadN X0.here hx rfl (hb hby at_22) rfl ?_
        show Steps p.tables e below (s₁.setTop (mkF m 23 #[.val (.int x0), .val (.int x1), .val (.int x2), .val (.int (1 : Int32)), .val (.int ((x1 &&& (7 : Int32)) - (3 : Int32))), .unset, .unset] [(.int (1 : Int32))])) _
        refine XS.ifYes X0.here hx rfl (pc0 := 23) (pc' := 46) rfl (hb hby at_23) rfl ((if0 _ _).trans (feq ((by decide) : ¬ ((1 : Int32) = (0 : Int32)))).2) (by decide) (by decide) ?_
        show Steps p.tables e below (s₁.setTop (mkF m 46 #[.val (.int x0), .val (.int x1), .val (.int x2), .val (.int (1 : Int32)), .val (.int ((x1 &&& (7 : Int32)) - (3 : Int32))), .unset, .unset] [])) _
        refine XS.iloadN X0.here hx rfl (hb hby at_46) rfl ?_
        show Steps p.tables e below (s₁.setTop (mkF m 47 #[.val (.int x0), .val (.int x1), .val (.int x2), .val (.int (1 : Int32)), .val (.int ((x1 &&& (7 : Int32)) - (3 : Int32))), .unset, .unset] [(.int (1 : Int32))])) _
        refine XS.iconst X0.here hx rfl (hb hby at_47) ?_
        show Steps p.tables e below (s₁.setTop (mkF m 48 #[.val (.int x0), .val (.int x1), .val (.int x2), .val (.int (1 : Int32)), .val (.int ((x1 &&& (7 : Int32)) - (3 : Int32))), .unset, .unset] [(.int (1 : Int32)), (.int (1 : Int32))])) _
        refine XS.icmpNo X0.here hx rfl (hb hby at_48) rfl (teq ((by decide) : (1 : Int32) = (1 : Int32))).2 ?_
        show Steps p.tables e below (s₁.setTop (mkF m 51 #[.val (.int x0), .val (.int x1), .val (.int x2), .val (.int (1 : Int32)), .val (.int ((x1 &&& (7 : Int32)) - (3 : Int32))), .unset, .unset] [])) _
        refine st55 _ ?_
        show Steps p.tables e below (T55.setTop (mkF m 54 #[.val (.int x0), .val (.int x1), .val (.int x2), .val (.int (1 : Int32)), .val (.int ((x1 &&& (7 : Int32)) - (3 : Int32))), .unset, .unset] [(.ref w_ONE)])) _
        refine XS.astore X55.here hx rfl (hb hby at_54) rfl rfl (l' := #[.val (.int x0), .val (.int x1), .val (.int x2), .val (.int (1 : Int32)), .val (.int ((x1 &&& (7 : Int32)) - (3 : Int32))), .val (.ref w_ONE), .unset]) rfl ?_
        show Steps p.tables e below (T55.setTop (mkF m 56 #[.val (.int x0), .val (.int x1), .val (.int x2), .val (.int (1 : Int32)), .val (.int ((x1 &&& (7 : Int32)) - (3 : Int32))), .val (.ref w_ONE), .unset] [])) _
        refine XS.iload X55.here hx rfl (hb hby at_56) rfl ?_
        show Steps p.tables e below (T55.setTop (mkF m 58 #[.val (.int x0), .val (.int x1), .val (.int x2), .val (.int (1 : Int32)), .val (.int ((x1 &&& (7 : Int32)) - (3 : Int32))), .val (.ref w_ONE), .unset] [(.int ((x1 &&& (7 : Int32)) - (3 : Int32)))])) _
        refine XS.iconst X55.here hx rfl (hb hby at_58) ?_
        exact kk)
      by_cases hc57 : ((x1 &&& (7 : Int32)) - (3 : Int32)) = (1 : Int32)
      ·
        have pre58 : ∀ t, Steps p.tables e below (T55.setTop (mkF m 62 #[.val (.int x0), .val (.int x1), .val (.int x2), .val (.int (1 : Int32)), .val (.int ((x1 &&& (7 : Int32)) - (3 : Int32))), .val (.ref w_ONE), .unset] [])) t → Steps p.tables e below (s₁.setTop (entryFrame m #[(.int x0), (.int x1), (.int x2)] maxLocals)) t := fun t kk => pre56 t (by
          show Steps p.tables e below (T55.setTop (mkF m 59 #[.val (.int x0), .val (.int x1), .val (.int x2), .val (.int (1 : Int32)), .val (.int ((x1 &&& (7 : Int32)) - (3 : Int32))), .val (.ref w_ONE), .unset] [(.int (1 : Int32)), (.int ((x1 &&& (7 : Int32)) - (3 : Int32)))])) _
          refine XS.icmpNo X55.here hx rfl (hb hby at_59) rfl (teq (hc57 : ((x1 &&& (7 : Int32)) - (3 : Int32)) = (1 : Int32))).2 ?_
          exact kk)
        have pre59 := pre58
        rw [hc57] at pre59
        obtain ⟨cq60, kq60, q60a, q60b, q60c⟩ := isOf hZ e55 E_w_ONE
        obtain ⟨_, _, ⟨T60, L60, k60, n60⟩, -, X60, ⟨Lc60, hQ60, l60, y60, z60⟩, st60⟩ := X55.virtualBack hx (y := (⟨"com/example/ballotwire/ballotwire/simulator/Schedule$Ranks", "allows", "(I)Z"⟩ : MethodName)) (z := (⟨"com/example/ballotwire/ballotwire/simulator/Schedule$Ranks", "allows", "(I)Z"⟩ : MethodName)) hown (mvT hZ (hw _ (List.mem_of_getElem? (i := 3) rfl))) (mvT hZ (hw _ (List.mem_of_getElem? (i := 4) rfl))) (notFace_of_selects (args := #[]) (mvT hZ (hw _ (List.mem_of_getElem? (i := 6) rfl)))) (mvT hZ (hw _ (List.mem_of_getElem? (i := 6) rfl))) (mvT hZ (hw _ (List.mem_of_getElem? (i := 5) rfl))) (by decide) (backOf (W := 0) (rm5 l Z a0 hw [] w_ONE h0 n0 Z0 F_fewest_w_ONE F_most_w_ONE) hZ (hw _ (List.mem_of_getElem? (i := 7) rfl)) (hw _ (List.mem_of_getElem? (i := 1) rfl)) (by decide) (by decide)) q60a q60c (g := (mkF m 119 #[.val (.int x0), .val (.int x1), .val (.int x2), .val (.int (1 : Int32)), .val (.int (1 : Int32)), .val (.ref w_ONE), .val (.int (1 : Int32))] [(.int (1 : Int32)), (.ref w_ONE)])) rfl (by rw [hml]; rfl) (Steps.refl _) (argsL := [(.int (1 : Int32))]) (rest := []) (lenOf pd_0 rfl) rfl (by show 2 * 0 + _ ≤ _; exact Nat.le_of_eq rfl) (hb hby at_119) (fun _ _ => ⟨rfl, e55, (by decide : 0 + 0 ≤ _), (by decide : 0 + 0 ≤ _)⟩)
        dsimp only [Pt.U, Pt.locs, Pt.cells, Pt.slots] at X60 l60 y60 z60 st60 hQ60
        subst l60 y60 z60
        obtain ⟨rfl, N60q, e60⟩ := hQ60
        have N60 := Fr.app N0 N60q
        have pre61 : ∀ t, Steps p.tables e below (T60.setTop (mkF m 132 #[.val (.int x0), .val (.int x1), .val (.int x2), .val (.int (1 : Int32)), .val (.int (1 : Int32)), .val (.ref w_ONE), .val (.int (1 : Int32))] [(.int (1 : Int32))])) t → Steps p.tables e below (s₁.setTop (entryFrame m #[(.int x0), (.int x1), (.int x2)] maxLocals)) t := fun t kk => pre59 t (by
          show Steps p.tables e below (T55.setTop (mkF m 62 #[.val (.int x0), .val (.int x1), .val (.int x2), .val (.int (1 : Int32)), .val (.int (1 : Int32)), .val (.ref w_ONE), .unset] [])) _
          refine XS.iconst X55.here hx rfl (hb hby at_62) ?_
          show Steps p.tables e below (T55.setTop (mkF m 63 #[.val (.int x0), .val (.int x1), .val (.int x2), .val (.int (1 : Int32)), .val (.int (1 : Int32)), .val (.ref w_ONE), .unset] [(.int (1 : Int32))])) _
          refine XS.goto X55.here hx rfl (pc0 := 63) (pc' := 67) rfl (hb hby at_63) (by decide) (by decide) ?_
          show Steps p.tables e below (T55.setTop (mkF m 67 #[.val (.int x0), .val (.int x1), .val (.int x2), .val (.int (1 : Int32)), .val (.int (1 : Int32)), .val (.ref w_ONE), .unset] [(.int (1 : Int32))])) _
          refine XS.istore X55.here hx rfl (hb hby at_67) rfl (l' := #[.val (.int x0), .val (.int x1), .val (.int x2), .val (.int (1 : Int32)), .val (.int (1 : Int32)), .val (.ref w_ONE), .val (.int (1 : Int32))]) rfl ?_
          show Steps p.tables e below (T55.setTop (mkF m 69 #[.val (.int x0), .val (.int x1), .val (.int x2), .val (.int (1 : Int32)), .val (.int (1 : Int32)), .val (.ref w_ONE), .val (.int (1 : Int32))] [])) _
          refine XS.goto X55.here hx rfl (pc0 := 69) (pc' := 115) rfl (hb hby at_69) (by decide) (by decide) ?_
          show Steps p.tables e below (T55.setTop (mkF m 115 #[.val (.int x0), .val (.int x1), .val (.int x2), .val (.int (1 : Int32)), .val (.int (1 : Int32)), .val (.ref w_ONE), .val (.int (1 : Int32))] [])) _
          refine XS.aload X55.here hx rfl (hb hby at_115) rfl rfl ?_
          show Steps p.tables e below (T55.setTop (mkF m 117 #[.val (.int x0), .val (.int x1), .val (.int x2), .val (.int (1 : Int32)), .val (.int (1 : Int32)), .val (.ref w_ONE), .val (.int (1 : Int32))] [(.ref w_ONE)])) _
          refine XS.iload X55.here hx rfl (hb hby at_117) rfl ?_
          show Steps p.tables e below (T55.setTop (mkF m 119 #[.val (.int x0), .val (.int x1), .val (.int x2), .val (.int (1 : Int32)), .val (.int (1 : Int32)), .val (.ref w_ONE), .val (.int (1 : Int32))] [(.int (1 : Int32)), (.ref w_ONE)])) _
          refine st60.trans ?_
          show Steps p.tables e below (T60.setTop (mkF m 122 #[.val (.int x0), .val (.int x1), .val (.int x2), .val (.int (1 : Int32)), .val (.int (1 : Int32)), .val (.ref w_ONE), .val (.int (1 : Int32))] [(.int (1 : Int32))])) _
          refine XS.iload X60.here hx rfl (hb hby at_122) rfl ?_
          show Steps p.tables e below (T60.setTop (mkF m 124 #[.val (.int x0), .val (.int x1), .val (.int x2), .val (.int (1 : Int32)), .val (.int (1 : Int32)), .val (.ref w_ONE), .val (.int (1 : Int32))] [(.int (1 : Int32)), (.int (1 : Int32))])) _
          refine XS.icmpNo X60.here hx rfl (hb hby at_124) rfl (teq ((by decide) : (1 : Int32) = (1 : Int32))).2 ?_
          show Steps p.tables e below (T60.setTop (mkF m 127 #[.val (.int x0), .val (.int x1), .val (.int x2), .val (.int (1 : Int32)), .val (.int (1 : Int32)), .val (.ref w_ONE), .val (.int (1 : Int32))] [])) _
          refine XS.iconst X60.here hx rfl (hb hby at_127) ?_
          show Steps p.tables e below (T60.setTop (mkF m 128 #[.val (.int x0), .val (.int x1), .val (.int x2), .val (.int (1 : Int32)), .val (.int (1 : Int32)), .val (.ref w_ONE), .val (.int (1 : Int32))] [(.int (1 : Int32))])) _
          refine XS.goto X60.here hx rfl (pc0 := 128) (pc' := 132) rfl (hb hby at_128) (by decide) (by decide) ?_
          exact kk)
        obtain ⟨fs, hr, hrun, hended, hW, hsame⟩ := X60.leave (v := some (.int (1 : Int32))) (fun h => by rw [Bd.returns] at h; cases h)
        refine ⟨_, _, pre61 _ ?_, hrun, hended, _, _, rfl, ?_, ⟨_, rfl⟩, hW, hsame.mono (by decide) (by decide)⟩
        · exact retN X60 hx (t := .boolean) Bd.returns (by simp) (hb hby at_132) hr
        · exact ⟨rfl, N60⟩
      ·
        have pre62 : ∀ t, Steps p.tables e below (T55.setTop (mkF m 119 #[.val (.int x0), .val (.int x1), .val (.int x2), .val (.int (1 : Int32)), .val (.int ((x1 &&& (7 : Int32)) - (3 : Int32))), .val (.ref w_ONE), .val (.int (0 : Int32))] [(.int ((x1 &&& (7 : Int32)) - (3 : Int32))), (.ref w_ONE)])) t → Steps p.tables e below (s₁.setTop (entryFrame m #[(.int x0), (.int x1), (.int x2)] maxLocals)) t := fun t kk => pre56 t (by
          show Steps p.tables e below (T55.setTop (mkF m 59 #[.val (.int x0), .val (.int x1), .val (.int x2), .val (.int (1 : Int32)), .val (.int ((x1 &&& (7 : Int32)) - (3 : Int32))), .val (.ref w_ONE), .unset] [(.int (1 : Int32)), (.int ((x1 &&& (7 : Int32)) - (3 : Int32)))])) _
          refine XS.icmpYes X55.here hx rfl (pc0 := 59) (pc' := 66) rfl (hb hby at_59) rfl (feq (hc57 : ¬ (((x1 &&& (7 : Int32)) - (3 : Int32)) = (1 : Int32)))).2 (by decide) (by decide) ?_
          show Steps p.tables e below (T55.setTop (mkF m 66 #[.val (.int x0), .val (.int x1), .val (.int x2), .val (.int (1 : Int32)), .val (.int ((x1 &&& (7 : Int32)) - (3 : Int32))), .val (.ref w_ONE), .unset] [])) _
          refine XS.iconst X55.here hx rfl (hb hby at_66) ?_
          show Steps p.tables e below (T55.setTop (mkF m 67 #[.val (.int x0), .val (.int x1), .val (.int x2), .val (.int (1 : Int32)), .val (.int ((x1 &&& (7 : Int32)) - (3 : Int32))), .val (.ref w_ONE), .unset] [(.int (0 : Int32))])) _
          refine XS.istore X55.here hx rfl (hb hby at_67) rfl (l' := #[.val (.int x0), .val (.int x1), .val (.int x2), .val (.int (1 : Int32)), .val (.int ((x1 &&& (7 : Int32)) - (3 : Int32))), .val (.ref w_ONE), .val (.int (0 : Int32))]) rfl ?_
          show Steps p.tables e below (T55.setTop (mkF m 69 #[.val (.int x0), .val (.int x1), .val (.int x2), .val (.int (1 : Int32)), .val (.int ((x1 &&& (7 : Int32)) - (3 : Int32))), .val (.ref w_ONE), .val (.int (0 : Int32))] [])) _
          refine XS.goto X55.here hx rfl (pc0 := 69) (pc' := 115) rfl (hb hby at_69) (by decide) (by decide) ?_
          show Steps p.tables e below (T55.setTop (mkF m 115 #[.val (.int x0), .val (.int x1), .val (.int x2), .val (.int (1 : Int32)), .val (.int ((x1 &&& (7 : Int32)) - (3 : Int32))), .val (.ref w_ONE), .val (.int (0 : Int32))] [])) _
          refine XS.aload X55.here hx rfl (hb hby at_115) rfl rfl ?_
          show Steps p.tables e below (T55.setTop (mkF m 117 #[.val (.int x0), .val (.int x1), .val (.int x2), .val (.int (1 : Int32)), .val (.int ((x1 &&& (7 : Int32)) - (3 : Int32))), .val (.ref w_ONE), .val (.int (0 : Int32))] [(.ref w_ONE)])) _
          refine XS.iload X55.here hx rfl (hb hby at_117) rfl ?_
          exact kk)
        by_cases hc63 : ((x1 &&& (7 : Int32)) - (3 : Int32)) < (1 : Int32)
        ·
          obtain ⟨cq64, kq64, q64a, q64b, q64c⟩ := isOf hZ e55 E_w_ONE
          obtain ⟨_, _, ⟨T64, L64, k64, n64⟩, -, X64, ⟨Lc64, hQ64, l64, y64, z64⟩, st64⟩ := X55.virtualBack hx (y := (⟨"com/example/ballotwire/ballotwire/simulator/Schedule$Ranks", "allows", "(I)Z"⟩ : MethodName)) (z := (⟨"com/example/ballotwire/ballotwire/simulator/Schedule$Ranks", "allows", "(I)Z"⟩ : MethodName)) hown (mvT hZ (hw _ (List.mem_of_getElem? (i := 3) rfl))) (mvT hZ (hw _ (List.mem_of_getElem? (i := 4) rfl))) (notFace_of_selects (args := #[]) (mvT hZ (hw _ (List.mem_of_getElem? (i := 6) rfl)))) (mvT hZ (hw _ (List.mem_of_getElem? (i := 6) rfl))) (mvT hZ (hw _ (List.mem_of_getElem? (i := 5) rfl))) (by decide) (backOf (W := 0) (rm6 l Z a0 hw [] w_ONE (((x1 &&& (7 : Int32)) - (3 : Int32))) h0 n0 Z0 F_fewest_w_ONE hc63) hZ (hw _ (List.mem_of_getElem? (i := 7) rfl)) (hw _ (List.mem_of_getElem? (i := 1) rfl)) (by decide) (by decide)) q64a q64c (g := (mkF m 119 #[.val (.int x0), .val (.int x1), .val (.int x2), .val (.int (1 : Int32)), .val (.int ((x1 &&& (7 : Int32)) - (3 : Int32))), .val (.ref w_ONE), .val (.int (0 : Int32))] [(.int ((x1 &&& (7 : Int32)) - (3 : Int32))), (.ref w_ONE)])) rfl (by rw [hml]; rfl) (Steps.refl _) (argsL := [(.int ((x1 &&& (7 : Int32)) - (3 : Int32)))]) (rest := []) (lenOf pd_0 rfl) rfl (by show 2 * 0 + _ ≤ _; exact Nat.le_of_eq rfl) (hb hby at_119) (fun _ _ => ⟨rfl, e55, (by decide : 0 + 0 ≤ _), (by decide : 0 + 0 ≤ _)⟩)
          dsimp only [Pt.U, Pt.locs, Pt.cells, Pt.slots] at X64 l64 y64 z64 st64 hQ64
          subst l64 y64 z64
          obtain ⟨rfl, N64q, e64⟩ := hQ64
          have N64 := Fr.app N0 N64q
          have pre65 : ∀ t, Steps p.tables e below (T64.setTop (mkF m 132 #[.val (.int x0), .val (.int x1), .val (.int x2), .val (.int (1 : Int32)), .val (.int ((x1 &&& (7 : Int32)) - (3 : Int32))), .val (.ref w_ONE), .val (.int (0 : Int32))] [(.int (1 : Int32))])) t → Steps p.tables e below (s₁.setTop (entryFrame m #[(.int x0), (.int x1), (.int x2)] maxLocals)) t := fun t kk => pre62 t (by
            show Steps p.tables e below (T55.setTop (mkF m 119 #[.val (.int x0), .val (.int x1), .val (.int x2), .val (.int (1 : Int32)), .val (.int ((x1 &&& (7 : Int32)) - (3 : Int32))), .val (.ref w_ONE), .val (.int (0 : Int32))] [(.int ((x1 &&& (7 : Int32)) - (3 : Int32))), (.ref w_ONE)])) _
            refine st64.trans ?_
            show Steps p.tables e below (T64.setTop (mkF m 122 #[.val (.int x0), .val (.int x1), .val (.int x2), .val (.int (1 : Int32)), .val (.int ((x1 &&& (7 : Int32)) - (3 : Int32))), .val (.ref w_ONE), .val (.int (0 : Int32))] [(.int (0 : Int32))])) _
            refine XS.iload X64.here hx rfl (hb hby at_122) rfl ?_
            show Steps p.tables e below (T64.setTop (mkF m 124 #[.val (.int x0), .val (.int x1), .val (.int x2), .val (.int (1 : Int32)), .val (.int ((x1 &&& (7 : Int32)) - (3 : Int32))), .val (.ref w_ONE), .val (.int (0 : Int32))] [(.int (0 : Int32)), (.int (0 : Int32))])) _
            refine XS.icmpNo X64.here hx rfl (hb hby at_124) rfl (teq ((by decide) : (0 : Int32) = (0 : Int32))).2 ?_
            show Steps p.tables e below (T64.setTop (mkF m 127 #[.val (.int x0), .val (.int x1), .val (.int x2), .val (.int (1 : Int32)), .val (.int ((x1 &&& (7 : Int32)) - (3 : Int32))), .val (.ref w_ONE), .val (.int (0 : Int32))] [])) _
            refine XS.iconst X64.here hx rfl (hb hby at_127) ?_
            show Steps p.tables e below (T64.setTop (mkF m 128 #[.val (.int x0), .val (.int x1), .val (.int x2), .val (.int (1 : Int32)), .val (.int ((x1 &&& (7 : Int32)) - (3 : Int32))), .val (.ref w_ONE), .val (.int (0 : Int32))] [(.int (1 : Int32))])) _
            refine XS.goto X64.here hx rfl (pc0 := 128) (pc' := 132) rfl (hb hby at_128) (by decide) (by decide) ?_
            exact kk)
          obtain ⟨fs, hr, hrun, hended, hW, hsame⟩ := X64.leave (v := some (.int (1 : Int32))) (fun h => by rw [Bd.returns] at h; cases h)
          refine ⟨_, _, pre65 _ ?_, hrun, hended, _, _, rfl, ?_, ⟨_, rfl⟩, hW, hsame.mono (by decide) (by decide)⟩
          · exact retN X64 hx (t := .boolean) Bd.returns (by simp) (hb hby at_132) hr
          · exact ⟨rfl, N64⟩
        ·
          obtain ⟨cq66, kq66, q66a, q66b, q66c⟩ := isOf hZ e55 E_w_ONE
          obtain ⟨_, _, ⟨T66, L66, k66, n66⟩, -, X66, ⟨Lc66, hQ66, l66, y66, z66⟩, st66⟩ := X55.virtualBack hx (y := (⟨"com/example/ballotwire/ballotwire/simulator/Schedule$Ranks", "allows", "(I)Z"⟩ : MethodName)) (z := (⟨"com/example/ballotwire/ballotwire/simulator/Schedule$Ranks", "allows", "(I)Z"⟩ : MethodName)) hown (mvT hZ (hw _ (List.mem_of_getElem? (i := 3) rfl))) (mvT hZ (hw _ (List.mem_of_getElem? (i := 4) rfl))) (notFace_of_selects (args := #[]) (mvT hZ (hw _ (List.mem_of_getElem? (i := 6) rfl)))) (mvT hZ (hw _ (List.mem_of_getElem? (i := 6) rfl))) (mvT hZ (hw _ (List.mem_of_getElem? (i := 5) rfl))) (by decide) (backOf (W := 0) (rm7 l Z a0 hw [] w_ONE (((x1 &&& (7 : Int32)) - (3 : Int32))) h0 n0 Z0 F_fewest_w_ONE hc63 F_most_w_ONE ((own_ar4 x1 hc57 hc63))) hZ (hw _ (List.mem_of_getElem? (i := 7) rfl)) (hw _ (List.mem_of_getElem? (i := 1) rfl)) (by decide) (by decide)) q66a q66c (g := (mkF m 119 #[.val (.int x0), .val (.int x1), .val (.int x2), .val (.int (1 : Int32)), .val (.int ((x1 &&& (7 : Int32)) - (3 : Int32))), .val (.ref w_ONE), .val (.int (0 : Int32))] [(.int ((x1 &&& (7 : Int32)) - (3 : Int32))), (.ref w_ONE)])) rfl (by rw [hml]; rfl) (Steps.refl _) (argsL := [(.int ((x1 &&& (7 : Int32)) - (3 : Int32)))]) (rest := []) (lenOf pd_0 rfl) rfl (by show 2 * 0 + _ ≤ _; exact Nat.le_of_eq rfl) (hb hby at_119) (fun _ _ => ⟨rfl, e55, (by decide : 0 + 0 ≤ _), (by decide : 0 + 0 ≤ _)⟩)
          dsimp only [Pt.U, Pt.locs, Pt.cells, Pt.slots] at X66 l66 y66 z66 st66 hQ66
          subst l66 y66 z66
          obtain ⟨rfl, N66q, e66⟩ := hQ66
          have N66 := Fr.app N0 N66q
          have pre67 : ∀ t, Steps p.tables e below (T66.setTop (mkF m 132 #[.val (.int x0), .val (.int x1), .val (.int x2), .val (.int (1 : Int32)), .val (.int ((x1 &&& (7 : Int32)) - (3 : Int32))), .val (.ref w_ONE), .val (.int (0 : Int32))] [(.int (1 : Int32))])) t → Steps p.tables e below (s₁.setTop (entryFrame m #[(.int x0), (.int x1), (.int x2)] maxLocals)) t := fun t kk => pre62 t (by
            show Steps p.tables e below (T55.setTop (mkF m 119 #[.val (.int x0), .val (.int x1), .val (.int x2), .val (.int (1 : Int32)), .val (.int ((x1 &&& (7 : Int32)) - (3 : Int32))), .val (.ref w_ONE), .val (.int (0 : Int32))] [(.int ((x1 &&& (7 : Int32)) - (3 : Int32))), (.ref w_ONE)])) _
            refine st66.trans ?_
            show Steps p.tables e below (T66.setTop (mkF m 122 #[.val (.int x0), .val (.int x1), .val (.int x2), .val (.int (1 : Int32)), .val (.int ((x1 &&& (7 : Int32)) - (3 : Int32))), .val (.ref w_ONE), .val (.int (0 : Int32))] [(.int (0 : Int32))])) _
            refine XS.iload X66.here hx rfl (hb hby at_122) rfl ?_
            show Steps p.tables e below (T66.setTop (mkF m 124 #[.val (.int x0), .val (.int x1), .val (.int x2), .val (.int (1 : Int32)), .val (.int ((x1 &&& (7 : Int32)) - (3 : Int32))), .val (.ref w_ONE), .val (.int (0 : Int32))] [(.int (0 : Int32)), (.int (0 : Int32))])) _
            refine XS.icmpNo X66.here hx rfl (hb hby at_124) rfl (teq ((by decide) : (0 : Int32) = (0 : Int32))).2 ?_
            show Steps p.tables e below (T66.setTop (mkF m 127 #[.val (.int x0), .val (.int x1), .val (.int x2), .val (.int (1 : Int32)), .val (.int ((x1 &&& (7 : Int32)) - (3 : Int32))), .val (.ref w_ONE), .val (.int (0 : Int32))] [])) _
            refine XS.iconst X66.here hx rfl (hb hby at_127) ?_
            show Steps p.tables e below (T66.setTop (mkF m 128 #[.val (.int x0), .val (.int x1), .val (.int x2), .val (.int (1 : Int32)), .val (.int ((x1 &&& (7 : Int32)) - (3 : Int32))), .val (.ref w_ONE), .val (.int (0 : Int32))] [(.int (1 : Int32))])) _
            refine XS.goto X66.here hx rfl (pc0 := 128) (pc' := 132) rfl (hb hby at_128) (by decide) (by decide) ?_
            exact kk)
          obtain ⟨fs, hr, hrun, hended, hW, hsame⟩ := X66.leave (v := some (.int (1 : Int32))) (fun h => by rw [Bd.returns] at h; cases h)
          refine ⟨_, _, pre67 _ ?_, hrun, hended, _, _, rfl, ?_, ⟨_, rfl⟩, hW, hsame.mono (by decide) (by decide)⟩
          · exact retN X66 hx (t := .boolean) Bd.returns (by simp) (hb hby at_132) hr
          · exact ⟨rfl, N66⟩
    ·
      obtain ⟨T68, X68, e68, st68⟩ := getS2 X0 hx hZ hown (host := "") (Or.inl (hw _ (List.mem_of_getElem? (i := 12) rfl))) Via.refl e0 S_w_ONE (g := (mkF m 51 #[.val (.int x0), .val (.int x1), .val (.int x2), .val (.int (1 : Int32)), .val (.int x1), .unset, .unset] [])) rfl (hb hby at_51)
      have pre69 : ∀ t, Steps p.tables e below (T68.setTop (mkF m 59 #[.val (.int x0), .val (.int x1), .val (.int x2), .val (.int (1 : Int32)), .val (.int x1), .val (.ref w_ONE), .unset] [(.int (1 : Int32)), (.int x1)])) t → Steps p.tables e below (s₁.setTop (entryFrame m #[(.int x0), (.int x1), (.int x2)] maxLocals)) t := fun t kk => pre53 t (by
        show Steps p.tables e below (s₁.setTop (mkF m 7 #[.val (.int x0), .val (.int x1), .val (.int x2), .val (.int (1 : Int32)), .unset, .unset, .unset] [(.int (x2 &&& (1 : Int32)))])) _
        refine XS.ifNo X0.here hx rfl (hb hby at_7) rfl ((if0 _ _).trans (feq (hc54 : ¬ ((x2 &&& (1 : Int32)) = (0 : Int32)))).1) ?_
        show Steps p.tables e below (s₁.setTop (mkF m 10 #[.val (.int x0), .val (.int x1), .val (.int x2), .val (.int (1 : Int32)), .unset, .unset, .unset] [])) _
        refine XS.iloadN X0.here hx rfl (hb hby at_10) rfl ?_
        show Steps p.tables e below (s₁.setTop (mkF m 11 #[.val (.int x0), .val (.int x1), .val (.int x2), .val (.int (1 : Int32)), .unset, .unset, .unset] [(.int x1)])) _
        refine XS.goto X0.here hx rfl (pc0 := 11) (pc' := 20) rfl (hb hby at_11) (by decide) (by decide) ?_
        show Steps p.tables e below (s₁.setTop (mkF m 20 #[.val (.int x0), .val (.int x1), .val (.int x2), .val (.int (1 : Int32)), .unset, .unset, .unset] [(.int x1)])) _
        refine XS.istore X0.here hx rfl (hb hby at_20) rfl (l' := #[.val (.int x0), .val (.int x1), .val (.int x2), .val (.int (1 : Int32)), .val (.int x1), .unset, .unset]) rfl ?_
        show Steps p.tables e below (s₁.setTop (mkF m 22 #[.val (.int x0), .val (.int x1), .val (.int x2), .val (.int (1 : Int32)), .val (.int x1), .unset, .unset] [])) _
        refine XS.iloadN X0.here hx rfl (hb hby at_22) rfl ?_
        show Steps p.tables e below (s₁.setTop (mkF m 23 #[.val (.int x0), .val (.int x1), .val (.int x2), .val (.int (1 : Int32)), .val (.int x1), .unset, .unset] [(.int (1 : Int32))])) _
        refine XS.ifYes X0.here hx rfl (pc0 := 23) (pc' := 46) rfl (hb hby at_23) rfl ((if0 _ _).trans (feq ((by decide) : ¬ ((1 : Int32) = (0 : Int32)))).2) (by decide) (by decide) ?_
        show Steps p.tables e below (s₁.setTop (mkF m 46 #[.val (.int x0), .val (.int x1), .val (.int x2), .val (.int (1 : Int32)), .val (.int x1), .unset, .unset] [])) _
        refine XS.iloadN X0.here hx rfl (hb hby at_46) rfl ?_
        show Steps p.tables e below (s₁.setTop (mkF m 47 #[.val (.int x0), .val (.int x1), .val (.int x2), .val (.int (1 : Int32)), .val (.int x1), .unset, .unset] [(.int (1 : Int32))])) _
        refine XS.iconst X0.here hx rfl (hb hby at_47) ?_
        show Steps p.tables e below (s₁.setTop (mkF m 48 #[.val (.int x0), .val (.int x1), .val (.int x2), .val (.int (1 : Int32)), .val (.int x1), .unset, .unset] [(.int (1 : Int32)), (.int (1 : Int32))])) _
        refine XS.icmpNo X0.here hx rfl (hb hby at_48) rfl (teq ((by decide) : (1 : Int32) = (1 : Int32))).2 ?_
        show Steps p.tables e below (s₁.setTop (mkF m 51 #[.val (.int x0), .val (.int x1), .val (.int x2), .val (.int (1 : Int32)), .val (.int x1), .unset, .unset] [])) _
        refine st68 _ ?_
        show Steps p.tables e below (T68.setTop (mkF m 54 #[.val (.int x0), .val (.int x1), .val (.int x2), .val (.int (1 : Int32)), .val (.int x1), .unset, .unset] [(.ref w_ONE)])) _
        refine XS.astore X68.here hx rfl (hb hby at_54) rfl rfl (l' := #[.val (.int x0), .val (.int x1), .val (.int x2), .val (.int (1 : Int32)), .val (.int x1), .val (.ref w_ONE), .unset]) rfl ?_
        show Steps p.tables e below (T68.setTop (mkF m 56 #[.val (.int x0), .val (.int x1), .val (.int x2), .val (.int (1 : Int32)), .val (.int x1), .val (.ref w_ONE), .unset] [])) _
        refine XS.iload X68.here hx rfl (hb hby at_56) rfl ?_
        show Steps p.tables e below (T68.setTop (mkF m 58 #[.val (.int x0), .val (.int x1), .val (.int x2), .val (.int (1 : Int32)), .val (.int x1), .val (.ref w_ONE), .unset] [(.int x1)])) _
        refine XS.iconst X68.here hx rfl (hb hby at_58) ?_
        exact kk)
      by_cases hc70 : x1 = (1 : Int32)
      ·
        obtain ⟨cq71, kq71, q71a, q71b, q71c⟩ := isOf hZ e68 E_w_ONE
        obtain ⟨_, _, ⟨T71, L71, k71, n71⟩, -, X71, ⟨Lc71, hQ71, l71, y71, z71⟩, st71⟩ := X68.virtualBack hx (y := (⟨"com/example/ballotwire/ballotwire/simulator/Schedule$Ranks", "allows", "(I)Z"⟩ : MethodName)) (z := (⟨"com/example/ballotwire/ballotwire/simulator/Schedule$Ranks", "allows", "(I)Z"⟩ : MethodName)) hown (mvT hZ (hw _ (List.mem_of_getElem? (i := 3) rfl))) (mvT hZ (hw _ (List.mem_of_getElem? (i := 4) rfl))) (notFace_of_selects (args := #[]) (mvT hZ (hw _ (List.mem_of_getElem? (i := 6) rfl)))) (mvT hZ (hw _ (List.mem_of_getElem? (i := 6) rfl))) (mvT hZ (hw _ (List.mem_of_getElem? (i := 5) rfl))) (by decide) (backOf (W := 0) (rm8 l Z a0 hw [] w_ONE x1 h0 n0 Z0 F_fewest_w_ONE ((own_ar5 x1 hc70)) F_most_w_ONE ((own_ar6 x1 hc70))) hZ (hw _ (List.mem_of_getElem? (i := 7) rfl)) (hw _ (List.mem_of_getElem? (i := 1) rfl)) (by decide) (by decide)) q71a q71c (g := (mkF m 119 #[.val (.int x0), .val (.int x1), .val (.int x2), .val (.int (1 : Int32)), .val (.int x1), .val (.ref w_ONE), .val (.int (1 : Int32))] [(.int x1), (.ref w_ONE)])) rfl (by rw [hml]; rfl) (Steps.refl _) (argsL := [(.int x1)]) (rest := []) (lenOf pd_0 rfl) rfl (by show 2 * 0 + _ ≤ _; exact Nat.le_of_eq rfl) (hb hby at_119) (fun _ _ => ⟨rfl, e68, (by decide : 0 + 0 ≤ _), (by decide : 0 + 0 ≤ _)⟩)
        dsimp only [Pt.U, Pt.locs, Pt.cells, Pt.slots] at X71 l71 y71 z71 st71 hQ71
        subst l71 y71 z71
        obtain ⟨rfl, N71q, e71⟩ := hQ71
        have N71 := Fr.app N0 N71q
        have pre72 : ∀ t, Steps p.tables e below (T71.setTop (mkF m 132 #[.val (.int x0), .val (.int x1), .val (.int x2), .val (.int (1 : Int32)), .val (.int x1), .val (.ref w_ONE), .val (.int (1 : Int32))] [(.int (1 : Int32))])) t → Steps p.tables e below (s₁.setTop (entryFrame m #[(.int x0), (.int x1), (.int x2)] maxLocals)) t := fun t kk => pre69 t (by
          show Steps p.tables e below (T68.setTop (mkF m 59 #[.val (.int x0), .val (.int x1), .val (.int x2), .val (.int (1 : Int32)), .val (.int x1), .val (.ref w_ONE), .unset] [(.int (1 : Int32)), (.int x1)])) _
          refine XS.icmpNo X68.here hx rfl (hb hby at_59) rfl (teq (hc70 : x1 = (1 : Int32))).2 ?_
          show Steps p.tables e below (T68.setTop (mkF m 62 #[.val (.int x0), .val (.int x1), .val (.int x2), .val (.int (1 : Int32)), .val (.int x1), .val (.ref w_ONE), .unset] [])) _
          refine XS.iconst X68.here hx rfl (hb hby at_62) ?_
          show Steps p.tables e below (T68.setTop (mkF m 63 #[.val (.int x0), .val (.int x1), .val (.int x2), .val (.int (1 : Int32)), .val (.int x1), .val (.ref w_ONE), .unset] [(.int (1 : Int32))])) _
          refine XS.goto X68.here hx rfl (pc0 := 63) (pc' := 67) rfl (hb hby at_63) (by decide) (by decide) ?_
          show Steps p.tables e below (T68.setTop (mkF m 67 #[.val (.int x0), .val (.int x1), .val (.int x2), .val (.int (1 : Int32)), .val (.int x1), .val (.ref w_ONE), .unset] [(.int (1 : Int32))])) _
          refine XS.istore X68.here hx rfl (hb hby at_67) rfl (l' := #[.val (.int x0), .val (.int x1), .val (.int x2), .val (.int (1 : Int32)), .val (.int x1), .val (.ref w_ONE), .val (.int (1 : Int32))]) rfl ?_
          show Steps p.tables e below (T68.setTop (mkF m 69 #[.val (.int x0), .val (.int x1), .val (.int x2), .val (.int (1 : Int32)), .val (.int x1), .val (.ref w_ONE), .val (.int (1 : Int32))] [])) _
          refine XS.goto X68.here hx rfl (pc0 := 69) (pc' := 115) rfl (hb hby at_69) (by decide) (by decide) ?_
          show Steps p.tables e below (T68.setTop (mkF m 115 #[.val (.int x0), .val (.int x1), .val (.int x2), .val (.int (1 : Int32)), .val (.int x1), .val (.ref w_ONE), .val (.int (1 : Int32))] [])) _
          refine XS.aload X68.here hx rfl (hb hby at_115) rfl rfl ?_
          show Steps p.tables e below (T68.setTop (mkF m 117 #[.val (.int x0), .val (.int x1), .val (.int x2), .val (.int (1 : Int32)), .val (.int x1), .val (.ref w_ONE), .val (.int (1 : Int32))] [(.ref w_ONE)])) _
          refine XS.iload X68.here hx rfl (hb hby at_117) rfl ?_
          show Steps p.tables e below (T68.setTop (mkF m 119 #[.val (.int x0), .val (.int x1), .val (.int x2), .val (.int (1 : Int32)), .val (.int x1), .val (.ref w_ONE), .val (.int (1 : Int32))] [(.int x1), (.ref w_ONE)])) _
          refine st71.trans ?_
          show Steps p.tables e below (T71.setTop (mkF m 122 #[.val (.int x0), .val (.int x1), .val (.int x2), .val (.int (1 : Int32)), .val (.int x1), .val (.ref w_ONE), .val (.int (1 : Int32))] [(.int (1 : Int32))])) _
          refine XS.iload X71.here hx rfl (hb hby at_122) rfl ?_
          show Steps p.tables e below (T71.setTop (mkF m 124 #[.val (.int x0), .val (.int x1), .val (.int x2), .val (.int (1 : Int32)), .val (.int x1), .val (.ref w_ONE), .val (.int (1 : Int32))] [(.int (1 : Int32)), (.int (1 : Int32))])) _
          refine XS.icmpNo X71.here hx rfl (hb hby at_124) rfl (teq ((by decide) : (1 : Int32) = (1 : Int32))).2 ?_
          show Steps p.tables e below (T71.setTop (mkF m 127 #[.val (.int x0), .val (.int x1), .val (.int x2), .val (.int (1 : Int32)), .val (.int x1), .val (.ref w_ONE), .val (.int (1 : Int32))] [])) _
          refine XS.iconst X71.here hx rfl (hb hby at_127) ?_
          show Steps p.tables e below (T71.setTop (mkF m 128 #[.val (.int x0), .val (.int x1), .val (.int x2), .val (.int (1 : Int32)), .val (.int x1), .val (.ref w_ONE), .val (.int (1 : Int32))] [(.int (1 : Int32))])) _
          refine XS.goto X71.here hx rfl (pc0 := 128) (pc' := 132) rfl (hb hby at_128) (by decide) (by decide) ?_
          exact kk)
        obtain ⟨fs, hr, hrun, hended, hW, hsame⟩ := X71.leave (v := some (.int (1 : Int32))) (fun h => by rw [Bd.returns] at h; cases h)
        refine ⟨_, _, pre72 _ ?_, hrun, hended, _, _, rfl, ?_, ⟨_, rfl⟩, hW, hsame.mono (by decide) (by decide)⟩
        · exact retN X71 hx (t := .boolean) Bd.returns (by simp) (hb hby at_132) hr
        · exact ⟨rfl, N71⟩
      ·
        have pre73 : ∀ t, Steps p.tables e below (T68.setTop (mkF m 119 #[.val (.int x0), .val (.int x1), .val (.int x2), .val (.int (1 : Int32)), .val (.int x1), .val (.ref w_ONE), .val (.int (0 : Int32))] [(.int x1), (.ref w_ONE)])) t → Steps p.tables e below (s₁.setTop (entryFrame m #[(.int x0), (.int x1), (.int x2)] maxLocals)) t := fun t kk => pre69 t (by
          show Steps p.tables e below (T68.setTop (mkF m 59 #[.val (.int x0), .val (.int x1), .val (.int x2), .val (.int (1 : Int32)), .val (.int x1), .val (.ref w_ONE), .unset] [(.int (1 : Int32)), (.int x1)])) _
          refine XS.icmpYes X68.here hx rfl (pc0 := 59) (pc' := 66) rfl (hb hby at_59) rfl (feq (hc70 : ¬ (x1 = (1 : Int32)))).2 (by decide) (by decide) ?_
          show Steps p.tables e below (T68.setTop (mkF m 66 #[.val (.int x0), .val (.int x1), .val (.int x2), .val (.int (1 : Int32)), .val (.int x1), .val (.ref w_ONE), .unset] [])) _
          refine XS.iconst X68.here hx rfl (hb hby at_66) ?_
          show Steps p.tables e below (T68.setTop (mkF m 67 #[.val (.int x0), .val (.int x1), .val (.int x2), .val (.int (1 : Int32)), .val (.int x1), .val (.ref w_ONE), .unset] [(.int (0 : Int32))])) _
          refine XS.istore X68.here hx rfl (hb hby at_67) rfl (l' := #[.val (.int x0), .val (.int x1), .val (.int x2), .val (.int (1 : Int32)), .val (.int x1), .val (.ref w_ONE), .val (.int (0 : Int32))]) rfl ?_
          show Steps p.tables e below (T68.setTop (mkF m 69 #[.val (.int x0), .val (.int x1), .val (.int x2), .val (.int (1 : Int32)), .val (.int x1), .val (.ref w_ONE), .val (.int (0 : Int32))] [])) _
          refine XS.goto X68.here hx rfl (pc0 := 69) (pc' := 115) rfl (hb hby at_69) (by decide) (by decide) ?_
          show Steps p.tables e below (T68.setTop (mkF m 115 #[.val (.int x0), .val (.int x1), .val (.int x2), .val (.int (1 : Int32)), .val (.int x1), .val (.ref w_ONE), .val (.int (0 : Int32))] [])) _
          refine XS.aload X68.here hx rfl (hb hby at_115) rfl rfl ?_
          show Steps p.tables e below (T68.setTop (mkF m 117 #[.val (.int x0), .val (.int x1), .val (.int x2), .val (.int (1 : Int32)), .val (.int x1), .val (.ref w_ONE), .val (.int (0 : Int32))] [(.ref w_ONE)])) _
          refine XS.iload X68.here hx rfl (hb hby at_117) rfl ?_
          exact kk)
        by_cases hc74 : x1 < (1 : Int32)
        ·
          obtain ⟨cq75, kq75, q75a, q75b, q75c⟩ := isOf hZ e68 E_w_ONE
          obtain ⟨_, _, ⟨T75, L75, k75, n75⟩, -, X75, ⟨Lc75, hQ75, l75, y75, z75⟩, st75⟩ := X68.virtualBack hx (y := (⟨"com/example/ballotwire/ballotwire/simulator/Schedule$Ranks", "allows", "(I)Z"⟩ : MethodName)) (z := (⟨"com/example/ballotwire/ballotwire/simulator/Schedule$Ranks", "allows", "(I)Z"⟩ : MethodName)) hown (mvT hZ (hw _ (List.mem_of_getElem? (i := 3) rfl))) (mvT hZ (hw _ (List.mem_of_getElem? (i := 4) rfl))) (notFace_of_selects (args := #[]) (mvT hZ (hw _ (List.mem_of_getElem? (i := 6) rfl)))) (mvT hZ (hw _ (List.mem_of_getElem? (i := 6) rfl))) (mvT hZ (hw _ (List.mem_of_getElem? (i := 5) rfl))) (by decide) (backOf (W := 0) (rm6 l Z a0 hw [] w_ONE x1 h0 n0 Z0 F_fewest_w_ONE hc74) hZ (hw _ (List.mem_of_getElem? (i := 7) rfl)) (hw _ (List.mem_of_getElem? (i := 1) rfl)) (by decide) (by decide)) q75a q75c (g := (mkF m 119 #[.val (.int x0), .val (.int x1), .val (.int x2), .val (.int (1 : Int32)), .val (.int x1), .val (.ref w_ONE), .val (.int (0 : Int32))] [(.int x1), (.ref w_ONE)])) rfl (by rw [hml]; rfl) (Steps.refl _) (argsL := [(.int x1)]) (rest := []) (lenOf pd_0 rfl) rfl (by show 2 * 0 + _ ≤ _; exact Nat.le_of_eq rfl) (hb hby at_119) (fun _ _ => ⟨rfl, e68, (by decide : 0 + 0 ≤ _), (by decide : 0 + 0 ≤ _)⟩)
          dsimp only [Pt.U, Pt.locs, Pt.cells, Pt.slots] at X75 l75 y75 z75 st75 hQ75
          subst l75 y75 z75
          obtain ⟨rfl, N75q, e75⟩ := hQ75
          have N75 := Fr.app N0 N75q
          have pre76 : ∀ t, Steps p.tables e below (T75.setTop (mkF m 132 #[.val (.int x0), .val (.int x1), .val (.int x2), .val (.int (1 : Int32)), .val (.int x1), .val (.ref w_ONE), .val (.int (0 : Int32))] [(.int (1 : Int32))])) t → Steps p.tables e below (s₁.setTop (entryFrame m #[(.int x0), (.int x1), (.int x2)] maxLocals)) t := fun t kk => pre73 t (by
            show Steps p.tables e below (T68.setTop (mkF m 119 #[.val (.int x0), .val (.int x1), .val (.int x2), .val (.int (1 : Int32)), .val (.int x1), .val (.ref w_ONE), .val (.int (0 : Int32))] [(.int x1), (.ref w_ONE)])) _
            refine st75.trans ?_
            show Steps p.tables e below (T75.setTop (mkF m 122 #[.val (.int x0), .val (.int x1), .val (.int x2), .val (.int (1 : Int32)), .val (.int x1), .val (.ref w_ONE), .val (.int (0 : Int32))] [(.int (0 : Int32))])) _
            refine XS.iload X75.here hx rfl (hb hby at_122) rfl ?_
            show Steps p.tables e below (T75.setTop (mkF m 124 #[.val (.int x0), .val (.int x1), .val (.int x2), .val (.int (1 : Int32)), .val (.int x1), .val (.ref w_ONE), .val (.int (0 : Int32))] [(.int (0 : Int32)), (.int (0 : Int32))])) _
            refine XS.icmpNo X75.here hx rfl (hb hby at_124) rfl (teq ((by decide) : (0 : Int32) = (0 : Int32))).2 ?_
            show Steps p.tables e below (T75.setTop (mkF m 127 #[.val (.int x0), .val (.int x1), .val (.int x2), .val (.int (1 : Int32)), .val (.int x1), .val (.ref w_ONE), .val (.int (0 : Int32))] [])) _
            refine XS.iconst X75.here hx rfl (hb hby at_127) ?_
            show Steps p.tables e below (T75.setTop (mkF m 128 #[.val (.int x0), .val (.int x1), .val (.int x2), .val (.int (1 : Int32)), .val (.int x1), .val (.ref w_ONE), .val (.int (0 : Int32))] [(.int (1 : Int32))])) _
            refine XS.goto X75.here hx rfl (pc0 := 128) (pc' := 132) rfl (hb hby at_128) (by decide) (by decide) ?_
            exact kk)
          obtain ⟨fs, hr, hrun, hended, hW, hsame⟩ := X75.leave (v := some (.int (1 : Int32))) (fun h => by rw [Bd.returns] at h; cases h)
          refine ⟨_, _, pre76 _ ?_, hrun, hended, _, _, rfl, ?_, ⟨_, rfl⟩, hW, hsame.mono (by decide) (by decide)⟩
          · exact retN X75 hx (t := .boolean) Bd.returns (by simp) (hb hby at_132) hr
          · exact ⟨rfl, N75⟩
        ·
          obtain ⟨cq77, kq77, q77a, q77b, q77c⟩ := isOf hZ e68 E_w_ONE
          obtain ⟨_, _, ⟨T77, L77, k77, n77⟩, -, X77, ⟨Lc77, hQ77, l77, y77, z77⟩, st77⟩ := X68.virtualBack hx (y := (⟨"com/example/ballotwire/ballotwire/simulator/Schedule$Ranks", "allows", "(I)Z"⟩ : MethodName)) (z := (⟨"com/example/ballotwire/ballotwire/simulator/Schedule$Ranks", "allows", "(I)Z"⟩ : MethodName)) hown (mvT hZ (hw _ (List.mem_of_getElem? (i := 3) rfl))) (mvT hZ (hw _ (List.mem_of_getElem? (i := 4) rfl))) (notFace_of_selects (args := #[]) (mvT hZ (hw _ (List.mem_of_getElem? (i := 6) rfl)))) (mvT hZ (hw _ (List.mem_of_getElem? (i := 6) rfl))) (mvT hZ (hw _ (List.mem_of_getElem? (i := 5) rfl))) (by decide) (backOf (W := 0) (rm7 l Z a0 hw [] w_ONE x1 h0 n0 Z0 F_fewest_w_ONE hc74 F_most_w_ONE ((own_ar7 x1 hc70 hc74))) hZ (hw _ (List.mem_of_getElem? (i := 7) rfl)) (hw _ (List.mem_of_getElem? (i := 1) rfl)) (by decide) (by decide)) q77a q77c (g := (mkF m 119 #[.val (.int x0), .val (.int x1), .val (.int x2), .val (.int (1 : Int32)), .val (.int x1), .val (.ref w_ONE), .val (.int (0 : Int32))] [(.int x1), (.ref w_ONE)])) rfl (by rw [hml]; rfl) (Steps.refl _) (argsL := [(.int x1)]) (rest := []) (lenOf pd_0 rfl) rfl (by show 2 * 0 + _ ≤ _; exact Nat.le_of_eq rfl) (hb hby at_119) (fun _ _ => ⟨rfl, e68, (by decide : 0 + 0 ≤ _), (by decide : 0 + 0 ≤ _)⟩)
          dsimp only [Pt.U, Pt.locs, Pt.cells, Pt.slots] at X77 l77 y77 z77 st77 hQ77
          subst l77 y77 z77
          obtain ⟨rfl, N77q, e77⟩ := hQ77
          have N77 := Fr.app N0 N77q
          have pre78 : ∀ t, Steps p.tables e below (T77.setTop (mkF m 132 #[.val (.int x0), .val (.int x1), .val (.int x2), .val (.int (1 : Int32)), .val (.int x1), .val (.ref w_ONE), .val (.int (0 : Int32))] [(.int (1 : Int32))])) t → Steps p.tables e below (s₁.setTop (entryFrame m #[(.int x0), (.int x1), (.int x2)] maxLocals)) t := fun t kk => pre73 t (by
            show Steps p.tables e below (T68.setTop (mkF m 119 #[.val (.int x0), .val (.int x1), .val (.int x2), .val (.int (1 : Int32)), .val (.int x1), .val (.ref w_ONE), .val (.int (0 : Int32))] [(.int x1), (.ref w_ONE)])) _
            refine st77.trans ?_
            show Steps p.tables e below (T77.setTop (mkF m 122 #[.val (.int x0), .val (.int x1), .val (.int x2), .val (.int (1 : Int32)), .val (.int x1), .val (.ref w_ONE), .val (.int (0 : Int32))] [(.int (0 : Int32))])) _
            refine XS.iload X77.here hx rfl (hb hby at_122) rfl ?_
            show Steps p.tables e below (T77.setTop (mkF m 124 #[.val (.int x0), .val (.int x1), .val (.int x2), .val (.int (1 : Int32)), .val (.int x1), .val (.ref w_ONE), .val (.int (0 : Int32))] [(.int (0 : Int32)), (.int (0 : Int32))])) _
            refine XS.icmpNo X77.here hx rfl (hb hby at_124) rfl (teq ((by decide) : (0 : Int32) = (0 : Int32))).2 ?_
            show Steps p.tables e below (T77.setTop (mkF m 127 #[.val (.int x0), .val (.int x1), .val (.int x2), .val (.int (1 : Int32)), .val (.int x1), .val (.ref w_ONE), .val (.int (0 : Int32))] [])) _
            refine XS.iconst X77.here hx rfl (hb hby at_127) ?_
            show Steps p.tables e below (T77.setTop (mkF m 128 #[.val (.int x0), .val (.int x1), .val (.int x2), .val (.int (1 : Int32)), .val (.int x1), .val (.ref w_ONE), .val (.int (0 : Int32))] [(.int (1 : Int32))])) _
            refine XS.goto X77.here hx rfl (pc0 := 128) (pc' := 132) rfl (hb hby at_128) (by decide) (by decide) ?_
            exact kk)
          obtain ⟨fs, hr, hrun, hended, hW, hsame⟩ := X77.leave (v := some (.int (1 : Int32))) (fun h => by rw [Bd.returns] at h; cases h)
          refine ⟨_, _, pre78 _ ?_, hrun, hended, _, _, rfl, ?_, ⟨_, rfl⟩, hW, hsame.mono (by decide) (by decide)⟩
          · exact retN X77 hx (t := .boolean) Bd.returns (by simp) (hb hby at_132) hr
          · exact ⟨rfl, N77⟩
  ·
    have pre79 := pre23
    rw [hv24] at pre79
    have pre80 : ∀ t, Steps p.tables e below (s₁.setTop (mkF m 7 #[.val (.int x0), .val (.int x1), .val (.int x2), .val (.int (2 : Int32)), .unset, .unset, .unset] [(.int (x2 &&& (1 : Int32)))])) t → Steps p.tables e below (s₁.setTop (entryFrame m #[(.int x0), (.int x1), (.int x2)] maxLocals)) t := fun t kk => pre79 t (by
      show Steps p.tables e below (s₁.setTop (mkF m 3 #[.val (.int x0), .val (.int x1), .val (.int x2), .unset, .unset, .unset, .unset] [(.int (2 : Int32))])) _
      refine XS.istoreN X0.here hx rfl (hb hby at_3) rfl (l' := #[.val (.int x0), .val (.int x1), .val (.int x2), .val (.int (2 : Int32)), .unset, .unset, .unset]) rfl ?_
      show Steps p.tables e below (s₁.setTop (mkF m 4 #[.val (.int x0), .val (.int x1), .val (.int x2), .val (.int (2 : Int32)), .unset, .unset, .unset] [])) _
      refine XS.iloadN X0.here hx rfl (hb hby at_4) rfl ?_
      show Steps p.tables e below (s₁.setTop (mkF m 5 #[.val (.int x0), .val (.int x1), .val (.int x2), .val (.int (2 : Int32)), .unset, .unset, .unset] [(.int x2)])) _
      refine XS.iconst X0.here hx rfl (hb hby at_5) ?_
      show Steps p.tables e below (s₁.setTop (mkF m 6 #[.val (.int x0), .val (.int x1), .val (.int x2), .val (.int (2 : Int32)), .unset, .unset, .unset] [(.int (1 : Int32)), (.int x2)])) _
      refine XS.iand X0.here hx rfl (hb hby at_6) rfl ?_
      exact kk)
    by_cases hc81 : (x2 &&& (1 : Int32)) = (0 : Int32)
    ·
      obtain ⟨T82, X82, e82, st82⟩ := getS2 X0 hx hZ hown (host := "") (Or.inl (hw _ (List.mem_of_getElem? (i := 16) rfl))) Via.refl e0 S_w_TWO (g := (mkF m 77 #[.val (.int x0), .val (.int x1), .val (.int x2), .val (.int (2 : Int32)), .val (.int ((x1 &&& (7 : Int32)) - (3 : Int32))), .unset, .unset] [])) rfl (hb hby at_77)
      have pre83 : ∀ t, Steps p.tables e below (T82.setTop (mkF m 85 #[.val (.int x0), .val (.int x1), .val (.int x2), .val (.int (2 : Int32)), .val (.int ((x1 &&& (7 : Int32)) - (3 : Int32))), .val (.ref w_TWO), .unset] [(.int (2 : Int32)), (.int ((x1 &&& (7 : Int32)) - (3 : Int32)))])) t → Steps p.tables e below (s₁.setTop (entryFrame m #[(.int x0), (.int x1), (.int x2)] maxLocals)) t := fun t kk => pre80 t (by
        show Steps p.tables e below (s₁.setTop (mkF m 7 #[.val (.int x0), .val (.int x1), .val (.int x2), .val (.int (2 : Int32)), .unset, .unset, .unset] [(.int (x2 &&& (1 : Int32)))])) _
        refine XS.ifYes X0.here hx rfl (pc0 := 7) (pc' := 14) rfl (hb hby at_7) rfl ((if0 _ _).trans (teq (hc81 : (x2 &&& (1 : Int32)) = (0 : Int32))).1) (by decide) (by decide) ?_
        show Steps p.tables e below (s₁.setTop (mkF m 14 #[.val (.int x0), .val (.int x1), .val (.int x2), .val (.int (2 : Int32)), .unset, .unset, .unset] [])) _
        refine XS.iloadN X0.here hx rfl (hb hby at_14) rfl ?_
        show Steps p.tables e below (s₁.setTop (mkF m 15 #[.val (.int x0), .val (.int x1), .val (.int x2), .val (.int (2 : Int32)), .unset, .unset, .unset] [(.int x1)])) _
        refine XS.bipush X0.here hx rfl (hb hby at_15) ?_
        show Steps p.tables e below (s₁.setTop (mkF m 17 #[.val (.int x0), .val (.int x1), .val (.int x2), .val (.int (2 : Int32)), .unset, .unset, .unset] [(.int (7 : Int32)), (.int x1)])) _
        refine XS.iand X0.here hx rfl (hb hby at_17) rfl ?_
        show Steps p.tables e below (s₁.setTop (mkF m 18 #[.val (.int x0), .val (.int x1), .val (.int x2), .val (.int (2 : Int32)), .unset, .unset, .unset] [(.int (x1 &&& (7 : Int32)))])) _
        refine XS.iconst X0.here hx rfl (hb hby at_18) ?_
        show Steps p.tables e below (s₁.setTop (mkF m 19 #[.val (.int x0), .val (.int x1), .val (.int x2), .val (.int (2 : Int32)), .unset, .unset, .unset] [(.int (3 : Int32)), (.int (x1 &&& (7 : Int32)))])) _
        refine XS.isub X0.here hx rfl (hb hby at_19) rfl ?_
        show Steps p.tables e below (s₁.setTop (mkF m 20 #[.val (.int x0), .val (.int x1), .val (.int x2), .val (.int (2 : Int32)), .unset, .unset, .unset] [(.int ((x1 &&& (7 : Int32)) - (3 : Int32)))])) _
        refine XS.istore X0.here hx rfl (hb hby at_20) rfl (l' := #[.val (.int x0), .val (.int x1), .val (.int x2), .val (.int (2 : Int32)), .val (.int ((x1 &&& (7 : Int32)) - (3 : Int32))), .unset, .unset]) rfl ?_
        show Steps p.tables e below (s₁.setTop (mkF m 22 #[.val (.int x0), .val (.int x1), .val (.int x2), .val (.int (2 : Int32)), .val (.int ((x1 &&& (7 : Int32)) - (3 : Int32))), .unset, .unset] [])) _
        refine XS.iloadN X0.here hx rfl (hb hby at_22) rfl ?_
        show Steps p.tables e below (s₁.setTop (mkF m 23 #[.val (.int x0), .val (.int x1), .val (.int x2), .val (.int (2 : Int32)), .val (.int ((x1 &&& (7 : Int32)) - (3 : Int32))), .unset, .unset] [(.int (2 : Int32))])) _
        refine XS.ifYes X0.here hx rfl (pc0 := 23) (pc' := 46) rfl (hb hby at_23) rfl ((if0 _ _).trans (feq ((by decide) : ¬ ((2 : Int32) = (0 : Int32)))).2) (by decide) (by decide) ?_
        show Steps p.tables e below (s₁.setTop (mkF m 46 #[.val (.int x0), .val (.int x1), .val (.int x2), .val (.int (2 : Int32)), .val (.int ((x1 &&& (7 : Int32)) - (3 : Int32))), .unset, .unset] [])) _
        refine XS.iloadN X0.here hx rfl (hb hby at_46) rfl ?_
        show Steps p.tables e below (s₁.setTop (mkF m 47 #[.val (.int x0), .val (.int x1), .val (.int x2), .val (.int (2 : Int32)), .val (.int ((x1 &&& (7 : Int32)) - (3 : Int32))), .unset, .unset] [(.int (2 : Int32))])) _
        refine XS.iconst X0.here hx rfl (hb hby at_47) ?_
        show Steps p.tables e below (s₁.setTop (mkF m 48 #[.val (.int x0), .val (.int x1), .val (.int x2), .val (.int (2 : Int32)), .val (.int ((x1 &&& (7 : Int32)) - (3 : Int32))), .unset, .unset] [(.int (1 : Int32)), (.int (2 : Int32))])) _
        refine XS.icmpYes X0.here hx rfl (pc0 := 48) (pc' := 72) rfl (hb hby at_48) rfl (feq ((by decide) : ¬ ((2 : Int32) = (1 : Int32)))).2 (by decide) (by decide) ?_
        show Steps p.tables e below (s₁.setTop (mkF m 72 #[.val (.int x0), .val (.int x1), .val (.int x2), .val (.int (2 : Int32)), .val (.int ((x1 &&& (7 : Int32)) - (3 : Int32))), .unset, .unset] [])) _
        refine XS.iloadN X0.here hx rfl (hb hby at_72) rfl ?_
        show Steps p.tables e below (s₁.setTop (mkF m 73 #[.val (.int x0), .val (.int x1), .val (.int x2), .val (.int (2 : Int32)), .val (.int ((x1 &&& (7 : Int32)) - (3 : Int32))), .unset, .unset] [(.int (2 : Int32))])) _
        refine XS.iconst X0.here hx rfl (hb hby at_73) ?_
        show Steps p.tables e below (s₁.setTop (mkF m 74 #[.val (.int x0), .val (.int x1), .val (.int x2), .val (.int (2 : Int32)), .val (.int ((x1 &&& (7 : Int32)) - (3 : Int32))), .unset, .unset] [(.int (2 : Int32)), (.int (2 : Int32))])) _
        refine XS.icmpNo X0.here hx rfl (hb hby at_74) rfl (teq ((by decide) : (2 : Int32) = (2 : Int32))).2 ?_
        show Steps p.tables e below (s₁.setTop (mkF m 77 #[.val (.int x0), .val (.int x1), .val (.int x2), .val (.int (2 : Int32)), .val (.int ((x1 &&& (7 : Int32)) - (3 : Int32))), .unset, .unset] [])) _
        refine st82 _ ?_
        show Steps p.tables e below (T82.setTop (mkF m 80 #[.val (.int x0), .val (.int x1), .val (.int x2), .val (.int (2 : Int32)), .val (.int ((x1 &&& (7 : Int32)) - (3 : Int32))), .unset, .unset] [(.ref w_TWO)])) _
        refine XS.astore X82.here hx rfl (hb hby at_80) rfl rfl (l' := #[.val (.int x0), .val (.int x1), .val (.int x2), .val (.int (2 : Int32)), .val (.int ((x1 &&& (7 : Int32)) - (3 : Int32))), .val (.ref w_TWO), .unset]) rfl ?_
        show Steps p.tables e below (T82.setTop (mkF m 82 #[.val (.int x0), .val (.int x1), .val (.int x2), .val (.int (2 : Int32)), .val (.int ((x1 &&& (7 : Int32)) - (3 : Int32))), .val (.ref w_TWO), .unset] [])) _
        refine XS.iload X82.here hx rfl (hb hby at_82) rfl ?_
        show Steps p.tables e below (T82.setTop (mkF m 84 #[.val (.int x0), .val (.int x1), .val (.int x2), .val (.int (2 : Int32)), .val (.int ((x1 &&& (7 : Int32)) - (3 : Int32))), .val (.ref w_TWO), .unset] [(.int ((x1 &&& (7 : Int32)) - (3 : Int32)))])) _
        refine XS.iconst X82.here hx rfl (hb hby at_84) ?_
        exact kk)
      by_cases hc84 : ((x1 &&& (7 : Int32)) - (3 : Int32)) = (2 : Int32)
      ·
        have pre85 : ∀ t, Steps p.tables e below (T82.setTop (mkF m 88 #[.val (.int x0), .val (.int x1), .val (.int x2), .val (.int (2 : Int32)), .val (.int ((x1 &&& (7 : Int32)) - (3 : Int32))), .val (.ref w_TWO), .unset] [])) t → Steps p.tables e below (s₁.setTop (entryFrame m #[(.int x0), (.int x1), (.int x2)] maxLocals)) t := fun t kk => pre83 t (by
          show Steps p.tables e below (T82.setTop (mkF m 85 #[.val (.int x0), .val (.int x1), .val (.int x2), .val (.int (2 : Int32)), .val (.int ((x1 &&& (7 : Int32)) - (3 : Int32))), .val (.ref w_TWO), .unset] [(.int (2 : Int32)), (.int ((x1 &&& (7 : Int32)) - (3 : Int32)))])) _
          refine XS.icmpNo X82.here hx rfl (hb hby at_85) rfl (teq (hc84 : ((x1 &&& (7 : Int32)) - (3 : Int32)) = (2 : Int32))).2 ?_
          exact kk)
        have pre86 := pre85
        rw [hc84] at pre86
        obtain ⟨cq87, kq87, q87a, q87b, q87c⟩ := isOf hZ e82 E_w_TWO
        obtain ⟨_, _, ⟨T87, L87, k87, n87⟩, -, X87, ⟨Lc87, hQ87, l87, y87, z87⟩, st87⟩ := X82.virtualBack hx (y := (⟨"com/example/ballotwire/ballotwire/simulator/Schedule$Ranks", "allows", "(I)Z"⟩ : MethodName)) (z := (⟨"com/example/ballotwire/ballotwire/simulator/Schedule$Ranks", "allows", "(I)Z"⟩ : MethodName)) hown (mvT hZ (hw _ (List.mem_of_getElem? (i := 3) rfl))) (mvT hZ (hw _ (List.mem_of_getElem? (i := 4) rfl))) (notFace_of_selects (args := #[]) (mvT hZ (hw _ (List.mem_of_getElem? (i := 6) rfl)))) (mvT hZ (hw _ (List.mem_of_getElem? (i := 6) rfl))) (mvT hZ (hw _ (List.mem_of_getElem? (i := 5) rfl))) (by decide) (backOf (W := 0) (rm9 l Z a0 hw [] w_TWO h0 n0 Z0 F_fewest_w_TWO F_most_w_TWO) hZ (hw _ (List.mem_of_getElem? (i := 7) rfl)) (hw _ (List.mem_of_getElem? (i := 1) rfl)) (by decide) (by decide)) q87a q87c (g := (mkF m 119 #[.val (.int x0), .val (.int x1), .val (.int x2), .val (.int (2 : Int32)), .val (.int (2 : Int32)), .val (.ref w_TWO), .val (.int (1 : Int32))] [(.int (2 : Int32)), (.ref w_TWO)])) rfl (by rw [hml]; rfl) (Steps.refl _) (argsL := [(.int (2 : Int32))]) (rest := []) (lenOf pd_0 rfl) rfl (by show 2 * 0 + _ ≤ _; exact Nat.le_of_eq rfl) (hb hby at_119) (fun _ _ => ⟨rfl, e82, (by decide : 0 + 0 ≤ _), (by decide : 0 + 0 ≤ _)⟩)
        dsimp only [Pt.U, Pt.locs, Pt.cells, Pt.slots] at X87 l87 y87 z87 st87 hQ87
        subst l87 y87 z87
        obtain ⟨rfl, N87q, e87⟩ := hQ87
        have N87 := Fr.app N0 N87q
        have pre88 : ∀ t, Steps p.tables e below (T87.setTop (mkF m 132 #[.val (.int x0), .val (.int x1), .val (.int x2), .val (.int (2 : Int32)), .val (.int (2 : Int32)), .val (.ref w_TWO), .val (.int (1 : Int32))] [(.int (1 : Int32))])) t → Steps p.tables e below (s₁.setTop (entryFrame m #[(.int x0), (.int x1), (.int x2)] maxLocals)) t := fun t kk => pre86 t (by
          show Steps p.tables e below (T82.setTop (mkF m 88 #[.val (.int x0), .val (.int x1), .val (.int x2), .val (.int (2 : Int32)), .val (.int (2 : Int32)), .val (.ref w_TWO), .unset] [])) _
          refine XS.iconst X82.here hx rfl (hb hby at_88) ?_
          show Steps p.tables e below (T82.setTop (mkF m 89 #[.val (.int x0), .val (.int x1), .val (.int x2), .val (.int (2 : Int32)), .val (.int (2 : Int32)), .val (.ref w_TWO), .unset] [(.int (1 : Int32))])) _
          refine XS.goto X82.here hx rfl (pc0 := 89) (pc' := 93) rfl (hb hby at_89) (by decide) (by decide) ?_
          show Steps p.tables e below (T82.setTop (mkF m 93 #[.val (.int x0), .val (.int x1), .val (.int x2), .val (.int (2 : Int32)), .val (.int (2 : Int32)), .val (.ref w_TWO), .unset] [(.int (1 : Int32))])) _
          refine XS.istore X82.here hx rfl (hb hby at_93) rfl (l' := #[.val (.int x0), .val (.int x1), .val (.int x2), .val (.int (2 : Int32)), .val (.int (2 : Int32)), .val (.ref w_TWO), .val (.int (1 : Int32))]) rfl ?_
          show Steps p.tables e below (T82.setTop (mkF m 95 #[.val (.int x0), .val (.int x1), .val (.int x2), .val (.int (2 : Int32)), .val (.int (2 : Int32)), .val (.ref w_TWO), .val (.int (1 : Int32))] [])) _
          refine XS.goto X82.here hx rfl (pc0 := 95) (pc' := 115) rfl (hb hby at_95) (by decide) (by decide) ?_
          show Steps p.tables e below (T82.setTop (mkF m 115 #[.val (.int x0), .val (.int x1), .val (.int x2), .val (.int (2 : Int32)), .val (.int (2 : Int32)), .val (.ref w_TWO), .val (.int (1 : Int32))] [])) _
          refine XS.aload X82.here hx rfl (hb hby at_115) rfl rfl ?_
          show Steps p.tables e below (T82.setTop (mkF m 117 #[.val (.int x0), .val (.int x1), .val (.int x2), .val (.int (2 : Int32)), .val (.int (2 : Int32)), .val (.ref w_TWO), .val (.int (1 : Int32))] [(.ref w_TWO)])) _
          refine XS.iload X82.here hx rfl (hb hby at_117) rfl ?_
          show Steps p.tables e below (T82.setTop (mkF m 119 #[.val (.int x0), .val (.int x1), .val (.int x2), .val (.int (2 : Int32)), .val (.int (2 : Int32)), .val (.ref w_TWO), .val (.int (1 : Int32))] [(.int (2 : Int32)), (.ref w_TWO)])) _
          refine st87.trans ?_
          show Steps p.tables e below (T87.setTop (mkF m 122 #[.val (.int x0), .val (.int x1), .val (.int x2), .val (.int (2 : Int32)), .val (.int (2 : Int32)), .val (.ref w_TWO), .val (.int (1 : Int32))] [(.int (1 : Int32))])) _
          refine XS.iload X87.here hx rfl (hb hby at_122) rfl ?_
          show Steps p.tables e below (T87.setTop (mkF m 124 #[.val (.int x0), .val (.int x1), .val (.int x2), .val (.int (2 : Int32)), .val (.int (2 : Int32)), .val (.ref w_TWO), .val (.int (1 : Int32))] [(.int (1 : Int32)), (.int (1 : Int32))])) _
          refine XS.icmpNo X87.here hx rfl (hb hby at_124) rfl (teq ((by decide) : (1 : Int32) = (1 : Int32))).2 ?_
          show Steps p.tables e below (T87.setTop (mkF m 127 #[.val (.int x0), .val (.int x1), .val (.int x2), .val (.int (2 : Int32)), .val (.int (2 : Int32)), .val (.ref w_TWO), .val (.int (1 : Int32))] [])) _
          refine XS.iconst X87.here hx rfl (hb hby at_127) ?_
          show Steps p.tables e below (T87.setTop (mkF m 128 #[.val (.int x0), .val (.int x1), .val (.int x2), .val (.int (2 : Int32)), .val (.int (2 : Int32)), .val (.ref w_TWO), .val (.int (1 : Int32))] [(.int (1 : Int32))])) _
          refine XS.goto X87.here hx rfl (pc0 := 128) (pc' := 132) rfl (hb hby at_128) (by decide) (by decide) ?_
          exact kk)
        obtain ⟨fs, hr, hrun, hended, hW, hsame⟩ := X87.leave (v := some (.int (1 : Int32))) (fun h => by rw [Bd.returns] at h; cases h)
        refine ⟨_, _, pre88 _ ?_, hrun, hended, _, _, rfl, ?_, ⟨_, rfl⟩, hW, hsame.mono (by decide) (by decide)⟩
        · exact retN X87 hx (t := .boolean) Bd.returns (by simp) (hb hby at_132) hr
        · exact ⟨rfl, N87⟩
      ·
        have pre89 : ∀ t, Steps p.tables e below (T82.setTop (mkF m 119 #[.val (.int x0), .val (.int x1), .val (.int x2), .val (.int (2 : Int32)), .val (.int ((x1 &&& (7 : Int32)) - (3 : Int32))), .val (.ref w_TWO), .val (.int (0 : Int32))] [(.int ((x1 &&& (7 : Int32)) - (3 : Int32))), (.ref w_TWO)])) t → Steps p.tables e below (s₁.setTop (entryFrame m #[(.int x0), (.int x1), (.int x2)] maxLocals)) t := fun t kk => pre83 t (by
          show Steps p.tables e below (T82.setTop (mkF m 85 #[.val (.int x0), .val (.int x1), .val (.int x2), .val (.int (2 : Int32)), .val (.int ((x1 &&& (7 : Int32)) - (3 : Int32))), .val (.ref w_TWO), .unset] [(.int (2 : Int32)), (.int ((x1 &&& (7 : Int32)) - (3 : Int32)))])) _
          refine XS.icmpYes X82.here hx rfl (pc0 := 85) (pc' := 92) rfl (hb hby at_85) rfl (feq (hc84 : ¬ (((x1 &&& (7 : Int32)) - (3 : Int32)) = (2 : Int32)))).2 (by decide) (by decide) ?_
          show Steps p.tables e below (T82.setTop (mkF m 92 #[.val (.int x0), .val (.int x1), .val (.int x2), .val (.int (2 : Int32)), .val (.int ((x1 &&& (7 : Int32)) - (3 : Int32))), .val (.ref w_TWO), .unset] [])) _
          refine XS.iconst X82.here hx rfl (hb hby at_92) ?_
          show Steps p.tables e below (T82.setTop (mkF m 93 #[.val (.int x0), .val (.int x1), .val (.int x2), .val (.int (2 : Int32)), .val (.int ((x1 &&& (7 : Int32)) - (3 : Int32))), .val (.ref w_TWO), .unset] [(.int (0 : Int32))])) _
          refine XS.istore X82.here hx rfl (hb hby at_93) rfl (l' := #[.val (.int x0), .val (.int x1), .val (.int x2), .val (.int (2 : Int32)), .val (.int ((x1 &&& (7 : Int32)) - (3 : Int32))), .val (.ref w_TWO), .val (.int (0 : Int32))]) rfl ?_
          show Steps p.tables e below (T82.setTop (mkF m 95 #[.val (.int x0), .val (.int x1), .val (.int x2), .val (.int (2 : Int32)), .val (.int ((x1 &&& (7 : Int32)) - (3 : Int32))), .val (.ref w_TWO), .val (.int (0 : Int32))] [])) _
          refine XS.goto X82.here hx rfl (pc0 := 95) (pc' := 115) rfl (hb hby at_95) (by decide) (by decide) ?_
          show Steps p.tables e below (T82.setTop (mkF m 115 #[.val (.int x0), .val (.int x1), .val (.int x2), .val (.int (2 : Int32)), .val (.int ((x1 &&& (7 : Int32)) - (3 : Int32))), .val (.ref w_TWO), .val (.int (0 : Int32))] [])) _
          refine XS.aload X82.here hx rfl (hb hby at_115) rfl rfl ?_
          show Steps p.tables e below (T82.setTop (mkF m 117 #[.val (.int x0), .val (.int x1), .val (.int x2), .val (.int (2 : Int32)), .val (.int ((x1 &&& (7 : Int32)) - (3 : Int32))), .val (.ref w_TWO), .val (.int (0 : Int32))] [(.ref w_TWO)])) _
          refine XS.iload X82.here hx rfl (hb hby at_117) rfl ?_
          exact kk)
        by_cases hc90 : ((x1 &&& (7 : Int32)) - (3 : Int32)) < (2 : Int32)
        ·
          obtain ⟨cq91, kq91, q91a, q91b, q91c⟩ := isOf hZ e82 E_w_TWO
          obtain ⟨_, _, ⟨T91, L91, k91, n91⟩, -, X91, ⟨Lc91, hQ91, l91, y91, z91⟩, st91⟩ := X82.virtualBack hx (y := (⟨"com/example/ballotwire/ballotwire/simulator/Schedule$Ranks", "allows", "(I)Z"⟩ : MethodName)) (z := (⟨"com/example/ballotwire/ballotwire/simulator/Schedule$Ranks", "allows", "(I)Z"⟩ : MethodName)) hown (mvT hZ (hw _ (List.mem_of_getElem? (i := 3) rfl))) (mvT hZ (hw _ (List.mem_of_getElem? (i := 4) rfl))) (notFace_of_selects (args := #[]) (mvT hZ (hw _ (List.mem_of_getElem? (i := 6) rfl)))) (mvT hZ (hw _ (List.mem_of_getElem? (i := 6) rfl))) (mvT hZ (hw _ (List.mem_of_getElem? (i := 5) rfl))) (by decide) (backOf (W := 0) (rm10 l Z a0 hw [] w_TWO (((x1 &&& (7 : Int32)) - (3 : Int32))) h0 n0 Z0 F_fewest_w_TWO hc90) hZ (hw _ (List.mem_of_getElem? (i := 7) rfl)) (hw _ (List.mem_of_getElem? (i := 1) rfl)) (by decide) (by decide)) q91a q91c (g := (mkF m 119 #[.val (.int x0), .val (.int x1), .val (.int x2), .val (.int (2 : Int32)), .val (.int ((x1 &&& (7 : Int32)) - (3 : Int32))), .val (.ref w_TWO), .val (.int (0 : Int32))] [(.int ((x1 &&& (7 : Int32)) - (3 : Int32))), (.ref w_TWO)])) rfl (by rw [hml]; rfl) (Steps.refl _) (argsL := [(.int ((x1 &&& (7 : Int32)) - (3 : Int32)))]) (rest := []) (lenOf pd_0 rfl) rfl (by show 2 * 0 + _ ≤ _; exact Nat.le_of_eq rfl) (hb hby at_119) (fun _ _ => ⟨rfl, e82, (by decide : 0 + 0 ≤ _), (by decide : 0 + 0 ≤ _)⟩)
          dsimp only [Pt.U, Pt.locs, Pt.cells, Pt.slots] at X91 l91 y91 z91 st91 hQ91
          subst l91 y91 z91
          obtain ⟨rfl, N91q, e91⟩ := hQ91
          have N91 := Fr.app N0 N91q
          have pre92 : ∀ t, Steps p.tables e below (T91.setTop (mkF m 132 #[.val (.int x0), .val (.int x1), .val (.int x2), .val (.int (2 : Int32)), .val (.int ((x1 &&& (7 : Int32)) - (3 : Int32))), .val (.ref w_TWO), .val (.int (0 : Int32))] [(.int (1 : Int32))])) t → Steps p.tables e below (s₁.setTop (entryFrame m #[(.int x0), (.int x1), (.int x2)] maxLocals)) t := fun t kk => pre89 t (by
            show Steps p.tables e below (T82.setTop (mkF m 119 #[.val (.int x0), .val (.int x1), .val (.int x2), .val (.int (2 : Int32)), .val (.int ((x1 &&& (7 : Int32)) - (3 : Int32))), .val (.ref w_TWO), .val (.int (0 : Int32))] [(.int ((x1 &&& (7 : Int32)) - (3 : Int32))), (.ref w_TWO)])) _
            refine st91.trans ?_
            show Steps p.tables e below (T91.setTop (mkF m 122 #[.val (.int x0), .val (.int x1), .val (.int x2), .val (.int (2 : Int32)), .val (.int ((x1 &&& (7 : Int32)) - (3 : Int32))), .val (.ref w_TWO), .val (.int (0 : Int32))] [(.int (0 : Int32))])) _
            refine XS.iload X91.here hx rfl (hb hby at_122) rfl ?_
            show Steps p.tables e below (T91.setTop (mkF m 124 #[.val (.int x0), .val (.int x1), .val (.int x2), .val (.int (2 : Int32)), .val (.int ((x1 &&& (7 : Int32)) - (3 : Int32))), .val (.ref w_TWO), .val (.int (0 : Int32))] [(.int (0 : Int32)), (.int (0 : Int32))])) _
            refine XS.icmpNo X91.here hx rfl (hb hby at_124) rfl (teq ((by decide) : (0 : Int32) = (0 : Int32))).2 ?_
            show Steps p.tables e below (T91.setTop (mkF m 127 #[.val (.int x0), .val (.int x1), .val (.int x2), .val (.int (2 : Int32)), .val (.int ((x1 &&& (7 : Int32)) - (3 : Int32))), .val (.ref w_TWO), .val (.int (0 : Int32))] [])) _
            refine XS.iconst X91.here hx rfl (hb hby at_127) ?_
            show Steps p.tables e below (T91.setTop (mkF m 128 #[.val (.int x0), .val (.int x1), .val (.int x2), .val (.int (2 : Int32)), .val (.int ((x1 &&& (7 : Int32)) - (3 : Int32))), .val (.ref w_TWO), .val (.int (0 : Int32))] [(.int (1 : Int32))])) _
            refine XS.goto X91.here hx rfl (pc0 := 128) (pc' := 132) rfl (hb hby at_128) (by decide) (by decide) ?_
            exact kk)
          obtain ⟨fs, hr, hrun, hended, hW, hsame⟩ := X91.leave (v := some (.int (1 : Int32))) (fun h => by rw [Bd.returns] at h; cases h)
          refine ⟨_, _, pre92 _ ?_, hrun, hended, _, _, rfl, ?_, ⟨_, rfl⟩, hW, hsame.mono (by decide) (by decide)⟩
          · exact retN X91 hx (t := .boolean) Bd.returns (by simp) (hb hby at_132) hr
          · exact ⟨rfl, N91⟩
        ·
          obtain ⟨cq93, kq93, q93a, q93b, q93c⟩ := isOf hZ e82 E_w_TWO
          obtain ⟨_, _, ⟨T93, L93, k93, n93⟩, -, X93, ⟨Lc93, hQ93, l93, y93, z93⟩, st93⟩ := X82.virtualBack hx (y := (⟨"com/example/ballotwire/ballotwire/simulator/Schedule$Ranks", "allows", "(I)Z"⟩ : MethodName)) (z := (⟨"com/example/ballotwire/ballotwire/simulator/Schedule$Ranks", "allows", "(I)Z"⟩ : MethodName)) hown (mvT hZ (hw _ (List.mem_of_getElem? (i := 3) rfl))) (mvT hZ (hw _ (List.mem_of_getElem? (i := 4) rfl))) (notFace_of_selects (args := #[]) (mvT hZ (hw _ (List.mem_of_getElem? (i := 6) rfl)))) (mvT hZ (hw _ (List.mem_of_getElem? (i := 6) rfl))) (mvT hZ (hw _ (List.mem_of_getElem? (i := 5) rfl))) (by decide) (backOf (W := 0) (rm11 l Z a0 hw [] w_TWO (((x1 &&& (7 : Int32)) - (3 : Int32))) h0 n0 Z0 F_fewest_w_TWO hc90 F_most_w_TWO ((own_ar8 x1 hc84 hc90))) hZ (hw _ (List.mem_of_getElem? (i := 7) rfl)) (hw _ (List.mem_of_getElem? (i := 1) rfl)) (by decide) (by decide)) q93a q93c (g := (mkF m 119 #[.val (.int x0), .val (.int x1), .val (.int x2), .val (.int (2 : Int32)), .val (.int ((x1 &&& (7 : Int32)) - (3 : Int32))), .val (.ref w_TWO), .val (.int (0 : Int32))] [(.int ((x1 &&& (7 : Int32)) - (3 : Int32))), (.ref w_TWO)])) rfl (by rw [hml]; rfl) (Steps.refl _) (argsL := [(.int ((x1 &&& (7 : Int32)) - (3 : Int32)))]) (rest := []) (lenOf pd_0 rfl) rfl (by show 2 * 0 + _ ≤ _; exact Nat.le_of_eq rfl) (hb hby at_119) (fun _ _ => ⟨rfl, e82, (by decide : 0 + 0 ≤ _), (by decide : 0 + 0 ≤ _)⟩)
          dsimp only [Pt.U, Pt.locs, Pt.cells, Pt.slots] at X93 l93 y93 z93 st93 hQ93
          subst l93 y93 z93
          obtain ⟨rfl, N93q, e93⟩ := hQ93
          have N93 := Fr.app N0 N93q
          have pre94 : ∀ t, Steps p.tables e below (T93.setTop (mkF m 132 #[.val (.int x0), .val (.int x1), .val (.int x2), .val (.int (2 : Int32)), .val (.int ((x1 &&& (7 : Int32)) - (3 : Int32))), .val (.ref w_TWO), .val (.int (0 : Int32))] [(.int (1 : Int32))])) t → Steps p.tables e below (s₁.setTop (entryFrame m #[(.int x0), (.int x1), (.int x2)] maxLocals)) t := fun t kk => pre89 t (by
            show Steps p.tables e below (T82.setTop (mkF m 119 #[.val (.int x0), .val (.int x1), .val (.int x2), .val (.int (2 : Int32)), .val (.int ((x1 &&& (7 : Int32)) - (3 : Int32))), .val (.ref w_TWO), .val (.int (0 : Int32))] [(.int ((x1 &&& (7 : Int32)) - (3 : Int32))), (.ref w_TWO)])) _
            refine st93.trans ?_
            show Steps p.tables e below (T93.setTop (mkF m 122 #[.val (.int x0), .val (.int x1), .val (.int x2), .val (.int (2 : Int32)), .val (.int ((x1 &&& (7 : Int32)) - (3 : Int32))), .val (.ref w_TWO), .val (.int (0 : Int32))] [(.int (0 : Int32))])) _
            refine XS.iload X93.here hx rfl (hb hby at_122) rfl ?_
            show Steps p.tables e below (T93.setTop (mkF m 124 #[.val (.int x0), .val (.int x1), .val (.int x2), .val (.int (2 : Int32)), .val (.int ((x1 &&& (7 : Int32)) - (3 : Int32))), .val (.ref w_TWO), .val (.int (0 : Int32))] [(.int (0 : Int32)), (.int (0 : Int32))])) _
            refine XS.icmpNo X93.here hx rfl (hb hby at_124) rfl (teq ((by decide) : (0 : Int32) = (0 : Int32))).2 ?_
            show Steps p.tables e below (T93.setTop (mkF m 127 #[.val (.int x0), .val (.int x1), .val (.int x2), .val (.int (2 : Int32)), .val (.int ((x1 &&& (7 : Int32)) - (3 : Int32))), .val (.ref w_TWO), .val (.int (0 : Int32))] [])) _
            refine XS.iconst X93.here hx rfl (hb hby at_127) ?_
            show Steps p.tables e below (T93.setTop (mkF m 128 #[.val (.int x0), .val (.int x1), .val (.int x2), .val (.int (2 : Int32)), .val (.int ((x1 &&& (7 : Int32)) - (3 : Int32))), .val (.ref w_TWO), .val (.int (0 : Int32))] [(.int (1 : Int32))])) _
            refine XS.goto X93.here hx rfl (pc0 := 128) (pc' := 132) rfl (hb hby at_128) (by decide) (by decide) ?_
            exact kk)
          obtain ⟨fs, hr, hrun, hended, hW, hsame⟩ := X93.leave (v := some (.int (1 : Int32))) (fun h => by rw [Bd.returns] at h; cases h)
          refine ⟨_, _, pre94 _ ?_, hrun, hended, _, _, rfl, ?_, ⟨_, rfl⟩, hW, hsame.mono (by decide) (by decide)⟩
          · exact retN X93 hx (t := .boolean) Bd.returns (by simp) (hb hby at_132) hr
          · exact ⟨rfl, N93⟩
    ·
      obtain ⟨T95, X95, e95, st95⟩ := getS2 X0 hx hZ hown (host := "") (Or.inl (hw _ (List.mem_of_getElem? (i := 16) rfl))) Via.refl e0 S_w_TWO (g := (mkF m 77 #[.val (.int x0), .val (.int x1), .val (.int x2), .val (.int (2 : Int32)), .val (.int x1), .unset, .unset] [])) rfl (hb hby at_77)
      have pre96 : ∀ t, Steps p.tables e below (T95.setTop (mkF m 85 #[.val (.int x0), .val (.int x1), .val (.int x2), .val (.int (2 : Int32)), .val (.int x1), .val (.ref w_TWO), .unset] [(.int (2 : Int32)), (.int x1)])) t → Steps p.tables e below (s₁.setTop (entryFrame m #[(.int x0), (.int x1), (.int x2)] maxLocals)) t := fun t kk => pre80 t (by
        show Steps p.tables e below (s₁.setTop (mkF m 7 #[.val (.int x0), .val (.int x1), .val (.int x2), .val (.int (2 : Int32)), .unset, .unset, .unset] [(.int (x2 &&& (1 : Int32)))])) _
        refine XS.ifNo X0.here hx rfl (hb hby at_7) rfl ((if0 _ _).trans (feq (hc81 : ¬ ((x2 &&& (1 : Int32)) = (0 : Int32)))).1) ?_
        show Steps p.tables e below (s₁.setTop (mkF m 10 #[.val (.int x0), .val (.int x1), .val (.int x2), .val (.int (2 : Int32)), .unset, .unset, .unset] [])) _
        refine XS.iloadN X0.here hx rfl (hb hby at_10) rfl ?_
        show Steps p.tables e below (s₁.setTop (mkF m 11 #[.val (.int x0), .val (.int x1), .val (.int x2), .val (.int (2 : Int32)), .unset, .unset, .unset] [(.int x1)])) _
        refine XS.goto X0.here hx rfl (pc0 := 11) (pc' := 20) rfl (hb hby at_11) (by decide) (by decide) ?_
        show Steps p.tables e below (s₁.setTop (mkF m 20 #[.val (.int x0), .val (.int x1), .val (.int x2), .val (.int (2 : Int32)), .unset, .unset, .unset] [(.int x1)])) _
        refine XS.istore X0.here hx rfl (hb hby at_20) rfl (l' := #[.val (.int x0), .val (.int x1), .val (.int x2), .val (.int (2 : Int32)), .val (.int x1), .unset, .unset]) rfl ?_
        show Steps p.tables e below (s₁.setTop (mkF m 22 #[.val (.int x0), .val (.int x1), .val (.int x2), .val (.int (2 : Int32)), .val (.int x1), .unset, .unset] [])) _
        refine XS.iloadN X0.here hx rfl (hb hby at_22) rfl ?_
        show Steps p.tables e below (s₁.setTop (mkF m 23 #[.val (.int x0), .val (.int x1), .val (.int x2), .val (.int (2 : Int32)), .val (.int x1), .unset, .unset] [(.int (2 : Int32))])) _
        refine XS.ifYes X0.here hx rfl (pc0 := 23) (pc' := 46) rfl (hb hby at_23) rfl ((if0 _ _).trans (feq ((by decide) : ¬ ((2 : Int32) = (0 : Int32)))).2) (by decide) (by decide) ?_
        show Steps p.tables e below (s₁.setTop (mkF m 46 #[.val (.int x0), .val (.int x1), .val (.int x2), .val (.int (2 : Int32)), .val (.int x1), .unset, .unset] [])) _
        refine XS.iloadN X0.here hx rfl (hb hby at_46) rfl ?_
        show Steps p.tables e below (s₁.setTop (mkF m 47 #[.val (.int x0), .val (.int x1), .val (.int x2), .val (.int (2 : Int32)), .val (.int x1), .unset, .unset] [(.int (2 : Int32))])) _
        refine XS.iconst X0.here hx rfl (hb hby at_47) ?_
        show Steps p.tables e below (s₁.setTop (mkF m 48 #[.val (.int x0), .val (.int x1), .val (.int x2), .val (.int (2 : Int32)), .val (.int x1), .unset, .unset] [(.int (1 : Int32)), (.int (2 : Int32))])) _
        refine XS.icmpYes X0.here hx rfl (pc0 := 48) (pc' := 72) rfl (hb hby at_48) rfl (feq ((by decide) : ¬ ((2 : Int32) = (1 : Int32)))).2 (by decide) (by decide) ?_
        show Steps p.tables e below (s₁.setTop (mkF m 72 #[.val (.int x0), .val (.int x1), .val (.int x2), .val (.int (2 : Int32)), .val (.int x1), .unset, .unset] [])) _
        refine XS.iloadN X0.here hx rfl (hb hby at_72) rfl ?_
        show Steps p.tables e below (s₁.setTop (mkF m 73 #[.val (.int x0), .val (.int x1), .val (.int x2), .val (.int (2 : Int32)), .val (.int x1), .unset, .unset] [(.int (2 : Int32))])) _
        refine XS.iconst X0.here hx rfl (hb hby at_73) ?_
        show Steps p.tables e below (s₁.setTop (mkF m 74 #[.val (.int x0), .val (.int x1), .val (.int x2), .val (.int (2 : Int32)), .val (.int x1), .unset, .unset] [(.int (2 : Int32)), (.int (2 : Int32))])) _
        refine XS.icmpNo X0.here hx rfl (hb hby at_74) rfl (teq ((by decide) : (2 : Int32) = (2 : Int32))).2 ?_
        show Steps p.tables e below (s₁.setTop (mkF m 77 #[.val (.int x0), .val (.int x1), .val (.int x2), .val (.int (2 : Int32)), .val (.int x1), .unset, .unset] [])) _
        refine st95 _ ?_
        show Steps p.tables e below (T95.setTop (mkF m 80 #[.val (.int x0), .val (.int x1), .val (.int x2), .val (.int (2 : Int32)), .val (.int x1), .unset, .unset] [(.ref w_TWO)])) _
        refine XS.astore X95.here hx rfl (hb hby at_80) rfl rfl (l' := #[.val (.int x0), .val (.int x1), .val (.int x2), .val (.int (2 : Int32)), .val (.int x1), .val (.ref w_TWO), .unset]) rfl ?_
        show Steps p.tables e below (T95.setTop (mkF m 82 #[.val (.int x0), .val (.int x1), .val (.int x2), .val (.int (2 : Int32)), .val (.int x1), .val (.ref w_TWO), .unset] [])) _
        refine XS.iload X95.here hx rfl (hb hby at_82) rfl ?_
        show Steps p.tables e below (T95.setTop (mkF m 84 #[.val (.int x0), .val (.int x1), .val (.int x2), .val (.int (2 : Int32)), .val (.int x1), .val (.ref w_TWO), .unset] [(.int x1)])) _
        refine XS.iconst X95.here hx rfl (hb hby at_84) ?_
        exact kk)
      by_cases hc97 : x1 = (2 : Int32)
      ·
        obtain ⟨cq98, kq98, q98a, q98b, q98c⟩ := isOf hZ e95 E_w_TWO
        obtain ⟨_, _, ⟨T98, L98, k98, n98⟩, -, X98, ⟨Lc98, hQ98, l98, y98, z98⟩, st98⟩ := X95.virtualBack hx (y := (⟨"com/example/ballotwire/ballotwire/simulator/Schedule$Ranks", "allows", "(I)Z"⟩ : MethodName)) (z := (⟨"com/example/ballotwire/ballotwire/simulator/Schedule$Ranks", "allows", "(I)Z"⟩ : MethodName)) hown (mvT hZ (hw _ (List.mem_of_getElem? (i := 3) rfl))) (mvT hZ (hw _ (List.mem_of_getElem? (i := 4) rfl))) (notFace_of_selects (args := #[]) (mvT hZ (hw _ (List.mem_of_getElem? (i := 6) rfl)))) (mvT hZ (hw _ (List.mem_of_getElem? (i := 6) rfl))) (mvT hZ (hw _ (List.mem_of_getElem? (i := 5) rfl))) (by decide) (backOf (W := 0) (rm12 l Z a0 hw [] w_TWO x1 h0 n0 Z0 F_fewest_w_TWO ((own_ar9 x1 hc97)) F_most_w_TWO ((own_ar10 x1 hc97))) hZ (hw _ (List.mem_of_getElem? (i := 7) rfl)) (hw _ (List.mem_of_getElem? (i := 1) rfl)) (by decide) (by decide)) q98a q98c (g := (mkF m 119 #[.val (.int x0), .val (.int x1), .val (.int x2), .val (.int (2 : Int32)), .val (.int x1), .val (.ref w_TWO), .val (.int (1 : Int32))] [(.int x1), (.ref w_TWO)])) rfl (by rw [hml]; rfl) (Steps.refl _) (argsL := [(.int x1)]) (rest := []) (lenOf pd_0 rfl) rfl (by show 2 * 0 + _ ≤ _; exact Nat.le_of_eq rfl) (hb hby at_119) (fun _ _ => ⟨rfl, e95, (by decide : 0 + 0 ≤ _), (by decide : 0 + 0 ≤ _)⟩)
        dsimp only [Pt.U, Pt.locs, Pt.cells, Pt.slots] at X98 l98 y98 z98 st98 hQ98
        subst l98 y98 z98
        obtain ⟨rfl, N98q, e98⟩ := hQ98
        have N98 := Fr.app N0 N98q
        have pre99 : ∀ t, Steps p.tables e below (T98.setTop (mkF m 132 #[.val (.int x0), .val (.int x1), .val (.int x2), .val (.int (2 : Int32)), .val (.int x1), .val (.ref w_TWO), .val (.int (1 : Int32))] [(.int (1 : Int32))])) t → Steps p.tables e below (s₁.setTop (entryFrame m #[(.int x0), (.int x1), (.int x2)] maxLocals)) t := fun t kk => pre96 t (by
          show Steps p.tables e below (T95.setTop (mkF m 85 #[.val (.int x0), .val (.int x1), .val (.int x2), .val (.int (2 : Int32)), .val (.int x1), .val (.ref w_TWO), .unset] [(.int (2 : Int32)), (.int x1)])) _
          refine XS.icmpNo X95.here hx rfl (hb hby at_85) rfl (teq (hc97 : x1 = (2 : Int32))).2 ?_
          show Steps p.tables e below (T95.setTop (mkF m 88 #[.val (.int x0), .val (.int x1), .val (.int x2), .val (.int (2 : Int32)), .val (.int x1), .val (.ref w_TWO), .unset] [])) _
          refine XS.iconst X95.here hx rfl (hb hby at_88) ?_
          show Steps p.tables e below (T95.setTop (mkF m 89 #[.val (.int x0), .val (.int x1), .val (.int x2), .val (.int (2 : Int32)), .val (.int x1), .val (.ref w_TWO), .unset] [(.int (1 : Int32))])) _
          refine XS.goto X95.here hx rfl (pc0 := 89) (pc' := 93) rfl (hb hby at_89) (by decide) (by decide) ?_
          show Steps p.tables e below (T95.setTop (mkF m 93 #[.val (.int x0), .val (.int x1), .val (.int x2), .val (.int (2 : Int32)), .val (.int x1), .val (.ref w_TWO), .unset] [(.int (1 : Int32))])) _
          refine XS.istore X95.here hx rfl (hb hby at_93) rfl (l' := #[.val (.int x0), .val (.int x1), .val (.int x2), .val (.int (2 : Int32)), .val (.int x1), .val (.ref w_TWO), .val (.int (1 : Int32))]) rfl ?_
          show Steps p.tables e below (T95.setTop (mkF m 95 #[.val (.int x0), .val (.int x1), .val (.int x2), .val (.int (2 : Int32)), .val (.int x1), .val (.ref w_TWO), .val (.int (1 : Int32))] [])) _
          refine XS.goto X95.here hx rfl (pc0 := 95) (pc' := 115) rfl (hb hby at_95) (by decide) (by decide) ?_
          show Steps p.tables e below (T95.setTop (mkF m 115 #[.val (.int x0), .val (.int x1), .val (.int x2), .val (.int (2 : Int32)), .val (.int x1), .val (.ref w_TWO), .val (.int (1 : Int32))] [])) _
          refine XS.aload X95.here hx rfl (hb hby at_115) rfl rfl ?_
          show Steps p.tables e below (T95.setTop (mkF m 117 #[.val (.int x0), .val (.int x1), .val (.int x2), .val (.int (2 : Int32)), .val (.int x1), .val (.ref w_TWO), .val (.int (1 : Int32))] [(.ref w_TWO)])) _
          refine XS.iload X95.here hx rfl (hb hby at_117) rfl ?_
          show Steps p.tables e below (T95.setTop (mkF m 119 #[.val (.int x0), .val (.int x1), .val (.int x2), .val (.int (2 : Int32)), .val (.int x1), .val (.ref w_TWO), .val (.int (1 : Int32))] [(.int x1), (.ref w_TWO)])) _
          refine st98.trans ?_
          show Steps p.tables e below (T98.setTop (mkF m 122 #[.val (.int x0), .val (.int x1), .val (.int x2), .val (.int (2 : Int32)), .val (.int x1), .val (.ref w_TWO), .val (.int (1 : Int32))] [(.int (1 : Int32))])) _
          refine XS.iload X98.here hx rfl (hb hby at_122) rfl ?_
          show Steps p.tables e below (T98.setTop (mkF m 124 #[.val (.int x0), .val (.int x1), .val (.int x2), .val (.int (2 : Int32)), .val (.int x1), .val (.ref w_TWO), .val (.int (1 : Int32))] [(.int (1 : Int32)), (.int (1 : Int32))])) _
          refine XS.icmpNo X98.here hx rfl (hb hby at_124) rfl (teq ((by decide) : (1 : Int32) = (1 : Int32))).2 ?_
          show Steps p.tables e below (T98.setTop (mkF m 127 #[.val (.int x0), .val (.int x1), .val (.int x2), .val (.int (2 : Int32)), .val (.int x1), .val (.ref w_TWO), .val (.int (1 : Int32))] [])) _
          refine XS.iconst X98.here hx rfl (hb hby at_127) ?_
          show Steps p.tables e below (T98.setTop (mkF m 128 #[.val (.int x0), .val (.int x1), .val (.int x2), .val (.int (2 : Int32)), .val (.int x1), .val (.ref w_TWO), .val (.int (1 : Int32))] [(.int (1 : Int32))])) _
          refine XS.goto X98.here hx rfl (pc0 := 128) (pc' := 132) rfl (hb hby at_128) (by decide) (by decide) ?_
          exact kk)
        obtain ⟨fs, hr, hrun, hended, hW, hsame⟩ := X98.leave (v := some (.int (1 : Int32))) (fun h => by rw [Bd.returns] at h; cases h)
        refine ⟨_, _, pre99 _ ?_, hrun, hended, _, _, rfl, ?_, ⟨_, rfl⟩, hW, hsame.mono (by decide) (by decide)⟩
        · exact retN X98 hx (t := .boolean) Bd.returns (by simp) (hb hby at_132) hr
        · exact ⟨rfl, N98⟩
      ·
        have pre100 : ∀ t, Steps p.tables e below (T95.setTop (mkF m 119 #[.val (.int x0), .val (.int x1), .val (.int x2), .val (.int (2 : Int32)), .val (.int x1), .val (.ref w_TWO), .val (.int (0 : Int32))] [(.int x1), (.ref w_TWO)])) t → Steps p.tables e below (s₁.setTop (entryFrame m #[(.int x0), (.int x1), (.int x2)] maxLocals)) t := fun t kk => pre96 t (by
          show Steps p.tables e below (T95.setTop (mkF m 85 #[.val (.int x0), .val (.int x1), .val (.int x2), .val (.int (2 : Int32)), .val (.int x1), .val (.ref w_TWO), .unset] [(.int (2 : Int32)), (.int x1)])) _
          refine XS.icmpYes X95.here hx rfl (pc0 := 85) (pc' := 92) rfl (hb hby at_85) rfl (feq (hc97 : ¬ (x1 = (2 : Int32)))).2 (by decide) (by decide) ?_
          show Steps p.tables e below (T95.setTop (mkF m 92 #[.val (.int x0), .val (.int x1), .val (.int x2), .val (.int (2 : Int32)), .val (.int x1), .val (.ref w_TWO), .unset] [])) _
          refine XS.iconst X95.here hx rfl (hb hby at_92) ?_
          show Steps p.tables e below (T95.setTop (mkF m 93 #[.val (.int x0), .val (.int x1), .val (.int x2), .val (.int (2 : Int32)), .val (.int x1), .val (.ref w_TWO), .unset] [(.int (0 : Int32))])) _
          refine XS.istore X95.here hx rfl (hb hby at_93) rfl (l' := #[.val (.int x0), .val (.int x1), .val (.int x2), .val (.int (2 : Int32)), .val (.int x1), .val (.ref w_TWO), .val (.int (0 : Int32))]) rfl ?_
          show Steps p.tables e below (T95.setTop (mkF m 95 #[.val (.int x0), .val (.int x1), .val (.int x2), .val (.int (2 : Int32)), .val (.int x1), .val (.ref w_TWO), .val (.int (0 : Int32))] [])) _
          refine XS.goto X95.here hx rfl (pc0 := 95) (pc' := 115) rfl (hb hby at_95) (by decide) (by decide) ?_
          show Steps p.tables e below (T95.setTop (mkF m 115 #[.val (.int x0), .val (.int x1), .val (.int x2), .val (.int (2 : Int32)), .val (.int x1), .val (.ref w_TWO), .val (.int (0 : Int32))] [])) _
          refine XS.aload X95.here hx rfl (hb hby at_115) rfl rfl ?_
          show Steps p.tables e below (T95.setTop (mkF m 117 #[.val (.int x0), .val (.int x1), .val (.int x2), .val (.int (2 : Int32)), .val (.int x1), .val (.ref w_TWO), .val (.int (0 : Int32))] [(.ref w_TWO)])) _
          refine XS.iload X95.here hx rfl (hb hby at_117) rfl ?_
          exact kk)
        by_cases hc101 : x1 < (2 : Int32)
        ·
          obtain ⟨cq102, kq102, q102a, q102b, q102c⟩ := isOf hZ e95 E_w_TWO
          obtain ⟨_, _, ⟨T102, L102, k102, n102⟩, -, X102, ⟨Lc102, hQ102, l102, y102, z102⟩, st102⟩ := X95.virtualBack hx (y := (⟨"com/example/ballotwire/ballotwire/simulator/Schedule$Ranks", "allows", "(I)Z"⟩ : MethodName)) (z := (⟨"com/example/ballotwire/ballotwire/simulator/Schedule$Ranks", "allows", "(I)Z"⟩ : MethodName)) hown (mvT hZ (hw _ (List.mem_of_getElem? (i := 3) rfl))) (mvT hZ (hw _ (List.mem_of_getElem? (i := 4) rfl))) (notFace_of_selects (args := #[]) (mvT hZ (hw _ (List.mem_of_getElem? (i := 6) rfl)))) (mvT hZ (hw _ (List.mem_of_getElem? (i := 6) rfl))) (mvT hZ (hw _ (List.mem_of_getElem? (i := 5) rfl))) (by decide) (backOf (W := 0) (rm10 l Z a0 hw [] w_TWO x1 h0 n0 Z0 F_fewest_w_TWO hc101) hZ (hw _ (List.mem_of_getElem? (i := 7) rfl)) (hw _ (List.mem_of_getElem? (i := 1) rfl)) (by decide) (by decide)) q102a q102c (g := (mkF m 119 #[.val (.int x0), .val (.int x1), .val (.int x2), .val (.int (2 : Int32)), .val (.int x1), .val (.ref w_TWO), .val (.int (0 : Int32))] [(.int x1), (.ref w_TWO)])) rfl (by rw [hml]; rfl) (Steps.refl _) (argsL := [(.int x1)]) (rest := []) (lenOf pd_0 rfl) rfl (by show 2 * 0 + _ ≤ _; exact Nat.le_of_eq rfl) (hb hby at_119) (fun _ _ => ⟨rfl, e95, (by decide : 0 + 0 ≤ _), (by decide : 0 + 0 ≤ _)⟩)
          dsimp only [Pt.U, Pt.locs, Pt.cells, Pt.slots] at X102 l102 y102 z102 st102 hQ102
          subst l102 y102 z102
          obtain ⟨rfl, N102q, e102⟩ := hQ102
          have N102 := Fr.app N0 N102q
          have pre103 : ∀ t, Steps p.tables e below (T102.setTop (mkF m 132 #[.val (.int x0), .val (.int x1), .val (.int x2), .val (.int (2 : Int32)), .val (.int x1), .val (.ref w_TWO), .val (.int (0 : Int32))] [(.int (1 : Int32))])) t → Steps p.tables e below (s₁.setTop (entryFrame m #[(.int x0), (.int x1), (.int x2)] maxLocals)) t := fun t kk => pre100 t (by
            show Steps p.tables e below (T95.setTop (mkF m 119 #[.val (.int x0), .val (.int x1), .val (.int x2), .val (.int (2 : Int32)), .val (.int x1), .val (.ref w_TWO), .val (.int (0 : Int32))] [(.int x1), (.ref w_TWO)])) _
            refine st102.trans ?_
            show Steps p.tables e below (T102.setTop (mkF m 122 #[.val (.int x0), .val (.int x1), .val (.int x2), .val (.int (2 : Int32)), .val (.int x1), .val (.ref w_TWO), .val (.int (0 : Int32))] [(.int (0 : Int32))])) _
            refine XS.iload X102.here hx rfl (hb hby at_122) rfl ?_
            show Steps p.tables e below (T102.setTop (mkF m 124 #[.val (.int x0), .val (.int x1), .val (.int x2), .val (.int (2 : Int32)), .val (.int x1), .val (.ref w_TWO), .val (.int (0 : Int32))] [(.int (0 : Int32)), (.int (0 : Int32))])) _
            refine XS.icmpNo X102.here hx rfl (hb hby at_124) rfl (teq ((by decide) : (0 : Int32) = (0 : Int32))).2 ?_
            show Steps p.tables e below (T102.setTop (mkF m 127 #[.val (.int x0), .val (.int x1), .val (.int x2), .val (.int (2 : Int32)), .val (.int x1), .val (.ref w_TWO), .val (.int (0 : Int32))] [])) _
            refine XS.iconst X102.here hx rfl (hb hby at_127) ?_
            show Steps p.tables e below (T102.setTop (mkF m 128 #[.val (.int x0), .val (.int x1), .val (.int x2), .val (.int (2 : Int32)), .val (.int x1), .val (.ref w_TWO), .val (.int (0 : Int32))] [(.int (1 : Int32))])) _
            refine XS.goto X102.here hx rfl (pc0 := 128) (pc' := 132) rfl (hb hby at_128) (by decide) (by decide) ?_
            exact kk)
          obtain ⟨fs, hr, hrun, hended, hW, hsame⟩ := X102.leave (v := some (.int (1 : Int32))) (fun h => by rw [Bd.returns] at h; cases h)
          refine ⟨_, _, pre103 _ ?_, hrun, hended, _, _, rfl, ?_, ⟨_, rfl⟩, hW, hsame.mono (by decide) (by decide)⟩
          · exact retN X102 hx (t := .boolean) Bd.returns (by simp) (hb hby at_132) hr
          · exact ⟨rfl, N102⟩
        ·
          obtain ⟨cq104, kq104, q104a, q104b, q104c⟩ := isOf hZ e95 E_w_TWO
          obtain ⟨_, _, ⟨T104, L104, k104, n104⟩, -, X104, ⟨Lc104, hQ104, l104, y104, z104⟩, st104⟩ := X95.virtualBack hx (y := (⟨"com/example/ballotwire/ballotwire/simulator/Schedule$Ranks", "allows", "(I)Z"⟩ : MethodName)) (z := (⟨"com/example/ballotwire/ballotwire/simulator/Schedule$Ranks", "allows", "(I)Z"⟩ : MethodName)) hown (mvT hZ (hw _ (List.mem_of_getElem? (i := 3) rfl))) (mvT hZ (hw _ (List.mem_of_getElem? (i := 4) rfl))) (notFace_of_selects (args := #[]) (mvT hZ (hw _ (List.mem_of_getElem? (i := 6) rfl)))) (mvT hZ (hw _ (List.mem_of_getElem? (i := 6) rfl))) (mvT hZ (hw _ (List.mem_of_getElem? (i := 5) rfl))) (by decide) (backOf (W := 0) (rm11 l Z a0 hw [] w_TWO x1 h0 n0 Z0 F_fewest_w_TWO hc101 F_most_w_TWO ((own_ar11 x1 hc97 hc101))) hZ (hw _ (List.mem_of_getElem? (i := 7) rfl)) (hw _ (List.mem_of_getElem? (i := 1) rfl)) (by decide) (by decide)) q104a q104c (g := (mkF m 119 #[.val (.int x0), .val (.int x1), .val (.int x2), .val (.int (2 : Int32)), .val (.int x1), .val (.ref w_TWO), .val (.int (0 : Int32))] [(.int x1), (.ref w_TWO)])) rfl (by rw [hml]; rfl) (Steps.refl _) (argsL := [(.int x1)]) (rest := []) (lenOf pd_0 rfl) rfl (by show 2 * 0 + _ ≤ _; exact Nat.le_of_eq rfl) (hb hby at_119) (fun _ _ => ⟨rfl, e95, (by decide : 0 + 0 ≤ _), (by decide : 0 + 0 ≤ _)⟩)
          dsimp only [Pt.U, Pt.locs, Pt.cells, Pt.slots] at X104 l104 y104 z104 st104 hQ104
          subst l104 y104 z104
          obtain ⟨rfl, N104q, e104⟩ := hQ104
          have N104 := Fr.app N0 N104q
          have pre105 : ∀ t, Steps p.tables e below (T104.setTop (mkF m 132 #[.val (.int x0), .val (.int x1), .val (.int x2), .val (.int (2 : Int32)), .val (.int x1), .val (.ref w_TWO), .val (.int (0 : Int32))] [(.int (1 : Int32))])) t → Steps p.tables e below (s₁.setTop (entryFrame m #[(.int x0), (.int x1), (.int x2)] maxLocals)) t := fun t kk => pre100 t (by
            show Steps p.tables e below (T95.setTop (mkF m 119 #[.val (.int x0), .val (.int x1), .val (.int x2), .val (.int (2 : Int32)), .val (.int x1), .val (.ref w_TWO), .val (.int (0 : Int32))] [(.int x1), (.ref w_TWO)])) _
            refine st104.trans ?_
            show Steps p.tables e below (T104.setTop (mkF m 122 #[.val (.int x0), .val (.int x1), .val (.int x2), .val (.int (2 : Int32)), .val (.int x1), .val (.ref w_TWO), .val (.int (0 : Int32))] [(.int (0 : Int32))])) _
            refine XS.iload X104.here hx rfl (hb hby at_122) rfl ?_
            show Steps p.tables e below (T104.setTop (mkF m 124 #[.val (.int x0), .val (.int x1), .val (.int x2), .val (.int (2 : Int32)), .val (.int x1), .val (.ref w_TWO), .val (.int (0 : Int32))] [(.int (0 : Int32)), (.int (0 : Int32))])) _
            refine XS.icmpNo X104.here hx rfl (hb hby at_124) rfl (teq ((by decide) : (0 : Int32) = (0 : Int32))).2 ?_
            show Steps p.tables e below (T104.setTop (mkF m 127 #[.val (.int x0), .val (.int x1), .val (.int x2), .val (.int (2 : Int32)), .val (.int x1), .val (.ref w_TWO), .val (.int (0 : Int32))] [])) _
            refine XS.iconst X104.here hx rfl (hb hby at_127) ?_
            show Steps p.tables e below (T104.setTop (mkF m 128 #[.val (.int x0), .val (.int x1), .val (.int x2), .val (.int (2 : Int32)), .val (.int x1), .val (.ref w_TWO), .val (.int (0 : Int32))] [(.int (1 : Int32))])) _
            refine XS.goto X104.here hx rfl (pc0 := 128) (pc' := 132) rfl (hb hby at_128) (by decide) (by decide) ?_
            exact kk)
          obtain ⟨fs, hr, hrun, hended, hW, hsame⟩ := X104.leave (v := some (.int (1 : Int32))) (fun h => by rw [Bd.returns] at h; cases h)
          refine ⟨_, _, pre105 _ ?_, hrun, hended, _, _, rfl, ?_, ⟨_, rfl⟩, hW, hsame.mono (by decide) (by decide)⟩
          · exact retN X104 hx (t := .boolean) Bd.returns (by simp) (hb hby at_132) hr
          · exact ⟨rfl, N104⟩
  ·
    have pre106 := pre23
    rw [hv24] at pre106
    have pre107 : ∀ t, Steps p.tables e below (s₁.setTop (mkF m 7 #[.val (.int x0), .val (.int x1), .val (.int x2), .val (.int (3 : Int32)), .unset, .unset, .unset] [(.int (x2 &&& (1 : Int32)))])) t → Steps p.tables e below (s₁.setTop (entryFrame m #[(.int x0), (.int x1), (.int x2)] maxLocals)) t := fun t kk => pre106 t (by
      show Steps p.tables e below (s₁.setTop (mkF m 3 #[.val (.int x0), .val (.int x1), .val (.int x2), .unset, .unset, .unset, .unset] [(.int (3 : Int32))])) _
      refine XS.istoreN X0.here hx rfl (hb hby at_3) rfl (l' := #[.val (.int x0), .val (.int x1), .val (.int x2), .val (.int (3 : Int32)), .unset, .unset, .unset]) rfl ?_
      show Steps p.tables e below (s₁.setTop (mkF m 4 #[.val (.int x0), .val (.int x1), .val (.int x2), .val (.int (3 : Int32)), .unset, .unset, .unset] [])) _
      refine XS.iloadN X0.here hx rfl (hb hby at_4) rfl ?_
      show Steps p.tables e below (s₁.setTop (mkF m 5 #[.val (.int x0), .val (.int x1), .val (.int x2), .val (.int (3 : Int32)), .unset, .unset, .unset] [(.int x2)])) _
      refine XS.iconst X0.here hx rfl (hb hby at_5) ?_
      show Steps p.tables e below (s₁.setTop (mkF m 6 #[.val (.int x0), .val (.int x1), .val (.int x2), .val (.int (3 : Int32)), .unset, .unset, .unset] [(.int (1 : Int32)), (.int x2)])) _
      refine XS.iand X0.here hx rfl (hb hby at_6) rfl ?_
      exact kk)
    by_cases hc108 : (x2 &&& (1 : Int32)) = (0 : Int32)
    ·
      obtain ⟨T109, X109, e109, st109⟩ := getS2 X0 hx hZ hown (host := "") (Or.inl (hw _ (List.mem_of_getElem? (i := 14) rfl))) Via.refl e0 S_w_SOME (g := (mkF m 98 #[.val (.int x0), .val (.int x1), .val (.int x2), .val (.int (3 : Int32)), .val (.int ((x1 &&& (7 : Int32)) - (3 : Int32))), .unset, .unset] [])) rfl (hb hby at_98)
      have pre110 : ∀ t, Steps p.tables e below (T109.setTop (mkF m 105 #[.val (.int x0), .val (.int x1), .val (.int x2), .val (.int (3 : Int32)), .val (.int ((x1 &&& (7 : Int32)) - (3 : Int32))), .val (.ref w_SOME), .unset] [(.int ((x1 &&& (7 : Int32)) - (3 : Int32)))])) t → Steps p.tables e below (s₁.setTop (entryFrame m #[(.int x0), (.int x1), (.int x2)] maxLocals)) t := fun t kk => pre107 t (by
        show Steps p.tables e below (s₁.setTop (mkF m 7 #[.val (.int x0), .val (.int x1), .val (.int x2), .val (.int (3 : Int32)), .unset, .unset, .unset] [(.int (x2 &&& (1 : Int32)))])) _
        refine XS.ifYes X0.here hx rfl (pc0 := 7) (pc' := 14) rfl (hb hby at_7) rfl ((if0 _ _).trans (teq (hc108 : (x2 &&& (1 : Int32)) = (0 : Int32))).1) (by decide) (by decide) ?_
        show Steps p.tables e below (s₁.setTop (mkF m 14 #[.val (.int x0), .val (.int x1), .val (.int x2), .val (.int (3 : Int32)), .unset, .unset, .unset] [])) _
        refine XS.iloadN X0.here hx rfl (hb hby at_14) rfl ?_
        show Steps p.tables e below (s₁.setTop (mkF m 15 #[.val (.int x0), .val (.int x1), .val (.int x2), .val (.int (3 : Int32)), .unset, .unset, .unset] [(.int x1)])) _
        refine XS.bipush X0.here hx rfl (hb hby at_15) ?_
        show Steps p.tables e below (s₁.setTop (mkF m 17 #[.val (.int x0), .val (.int x1), .val (.int x2), .val (.int (3 : Int32)), .unset, .unset, .unset] [(.int (7 : Int32)), (.int x1)])) _
        refine XS.iand X0.here hx rfl (hb hby at_17) rfl ?_
        show Steps p.tables e below (s₁.setTop (mkF m 18 #[.val (.int x0), .val (.int x1), .val (.int x2), .val (.int (3 : Int32)), .unset, .unset, .unset] [(.int (x1 &&& (7 : Int32)))])) _
        refine XS.iconst X0.here hx rfl (hb hby at_18) ?_
        show Steps p.tables e below (s₁.setTop (mkF m 19 #[.val (.int x0), .val (.int x1), .val (.int x2), .val (.int (3 : Int32)), .unset, .unset, .unset] [(.int (3 : Int32)), (.int (x1 &&& (7 : Int32)))])) _
        refine XS.isub X0.here hx rfl (hb hby at_19) rfl ?_
        show Steps p.tables e below (s₁.setTop (mkF m 20 #[.val (.int x0), .val (.int x1), .val (.int x2), .val (.int (3 : Int32)), .unset, .unset, .unset] [(.int ((x1 &&& (7 : Int32)) - (3 : Int32)))])) _
        refine XS.istore X0.here hx rfl (hb hby at_20) rfl (l' := #[.val (.int x0), .val (.int x1), .val (.int x2), .val (.int (3 : Int32)), .val (.int ((x1 &&& (7 : Int32)) - (3 : Int32))), .unset, .unset]) rfl ?_
        show Steps p.tables e below (s₁.setTop (mkF m 22 #[.val (.int x0), .val (.int x1), .val (.int x2), .val (.int (3 : Int32)), .val (.int ((x1 &&& (7 : Int32)) - (3 : Int32))), .unset, .unset] [])) _
        refine XS.iloadN X0.here hx rfl (hb hby at_22) rfl ?_
        show Steps p.tables e below (s₁.setTop (mkF m 23 #[.val (.int x0), .val (.int x1), .val (.int x2), .val (.int (3 : Int32)), .val (.int ((x1 &&& (7 : Int32)) - (3 : Int32))), .unset, .unset] [(.int (3 : Int32))])) _
        refine XS.ifYes X0.here hx rfl (pc0 := 23) (pc' := 46) rfl (hb hby at_23) rfl ((if0 _ _).trans (feq ((by decide) : ¬ ((3 : Int32) = (0 : Int32)))).2) (by decide) (by decide) ?_
        show Steps p.tables e below (s₁.setTop (mkF m 46 #[.val (.int x0), .val (.int x1), .val (.int x2), .val (.int (3 : Int32)), .val (.int ((x1 &&& (7 : Int32)) - (3 : Int32))), .unset, .unset] [])) _
        refine XS.iloadN X0.here hx rfl (hb hby at_46) rfl ?_
        show Steps p.tables e below (s₁.setTop (mkF m 47 #[.val (.int x0), .val (.int x1), .val (.int x2), .val (.int (3 : Int32)), .val (.int ((x1 &&& (7 : Int32)) - (3 : Int32))), .unset, .unset] [(.int (3 : Int32))])) _
        refine XS.iconst X0.here hx rfl (hb hby at_47) ?_
        show Steps p.tables e below (s₁.setTop (mkF m 48 #[.val (.int x0), .val (.int x1), .val (.int x2), .val (.int (3 : Int32)), .val (.int ((x1 &&& (7 : Int32)) - (3 : Int32))), .unset, .unset] [(.int (1 : Int32)), (.int (3 : Int32))])) _
        refine XS.icmpYes X0.here hx rfl (pc0 := 48) (pc' := 72) rfl (hb hby at_48) rfl (feq ((by decide) : ¬ ((3 : Int32) = (1 : Int32)))).2 (by decide) (by decide) ?_
        show Steps p.tables e below (s₁.setTop (mkF m 72 #[.val (.int x0), .val (.int x1), .val (.int x2), .val (.int (3 : Int32)), .val (.int ((x1 &&& (7 : Int32)) - (3 : Int32))), .unset, .unset] [])) _
        refine XS.iloadN X0.here hx rfl (hb hby at_72) rfl ?_
        show Steps p.tables e below (s₁.setTop (mkF m 73 #[.val (.int x0), .val (.int x1), .val (.int x2), .val (.int (3 : Int32)), .val (.int ((x1 &&& (7 : Int32)) - (3 : Int32))), .unset, .unset] [(.int (3 : Int32))])) _
        refine XS.iconst X0.here hx rfl (hb hby at_73) ?_
        show Steps p.tables e below (s₁.setTop (mkF m 74 #[.val (.int x0), .val (.int x1), .val (.int x2), .val (.int (3 : Int32)), .val (.int ((x1 &&& (7 : Int32)) - (3 : Int32))), .unset, .unset] [(.int (2 : Int32)), (.int (3 : Int32))])) _
        refine XS.icmpYes X0.here hx rfl (pc0 := 74) (pc' := 98) rfl (hb hby at_74) rfl (feq ((by decide) : ¬ ((3 : Int32) = (2 : Int32)))).2 (by decide) (by decide) ?_
        show Steps p.tables e below (s₁.setTop (mkF m 98 #[.val (.int x0), .val (.int x1), .val (.int x2), .val (.int (3 : Int32)), .val (.int ((x1 &&& (7 : Int32)) - (3 : Int32))), .unset, .unset] [])) _
        refine st109 _ ?_
        show Steps p.tables e below (T109.setTop (mkF m 101 #[.val (.int x0), .val (.int x1), .val (.int x2), .val (.int (3 : Int32)), .val (.int ((x1 &&& (7 : Int32)) - (3 : Int32))), .unset, .unset] [(.ref w_SOME)])) _
        refine XS.astore X109.here hx rfl (hb hby at_101) rfl rfl (l' := #[.val (.int x0), .val (.int x1), .val (.int x2), .val (.int (3 : Int32)), .val (.int ((x1 &&& (7 : Int32)) - (3 : Int32))), .val (.ref w_SOME), .unset]) rfl ?_
        show Steps p.tables e below (T109.setTop (mkF m 103 #[.val (.int x0), .val (.int x1), .val (.int x2), .val (.int (3 : Int32)), .val (.int ((x1 &&& (7 : Int32)) - (3 : Int32))), .val (.ref w_SOME), .unset] [])) _
        refine XS.iload X109.here hx rfl (hb hby at_103) rfl ?_
        exact kk)
      by_cases hc111 : (0 : Int32) < ((x1 &&& (7 : Int32)) - (3 : Int32))
      ·
        obtain ⟨cq112, kq112, q112a, q112b, q112c⟩ := isOf hZ e109 E_w_SOME
        obtain ⟨_, _, ⟨T112, L112, k112, n112⟩, -, X112, ⟨Lc112, hQ112, l112, y112, z112⟩, st112⟩ := X109.virtualBack hx (y := (⟨"com/example/ballotwire/ballotwire/simulator/Schedule$Ranks", "allows", "(I)Z"⟩ : MethodName)) (z := (⟨"com/example/ballotwire/ballotwire/simulator/Schedule$Ranks", "allows", "(I)Z"⟩ : MethodName)) hown (mvT hZ (hw _ (List.mem_of_getElem? (i := 3) rfl))) (mvT hZ (hw _ (List.mem_of_getElem? (i := 4) rfl))) (notFace_of_selects (args := #[]) (mvT hZ (hw _ (List.mem_of_getElem? (i := 6) rfl)))) (mvT hZ (hw _ (List.mem_of_getElem? (i := 6) rfl))) (mvT hZ (hw _ (List.mem_of_getElem? (i := 5) rfl))) (by decide) (backOf (W := 0) (rm13 l Z a0 hw [] w_SOME (((x1 &&& (7 : Int32)) - (3 : Int32))) h0 n0 Z0 F_fewest_w_SOME ((own_ar12 x1 hc111)) F_most_w_SOME ((own_ar13 x1 hc111))) hZ (hw _ (List.mem_of_getElem? (i := 7) rfl)) (hw _ (List.mem_of_getElem? (i := 1) rfl)) (by decide) (by decide)) q112a q112c (g := (mkF m 119 #[.val (.int x0), .val (.int x1), .val (.int x2), .val (.int (3 : Int32)), .val (.int ((x1 &&& (7 : Int32)) - (3 : Int32))), .val (.ref w_SOME), .val (.int (1 : Int32))] [(.int ((x1 &&& (7 : Int32)) - (3 : Int32))), (.ref w_SOME)])) rfl (by rw [hml]; rfl) (Steps.refl _) (argsL := [(.int ((x1 &&& (7 : Int32)) - (3 : Int32)))]) (rest := []) (lenOf pd_0 rfl) rfl (by show 2 * 0 + _ ≤ _; exact Nat.le_of_eq rfl) (hb hby at_119) (fun _ _ => ⟨rfl, e109, (by decide : 0 + 0 ≤ _), (by decide : 0 + 0 ≤ _)⟩)
        dsimp only [Pt.U, Pt.locs, Pt.cells, Pt.slots] at X112 l112 y112 z112 st112 hQ112
        subst l112 y112 z112
        obtain ⟨rfl, N112q, e112⟩ := hQ112
        have N112 := Fr.app N0 N112q
        have pre113 : ∀ t, Steps p.tables e below (T112.setTop (mkF m 132 #[.val (.int x0), .val (.int x1), .val (.int x2), .val (.int (3 : Int32)), .val (.int ((x1 &&& (7 : Int32)) - (3 : Int32))), .val (.ref w_SOME), .val (.int (1 : Int32))] [(.int (1 : Int32))])) t → Steps p.tables e below (s₁.setTop (entryFrame m #[(.int x0), (.int x1), (.int x2)] maxLocals)) t := fun t kk => pre110 t (by
          show Steps p.tables e below (T109.setTop (mkF m 105 #[.val (.int x0), .val (.int x1), .val (.int x2), .val (.int (3 : Int32)), .val (.int ((x1 &&& (7 : Int32)) - (3 : Int32))), .val (.ref w_SOME), .unset] [(.int ((x1 &&& (7 : Int32)) - (3 : Int32)))])) _
          refine XS.ifNo X109.here hx rfl (hb hby at_105) rfl ((if0 _ _).trans (tlt (hc111 : (0 : Int32) < ((x1 &&& (7 : Int32)) - (3 : Int32)))).2.2.2) ?_
          show Steps p.tables e below (T109.setTop (mkF m 108 #[.val (.int x0), .val (.int x1), .val (.int x2), .val (.int (3 : Int32)), .val (.int ((x1 &&& (7 : Int32)) - (3 : Int32))), .val (.ref w_SOME), .unset] [])) _
          refine XS.iconst X109.here hx rfl (hb hby at_108) ?_
          show Steps p.tables e below (T109.setTop (mkF m 109 #[.val (.int x0), .val (.int x1), .val (.int x2), .val (.int (3 : Int32)), .val (.int ((x1 &&& (7 : Int32)) - (3 : Int32))), .val (.ref w_SOME), .unset] [(.int (1 : Int32))])) _
          refine XS.goto X109.here hx rfl (pc0 := 109) (pc' := 113) rfl (hb hby at_109) (by decide) (by decide) ?_
          show Steps p.tables e below (T109.setTop (mkF m 113 #[.val (.int x0), .val (.int x1), .val (.int x2), .val (.int (3 : Int32)), .val (.int ((x1 &&& (7 : Int32)) - (3 : Int32))), .val (.ref w_SOME), .unset] [(.int (1 : Int32))])) _
          refine XS.istore X109.here hx rfl (hb hby at_113) rfl (l' := #[.val (.int x0), .val (.int x1), .val (.int x2), .val (.int (3 : Int32)), .val (.int ((x1 &&& (7 : Int32)) - (3 : Int32))), .val (.ref w_SOME), .val (.int (1 : Int32))]) rfl ?_
          show Steps p.tables e below (T109.setTop (mkF m 115 #[.val (.int x0), .val (.int x1), .val (.int x2), .val (.int (3 : Int32)), .val (.int ((x1 &&& (7 : Int32)) - (3 : Int32))), .val (.ref w_SOME), .val (.int (1 : Int32))] [])) _
          refine XS.aload X109.here hx rfl (hb hby at_115) rfl rfl ?_
          show Steps p.tables e below (T109.setTop (mkF m 117 #[.val (.int x0), .val (.int x1), .val (.int x2), .val (.int (3 : Int32)), .val (.int ((x1 &&& (7 : Int32)) - (3 : Int32))), .val (.ref w_SOME), .val (.int (1 : Int32))] [(.ref w_SOME)])) _
          refine XS.iload X109.here hx rfl (hb hby at_117) rfl ?_
          show Steps p.tables e below (T109.setTop (mkF m 119 #[.val (.int x0), .val (.int x1), .val (.int x2), .val (.int (3 : Int32)), .val (.int ((x1 &&& (7 : Int32)) - (3 : Int32))), .val (.ref w_SOME), .val (.int (1 : Int32))] [(.int ((x1 &&& (7 : Int32)) - (3 : Int32))), (.ref w_SOME)])) _
          refine st112.trans ?_
          show Steps p.tables e below (T112.setTop (mkF m 122 #[.val (.int x0), .val (.int x1), .val (.int x2), .val (.int (3 : Int32)), .val (.int ((x1 &&& (7 : Int32)) - (3 : Int32))), .val (.ref w_SOME), .val (.int (1 : Int32))] [(.int (1 : Int32))])) _
          refine XS.iload X112.here hx rfl (hb hby at_122) rfl ?_
          show Steps p.tables e below (T112.setTop (mkF m 124 #[.val (.int x0), .val (.int x1), .val (.int x2), .val (.int (3 : Int32)), .val (.int ((x1 &&& (7 : Int32)) - (3 : Int32))), .val (.ref w_SOME), .val (.int (1 : Int32))] [(.int (1 : Int32)), (.int (1 : Int32))])) _
          refine XS.icmpNo X112.here hx rfl (hb hby at_124) rfl (teq ((by decide) : (1 : Int32) = (1 : Int32))).2 ?_
          show Steps p.tables e below (T112.setTop (mkF m 127 #[.val (.int x0), .val (.int x1), .val (.int x2), .val (.int (3 : Int32)), .val (.int ((x1 &&& (7 : Int32)) - (3 : Int32))), .val (.ref w_SOME), .val (.int (1 : Int32))] [])) _
          refine XS.iconst X112.here hx rfl (hb hby at_127) ?_
          show Steps p.tables e below (T112.setTop (mkF m 128 #[.val (.int x0), .val (.int x1), .val (.int x2), .val (.int (3 : Int32)), .val (.int ((x1 &&& (7 : Int32)) - (3 : Int32))), .val (.ref w_SOME), .val (.int (1 : Int32))] [(.int (1 : Int32))])) _
          refine XS.goto X112.here hx rfl (pc0 := 128) (pc' := 132) rfl (hb hby at_128) (by decide) (by decide) ?_
          exact kk)
        obtain ⟨fs, hr, hrun, hended, hW, hsame⟩ := X112.leave (v := some (.int (1 : Int32))) (fun h => by rw [Bd.returns] at h; cases h)
        refine ⟨_, _, pre113 _ ?_, hrun, hended, _, _, rfl, ?_, ⟨_, rfl⟩, hW, hsame.mono (by decide) (by decide)⟩
        · exact retN X112 hx (t := .boolean) Bd.returns (by simp) (hb hby at_132) hr
        · exact ⟨rfl, N112⟩
      ·
        obtain ⟨cq114, kq114, q114a, q114b, q114c⟩ := isOf hZ e109 E_w_SOME
        obtain ⟨_, _, ⟨T114, L114, k114, n114⟩, -, X114, ⟨Lc114, hQ114, l114, y114, z114⟩, st114⟩ := X109.virtualBack hx (y := (⟨"com/example/ballotwire/ballotwire/simulator/Schedule$Ranks", "allows", "(I)Z"⟩ : MethodName)) (z := (⟨"com/example/ballotwire/ballotwire/simulator/Schedule$Ranks", "allows", "(I)Z"⟩ : MethodName)) hown (mvT hZ (hw _ (List.mem_of_getElem? (i := 3) rfl))) (mvT hZ (hw _ (List.mem_of_getElem? (i := 4) rfl))) (notFace_of_selects (args := #[]) (mvT hZ (hw _ (List.mem_of_getElem? (i := 6) rfl)))) (mvT hZ (hw _ (List.mem_of_getElem? (i := 6) rfl))) (mvT hZ (hw _ (List.mem_of_getElem? (i := 5) rfl))) (by decide) (backOf (W := 0) (rm6 l Z a0 hw [] w_SOME (((x1 &&& (7 : Int32)) - (3 : Int32))) h0 n0 Z0 F_fewest_w_SOME ((own_ar14 x1 hc111))) hZ (hw _ (List.mem_of_getElem? (i := 7) rfl)) (hw _ (List.mem_of_getElem? (i := 1) rfl)) (by decide) (by decide)) q114a q114c (g := (mkF m 119 #[.val (.int x0), .val (.int x1), .val (.int x2), .val (.int (3 : Int32)), .val (.int ((x1 &&& (7 : Int32)) - (3 : Int32))), .val (.ref w_SOME), .val (.int (0 : Int32))] [(.int ((x1 &&& (7 : Int32)) - (3 : Int32))), (.ref w_SOME)])) rfl (by rw [hml]; rfl) (Steps.refl _) (argsL := [(.int ((x1 &&& (7 : Int32)) - (3 : Int32)))]) (rest := []) (lenOf pd_0 rfl) rfl (by show 2 * 0 + _ ≤ _; exact Nat.le_of_eq rfl) (hb hby at_119) (fun _ _ => ⟨rfl, e109, (by decide : 0 + 0 ≤ _), (by decide : 0 + 0 ≤ _)⟩)
        dsimp only [Pt.U, Pt.locs, Pt.cells, Pt.slots] at X114 l114 y114 z114 st114 hQ114
        subst l114 y114 z114
        obtain ⟨rfl, N114q, e114⟩ := hQ114
        have N114 := Fr.app N0 N114q
        have pre115 : ∀ t, Steps p.tables e below (T114.setTop (mkF m 132 #[.val (.int x0), .val (.int x1), .val (.int x2), .val (.int (3 : Int32)), .val (.int ((x1 &&& (7 : Int32)) - (3 : Int32))), .val (.ref w_SOME), .val (.int (0 : Int32))] [(.int (1 : Int32))])) t → Steps p.tables e below (s₁.setTop (entryFrame m #[(.int x0), (.int x1), (.int x2)] maxLocals)) t := fun t kk => pre110 t (by
          show Steps p.tables e below (T109.setTop (mkF m 105 #[.val (.int x0), .val (.int x1), .val (.int x2), .val (.int (3 : Int32)), .val (.int ((x1 &&& (7 : Int32)) - (3 : Int32))), .val (.ref w_SOME), .unset] [(.int ((x1 &&& (7 : Int32)) - (3 : Int32)))])) _
          refine XS.ifYes X109.here hx rfl (pc0 := 105) (pc' := 112) rfl (hb hby at_105) rfl ((if0 _ _).trans (flt (hc111 : ¬ ((0 : Int32) < ((x1 &&& (7 : Int32)) - (3 : Int32))))).2.2.2) (by decide) (by decide) ?_
          show Steps p.tables e below (T109.setTop (mkF m 112 #[.val (.int x0), .val (.int x1), .val (.int x2), .val (.int (3 : Int32)), .val (.int ((x1 &&& (7 : Int32)) - (3 : Int32))), .val (.ref w_SOME), .unset] [])) _
          refine XS.iconst X109.here hx rfl (hb hby at_112) ?_
          show Steps p.tables e below (T109.setTop (mkF m 113 #[.val (.int x0), .val (.int x1), .val (.int x2), .val (.int (3 : Int32)), .val (.int ((x1 &&& (7 : Int32)) - (3 : Int32))), .val (.ref w_SOME), .unset] [(.int (0 : Int32))])) _
          refine XS.istore X109.here hx rfl (hb hby at_113) rfl (l' := #[.val (.int x0), .val (.int x1), .val (.int x2), .val (.int (3 : Int32)), .val (.int ((x1 &&& (7 : Int32)) - (3 : Int32))), .val (.ref w_SOME), .val (.int (0 : Int32))]) rfl ?_
          show Steps p.tables e below (T109.setTop (mkF m 115 #[.val (.int x0), .val (.int x1), .val (.int x2), .val (.int (3 : Int32)), .val (.int ((x1 &&& (7 : Int32)) - (3 : Int32))), .val (.ref w_SOME), .val (.int (0 : Int32))] [])) _
          refine XS.aload X109.here hx rfl (hb hby at_115) rfl rfl ?_
          show Steps p.tables e below (T109.setTop (mkF m 117 #[.val (.int x0), .val (.int x1), .val (.int x2), .val (.int (3 : Int32)), .val (.int ((x1 &&& (7 : Int32)) - (3 : Int32))), .val (.ref w_SOME), .val (.int (0 : Int32))] [(.ref w_SOME)])) _
          refine XS.iload X109.here hx rfl (hb hby at_117) rfl ?_
          show Steps p.tables e below (T109.setTop (mkF m 119 #[.val (.int x0), .val (.int x1), .val (.int x2), .val (.int (3 : Int32)), .val (.int ((x1 &&& (7 : Int32)) - (3 : Int32))), .val (.ref w_SOME), .val (.int (0 : Int32))] [(.int ((x1 &&& (7 : Int32)) - (3 : Int32))), (.ref w_SOME)])) _
          refine st114.trans ?_
          show Steps p.tables e below (T114.setTop (mkF m 122 #[.val (.int x0), .val (.int x1), .val (.int x2), .val (.int (3 : Int32)), .val (.int ((x1 &&& (7 : Int32)) - (3 : Int32))), .val (.ref w_SOME), .val (.int (0 : Int32))] [(.int (0 : Int32))])) _
          refine XS.iload X114.here hx rfl (hb hby at_122) rfl ?_
          show Steps p.tables e below (T114.setTop (mkF m 124 #[.val (.int x0), .val (.int x1), .val (.int x2), .val (.int (3 : Int32)), .val (.int ((x1 &&& (7 : Int32)) - (3 : Int32))), .val (.ref w_SOME), .val (.int (0 : Int32))] [(.int (0 : Int32)), (.int (0 : Int32))])) _
          refine XS.icmpNo X114.here hx rfl (hb hby at_124) rfl (teq ((by decide) : (0 : Int32) = (0 : Int32))).2 ?_
          show Steps p.tables e below (T114.setTop (mkF m 127 #[.val (.int x0), .val (.int x1), .val (.int x2), .val (.int (3 : Int32)), .val (.int ((x1 &&& (7 : Int32)) - (3 : Int32))), .val (.ref w_SOME), .val (.int (0 : Int32))] [])) _
          refine XS.iconst X114.here hx rfl (hb hby at_127) ?_
          show Steps p.tables e below (T114.setTop (mkF m 128 #[.val (.int x0), .val (.int x1), .val (.int x2), .val (.int (3 : Int32)), .val (.int ((x1 &&& (7 : Int32)) - (3 : Int32))), .val (.ref w_SOME), .val (.int (0 : Int32))] [(.int (1 : Int32))])) _
          refine XS.goto X114.here hx rfl (pc0 := 128) (pc' := 132) rfl (hb hby at_128) (by decide) (by decide) ?_
          exact kk)
        obtain ⟨fs, hr, hrun, hended, hW, hsame⟩ := X114.leave (v := some (.int (1 : Int32))) (fun h => by rw [Bd.returns] at h; cases h)
        refine ⟨_, _, pre115 _ ?_, hrun, hended, _, _, rfl, ?_, ⟨_, rfl⟩, hW, hsame.mono (by decide) (by decide)⟩
        · exact retN X114 hx (t := .boolean) Bd.returns (by simp) (hb hby at_132) hr
        · exact ⟨rfl, N114⟩
    ·
      obtain ⟨T116, X116, e116, st116⟩ := getS2 X0 hx hZ hown (host := "") (Or.inl (hw _ (List.mem_of_getElem? (i := 14) rfl))) Via.refl e0 S_w_SOME (g := (mkF m 98 #[.val (.int x0), .val (.int x1), .val (.int x2), .val (.int (3 : Int32)), .val (.int x1), .unset, .unset] [])) rfl (hb hby at_98)
      have pre117 : ∀ t, Steps p.tables e below (T116.setTop (mkF m 105 #[.val (.int x0), .val (.int x1), .val (.int x2), .val (.int (3 : Int32)), .val (.int x1), .val (.ref w_SOME), .unset] [(.int x1)])) t → Steps p.tables e below (s₁.setTop (entryFrame m #[(.int x0), (.int x1), (.int x2)] maxLocals)) t := fun t kk => pre107 t (by
        show Steps p.tables e below (s₁.setTop (mkF m 7 #[.val (.int x0), .val (.int x1), .val (.int x2), .val (.int (3 : Int32)), .unset, .unset, .unset] [(.int (x2 &&& (1 : Int32)))])) _
        refine XS.ifNo X0.here hx rfl (hb hby at_7) rfl ((if0 _ _).trans (feq (hc108 : ¬ ((x2 &&& (1 : Int32)) = (0 : Int32)))).1) ?_
        show Steps p.tables e below (s₁.setTop (mkF m 10 #[.val (.int x0), .val (.int x1), .val (.int x2), .val (.int (3 : Int32)), .unset, .unset, .unset] [])) _
        refine XS.iloadN X0.here hx rfl (hb hby at_10) rfl ?_
        show Steps p.tables e below (s₁.setTop (mkF m 11 #[.val (.int x0), .val (.int x1), .val (.int x2), .val (.int (3 : Int32)), .unset, .unset, .unset] [(.int x1)])) _
        refine XS.goto X0.here hx rfl (pc0 := 11) (pc' := 20) rfl (hb hby at_11) (by decide) (by decide) ?_
        show Steps p.tables e below (s₁.setTop (mkF m 20 #[.val (.int x0), .val (.int x1), .val (.int x2), .val (.int (3 : Int32)), .unset, .unset, .unset] [(.int x1)])) _
        refine XS.istore X0.here hx rfl (hb hby at_20) rfl (l' := #[.val (.int x0), .val (.int x1), .val (.int x2), .val (.int (3 : Int32)), .val (.int x1), .unset, .unset]) rfl ?_
        show Steps p.tables e below (s₁.setTop (mkF m 22 #[.val (.int x0), .val (.int x1), .val (.int x2), .val (.int (3 : Int32)), .val (.int x1), .unset, .unset] [])) _
        refine XS.iloadN X0.here hx rfl (hb hby at_22) rfl ?_
        show Steps p.tables e below (s₁.setTop (mkF m 23 #[.val (.int x0), .val (.int x1), .val (.int x2), .val (.int (3 : Int32)), .val (.int x1), .unset, .unset] [(.int (3 : Int32))])) _
        refine XS.ifYes X0.here hx rfl (pc0 := 23) (pc' := 46) rfl (hb hby at_23) rfl ((if0 _ _).trans (feq ((by decide) : ¬ ((3 : Int32) = (0 : Int32)))).2) (by decide) (by decide) ?_
        show Steps p.tables e below (s₁.setTop (mkF m 46 #[.val (.int x0), .val (.int x1), .val (.int x2), .val (.int (3 : Int32)), .val (.int x1), .unset, .unset] [])) _
        refine XS.iloadN X0.here hx rfl (hb hby at_46) rfl ?_
        show Steps p.tables e below (s₁.setTop (mkF m 47 #[.val (.int x0), .val (.int x1), .val (.int x2), .val (.int (3 : Int32)), .val (.int x1), .unset, .unset] [(.int (3 : Int32))])) _
        refine XS.iconst X0.here hx rfl (hb hby at_47) ?_
        show Steps p.tables e below (s₁.setTop (mkF m 48 #[.val (.int x0), .val (.int x1), .val (.int x2), .val (.int (3 : Int32)), .val (.int x1), .unset, .unset] [(.int (1 : Int32)), (.int (3 : Int32))])) _
        refine XS.icmpYes X0.here hx rfl (pc0 := 48) (pc' := 72) rfl (hb hby at_48) rfl (feq ((by decide) : ¬ ((3 : Int32) = (1 : Int32)))).2 (by decide) (by decide) ?_
        show Steps p.tables e below (s₁.setTop (mkF m 72 #[.val (.int x0), .val (.int x1), .val (.int x2), .val (.int (3 : Int32)), .val (.int x1), .unset, .unset] [])) _
        refine XS.iloadN X0.here hx rfl (hb hby at_72) rfl ?_
        show Steps p.tables e below (s₁.setTop (mkF m 73 #[.val (.int x0), .val (.int x1), .val (.int x2), .val (.int (3 : Int32)), .val (.int x1), .unset, .unset] [(.int (3 : Int32))])) _
        refine XS.iconst X0.here hx rfl (hb hby at_73) ?_
        show Steps p.tables e below (s₁.setTop (mkF m 74 #[.val (.int x0), .val (.int x1), .val (.int x2), .val (.int (3 : Int32)), .val (.int x1), .unset, .unset] [(.int (2 : Int32)), (.int (3 : Int32))])) _
        refine XS.icmpYes X0.here hx rfl (pc0 := 74) (pc' := 98) rfl (hb hby at_74) rfl (feq ((by decide) : ¬ ((3 : Int32) = (2 : Int32)))).2 (by decide) (by decide) ?_
        show Steps p.tables e below (s₁.setTop (mkF m 98 #[.val (.int x0), .val (.int x1), .val (.int x2), .val (.int (3 : Int32)), .val (.int x1), .unset, .unset] [])) _
        refine st116 _ ?_
        show Steps p.tables e below (T116.setTop (mkF m 101 #[.val (.int x0), .val (.int x1), .val (.int x2), .val (.int (3 : Int32)), .val (.int x1), .unset, .unset] [(.ref w_SOME)])) _
        refine XS.astore X116.here hx rfl (hb hby at_101) rfl rfl (l' := #[.val (.int x0), .val (.int x1), .val (.int x2), .val (.int (3 : Int32)), .val (.int x1), .val (.ref w_SOME), .unset]) rfl ?_
        show Steps p.tables e below (T116.setTop (mkF m 103 #[.val (.int x0), .val (.int x1), .val (.int x2), .val (.int (3 : Int32)), .val (.int x1), .val (.ref w_SOME), .unset] [])) _
        refine XS.iload X116.here hx rfl (hb hby at_103) rfl ?_
        exact kk)
      by_cases hc118 : (0 : Int32) < x1
      ·
        obtain ⟨cq119, kq119, q119a, q119b, q119c⟩ := isOf hZ e116 E_w_SOME
        obtain ⟨_, _, ⟨T119, L119, k119, n119⟩, -, X119, ⟨Lc119, hQ119, l119, y119, z119⟩, st119⟩ := X116.virtualBack hx (y := (⟨"com/example/ballotwire/ballotwire/simulator/Schedule$Ranks", "allows", "(I)Z"⟩ : MethodName)) (z := (⟨"com/example/ballotwire/ballotwire/simulator/Schedule$Ranks", "allows", "(I)Z"⟩ : MethodName)) hown (mvT hZ (hw _ (List.mem_of_getElem? (i := 3) rfl))) (mvT hZ (hw _ (List.mem_of_getElem? (i := 4) rfl))) (notFace_of_selects (args := #[]) (mvT hZ (hw _ (List.mem_of_getElem? (i := 6) rfl)))) (mvT hZ (hw _ (List.mem_of_getElem? (i := 6) rfl))) (mvT hZ (hw _ (List.mem_of_getElem? (i := 5) rfl))) (by decide) (backOf (W := 0) (rm13 l Z a0 hw [] w_SOME x1 h0 n0 Z0 F_fewest_w_SOME ((own_ar15 x1 hc118)) F_most_w_SOME ((own_ar16 x1 hc118))) hZ (hw _ (List.mem_of_getElem? (i := 7) rfl)) (hw _ (List.mem_of_getElem? (i := 1) rfl)) (by decide) (by decide)) q119a q119c (g := (mkF m 119 #[.val (.int x0), .val (.int x1), .val (.int x2), .val (.int (3 : Int32)), .val (.int x1), .val (.ref w_SOME), .val (.int (1 : Int32))] [(.int x1), (.ref w_SOME)])) rfl (by rw [hml]; rfl) (Steps.refl _) (argsL := [(.int x1)]) (rest := []) (lenOf pd_0 rfl) rfl (by show 2 * 0 + _ ≤ _; exact Nat.le_of_eq rfl) (hb hby at_119) (fun _ _ => ⟨rfl, e116, (by decide : 0 + 0 ≤ _), (by decide : 0 + 0 ≤ _)⟩)
        dsimp only [Pt.U, Pt.locs, Pt.cells, Pt.slots] at X119 l119 y119 z119 st119 hQ119
        subst l119 y119 z119
        obtain ⟨rfl, N119q, e119⟩ := hQ119
        have N119 := Fr.app N0 N119q
        have pre120 : ∀ t, Steps p.tables e below (T119.setTop (mkF m 132 #[.val (.int x0), .val (.int x1), .val (.int x2), .val (.int (3 : Int32)), .val (.int x1), .val (.ref w_SOME), .val (.int (1 : Int32))] [(.int (1 : Int32))])) t → Steps p.tables e below (s₁.setTop (entryFrame m #[(.int x0), (.int x1), (.int x2)] maxLocals)) t := fun t kk => pre117 t (by
          show Steps p.tables e below (T116.setTop (mkF m 105 #[.val (.int x0), .val (.int x1), .val (.int x2), .val (.int (3 : Int32)), .val (.int x1), .val (.ref w_SOME), .unset] [(.int x1)])) _
          refine XS.ifNo X116.here hx rfl (hb hby at_105) rfl ((if0 _ _).trans (tlt (hc118 : (0 : Int32) < x1)).2.2.2) ?_
          show Steps p.tables e below (T116.setTop (mkF m 108 #[.val (.int x0), .val (.int x1), .val (.int x2), .val (.int (3 : Int32)), .val (.int x1), .val (.ref w_SOME), .unset] [])) _
          refine XS.iconst X116.here hx rfl (hb hby at_108) ?_
          show Steps p.tables e below (T116.setTop (mkF m 109 #[.val (.int x0), .val (.int x1), .val (.int x2), .val (.int (3 : Int32)), .val (.int x1), .val (.ref w_SOME), .unset] [(.int (1 : Int32))])) _
          refine XS.goto X116.here hx rfl (pc0 := 109) (pc' := 113) rfl (hb hby at_109) (by decide) (by decide) ?_
          show Steps p.tables e below (T116.setTop (mkF m 113 #[.val (.int x0), .val (.int x1), .val (.int x2), .val (.int (3 : Int32)), .val (.int x1), .val (.ref w_SOME), .unset] [(.int (1 : Int32))])) _
          refine XS.istore X116.here hx rfl (hb hby at_113) rfl (l' := #[.val (.int x0), .val (.int x1), .val (.int x2), .val (.int (3 : Int32)), .val (.int x1), .val (.ref w_SOME), .val (.int (1 : Int32))]) rfl ?_
          show Steps p.tables e below (T116.setTop (mkF m 115 #[.val (.int x0), .val (.int x1), .val (.int x2), .val (.int (3 : Int32)), .val (.int x1), .val (.ref w_SOME), .val (.int (1 : Int32))] [])) _
          refine XS.aload X116.here hx rfl (hb hby at_115) rfl rfl ?_
          show Steps p.tables e below (T116.setTop (mkF m 117 #[.val (.int x0), .val (.int x1), .val (.int x2), .val (.int (3 : Int32)), .val (.int x1), .val (.ref w_SOME), .val (.int (1 : Int32))] [(.ref w_SOME)])) _
          refine XS.iload X116.here hx rfl (hb hby at_117) rfl ?_
          show Steps p.tables e below (T116.setTop (mkF m 119 #[.val (.int x0), .val (.int x1), .val (.int x2), .val (.int (3 : Int32)), .val (.int x1), .val (.ref w_SOME), .val (.int (1 : Int32))] [(.int x1), (.ref w_SOME)])) _
          refine st119.trans ?_
          show Steps p.tables e below (T119.setTop (mkF m 122 #[.val (.int x0), .val (.int x1), .val (.int x2), .val (.int (3 : Int32)), .val (.int x1), .val (.ref w_SOME), .val (.int (1 : Int32))] [(.int (1 : Int32))])) _
          refine XS.iload X119.here hx rfl (hb hby at_122) rfl ?_
          show Steps p.tables e below (T119.setTop (mkF m 124 #[.val (.int x0), .val (.int x1), .val (.int x2), .val (.int (3 : Int32)), .val (.int x1), .val (.ref w_SOME), .val (.int (1 : Int32))] [(.int (1 : Int32)), (.int (1 : Int32))])) _
          refine XS.icmpNo X119.here hx rfl (hb hby at_124) rfl (teq ((by decide) : (1 : Int32) = (1 : Int32))).2 ?_
          show Steps p.tables e below (T119.setTop (mkF m 127 #[.val (.int x0), .val (.int x1), .val (.int x2), .val (.int (3 : Int32)), .val (.int x1), .val (.ref w_SOME), .val (.int (1 : Int32))] [])) _
          refine XS.iconst X119.here hx rfl (hb hby at_127) ?_
          show Steps p.tables e below (T119.setTop (mkF m 128 #[.val (.int x0), .val (.int x1), .val (.int x2), .val (.int (3 : Int32)), .val (.int x1), .val (.ref w_SOME), .val (.int (1 : Int32))] [(.int (1 : Int32))])) _
          refine XS.goto X119.here hx rfl (pc0 := 128) (pc' := 132) rfl (hb hby at_128) (by decide) (by decide) ?_
          exact kk)
        obtain ⟨fs, hr, hrun, hended, hW, hsame⟩ := X119.leave (v := some (.int (1 : Int32))) (fun h => by rw [Bd.returns] at h; cases h)
        refine ⟨_, _, pre120 _ ?_, hrun, hended, _, _, rfl, ?_, ⟨_, rfl⟩, hW, hsame.mono (by decide) (by decide)⟩
        · exact retN X119 hx (t := .boolean) Bd.returns (by simp) (hb hby at_132) hr
        · exact ⟨rfl, N119⟩
      ·
        obtain ⟨cq121, kq121, q121a, q121b, q121c⟩ := isOf hZ e116 E_w_SOME
        obtain ⟨_, _, ⟨T121, L121, k121, n121⟩, -, X121, ⟨Lc121, hQ121, l121, y121, z121⟩, st121⟩ := X116.virtualBack hx (y := (⟨"com/example/ballotwire/ballotwire/simulator/Schedule$Ranks", "allows", "(I)Z"⟩ : MethodName)) (z := (⟨"com/example/ballotwire/ballotwire/simulator/Schedule$Ranks", "allows", "(I)Z"⟩ : MethodName)) hown (mvT hZ (hw _ (List.mem_of_getElem? (i := 3) rfl))) (mvT hZ (hw _ (List.mem_of_getElem? (i := 4) rfl))) (notFace_of_selects (args := #[]) (mvT hZ (hw _ (List.mem_of_getElem? (i := 6) rfl)))) (mvT hZ (hw _ (List.mem_of_getElem? (i := 6) rfl))) (mvT hZ (hw _ (List.mem_of_getElem? (i := 5) rfl))) (by decide) (backOf (W := 0) (rm6 l Z a0 hw [] w_SOME x1 h0 n0 Z0 F_fewest_w_SOME ((own_ar17 x1 hc118))) hZ (hw _ (List.mem_of_getElem? (i := 7) rfl)) (hw _ (List.mem_of_getElem? (i := 1) rfl)) (by decide) (by decide)) q121a q121c (g := (mkF m 119 #[.val (.int x0), .val (.int x1), .val (.int x2), .val (.int (3 : Int32)), .val (.int x1), .val (.ref w_SOME), .val (.int (0 : Int32))] [(.int x1), (.ref w_SOME)])) rfl (by rw [hml]; rfl) (Steps.refl _) (argsL := [(.int x1)]) (rest := []) (lenOf pd_0 rfl) rfl (by show 2 * 0 + _ ≤ _; exact Nat.le_of_eq rfl) (hb hby at_119) (fun _ _ => ⟨rfl, e116, (by decide : 0 + 0 ≤ _), (by decide : 0 + 0 ≤ _)⟩)
        dsimp only [Pt.U, Pt.locs, Pt.cells, Pt.slots] at X121 l121 y121 z121 st121 hQ121
        subst l121 y121 z121
        obtain ⟨rfl, N121q, e121⟩ := hQ121
        have N121 := Fr.app N0 N121q
        have pre122 : ∀ t, Steps p.tables e below (T121.setTop (mkF m 132 #[.val (.int x0), .val (.int x1), .val (.int x2), .val (.int (3 : Int32)), .val (.int x1), .val (.ref w_SOME), .val (.int (0 : Int32))] [(.int (1 : Int32))])) t → Steps p.tables e below (s₁.setTop (entryFrame m #[(.int x0), (.int x1), (.int x2)] maxLocals)) t := fun t kk => pre117 t (by
          show Steps p.tables e below (T116.setTop (mkF m 105 #[.val (.int x0), .val (.int x1), .val (.int x2), .val (.int (3 : Int32)), .val (.int x1), .val (.ref w_SOME), .unset] [(.int x1)])) _
          refine XS.ifYes X116.here hx rfl (pc0 := 105) (pc' := 112) rfl (hb hby at_105) rfl ((if0 _ _).trans (flt (hc118 : ¬ ((0 : Int32) < x1))).2.2.2) (by decide) (by decide) ?_
          show Steps p.tables e below (T116.setTop (mkF m 112 #[.val (.int x0), .val (.int x1), .val (.int x2), .val (.int (3 : Int32)), .val (.int x1), .val (.ref w_SOME), .unset] [])) _
          refine XS.iconst X116.here hx rfl (hb hby at_112) ?_
          show Steps p.tables e below (T116.setTop (mkF m 113 #[.val (.int x0), .val (.int x1), .val (.int x2), .val (.int (3 : Int32)), .val (.int x1), .val (.ref w_SOME), .unset] [(.int (0 : Int32))])) _
          refine XS.istore X116.here hx rfl (hb hby at_113) rfl (l' := #[.val (.int x0), .val (.int x1), .val (.int x2), .val (.int (3 : Int32)), .val (.int x1), .val (.ref w_SOME), .val (.int (0 : Int32))]) rfl ?_
          show Steps p.tables e below (T116.setTop (mkF m 115 #[.val (.int x0), .val (.int x1), .val (.int x2), .val (.int (3 : Int32)), .val (.int x1), .val (.ref w_SOME), .val (.int (0 : Int32))] [])) _
          refine XS.aload X116.here hx rfl (hb hby at_115) rfl rfl ?_
          show Steps p.tables e below (T116.setTop (mkF m 117 #[.val (.int x0), .val (.int x1), .val (.int x2), .val (.int (3 : Int32)), .val (.int x1), .val (.ref w_SOME), .val (.int (0 : Int32))] [(.ref w_SOME)])) _
          refine XS.iload X116.here hx rfl (hb hby at_117) rfl ?_
          show Steps p.tables e below (T116.setTop (mkF m 119 #[.val (.int x0), .val (.int x1), .val (.int x2), .val (.int (3 : Int32)), .val (.int x1), .val (.ref w_SOME), .val (.int (0 : Int32))] [(.int x1), (.ref w_SOME)])) _
          refine st121.trans ?_
          show Steps p.tables e below (T121.setTop (mkF m 122 #[.val (.int x0), .val (.int x1), .val (.int x2), .val (.int (3 : Int32)), .val (.int x1), .val (.ref w_SOME), .val (.int (0 : Int32))] [(.int (0 : Int32))])) _
          refine XS.iload X121.here hx rfl (hb hby at_122) rfl ?_
          show Steps p.tables e below (T121.setTop (mkF m 124 #[.val (.int x0), .val (.int x1), .val (.int x2), .val (.int (3 : Int32)), .val (.int x1), .val (.ref w_SOME), .val (.int (0 : Int32))] [(.int (0 : Int32)), (.int (0 : Int32))])) _
          refine XS.icmpNo X121.here hx rfl (hb hby at_124) rfl (teq ((by decide) : (0 : Int32) = (0 : Int32))).2 ?_
          show Steps p.tables e below (T121.setTop (mkF m 127 #[.val (.int x0), .val (.int x1), .val (.int x2), .val (.int (3 : Int32)), .val (.int x1), .val (.ref w_SOME), .val (.int (0 : Int32))] [])) _
          refine XS.iconst X121.here hx rfl (hb hby at_127) ?_
          show Steps p.tables e below (T121.setTop (mkF m 128 #[.val (.int x0), .val (.int x1), .val (.int x2), .val (.int (3 : Int32)), .val (.int x1), .val (.ref w_SOME), .val (.int (0 : Int32))] [(.int (1 : Int32))])) _
          refine XS.goto X121.here hx rfl (pc0 := 128) (pc' := 132) rfl (hb hby at_128) (by decide) (by decide) ?_
          exact kk)
        obtain ⟨fs, hr, hrun, hended, hW, hsame⟩ := X121.leave (v := some (.int (1 : Int32))) (fun h => by rw [Bd.returns] at h; cases h)
        refine ⟨_, _, pre122 _ ?_, hrun, hended, _, _, rfl, ?_, ⟨_, rfl⟩, hW, hsame.mono (by decide) (by decide)⟩
        · exact retN X121 hx (t := .boolean) Bd.returns (by simp) (hb hby at_132) hr
        · exact ⟨rfl, N121⟩
set_option maxRecDepth 65536 in
set_option maxHeartbeats 40000000 in
theorem comes_1 {Post : Tables → Env → Array Value → State → Outcome → State → Prop} (hpost : ∀ tb e args s v u, (limb_1_1.after args s (.returned v) u = true ∧ limb_1_2.after args s (.returned v) u = true ∧ True) → FrameEnd s (.returned v) u (Jvm.fieldLocs frame_1_writes args s ++ Jvm.arrayLocs frame_1_arrays args s ++ Jvm.staticLocs frame_1_statics s) 0 0 → Post tb e args s (.returned v) u) :
    ArmFor flags0 classFile x code maxLocals ret World_1 tables_1 room_1 Calls_1 rest_1 Pre_1 Post := by
  intro l hfl _ _ p e ha hc hk s m args below hf hA hF happ hP
  obtain ⟨hcalls, hrest, hpre⟩ := hP
  obtain ⟨-, -, -, hnamed, -, -, -, hat⟩ := (Spec.applies_iff hf).mp happ
  obtain ⟨hg, hn⟩ := and_e (Cond.before_iff.mp (show (Jvm.Cond.and given_1 narrow_1).before args s = true from hpre))
  obtain ⟨hcount, hgs⟩ := and_e hg
  obtain ⟨hk0, hr0⟩ := and_e hgs
  obtain ⟨hk1, hr1⟩ := and_e hr0
  obtain ⟨v0, v1, v2, rfl⟩ : ∃ v0 v1 v2 : Value, args = #[v0, v1, v2] := by
    have hs : args.size = 3 := by simpa [Cond.value, given_1] using hcount
    obtain ⟨L⟩ := args
    match L, hs with
    | [v0, v1, v2], _ => exact ⟨v0, v1, v2, rfl⟩
  have hw := fun d (hd : d ∈ tables_1) => atoms_spec (ws := Jvm.Cond.code x code maxLocals ret :: tables_1) hat d (List.mem_cons_of_mem _ hd)
  have hfit : Fit s := fun {y c} hc i hi => by
    obtain ⟨ha, rfl⟩ := Array.getElem?_eq_some_iff.mp hc
    have q := List.all_eq_true.mp ((Array.all_eq_true_iff_forall_mem.mp hF) _ (Array.getElem_mem ha)) i (List.mem_range.mpr hi)
    simpa [Array.getElem?_eq_getElem hi] using q
  obtain ⟨i0, ei0⟩ := is_v hk0
  obtain rfl : v0 = (.int i0) := Option.some.inj ei0
  obtain ⟨i1, ei1⟩ := is_v hk1
  obtain rfl : v1 = (.int i1) := Option.some.inj ei1
  obtain ⟨i2, ei2⟩ := is_v hr1
  obtain rfl : v2 = (.int i2) := Option.some.inj ei2
  obtain ⟨n1, n2⟩ := and_e hn
  obtain ⟨n3, n4⟩ := and_e n2
  obtain ⟨n5, n6⟩ := and_e n4
  obtain ⟨n7, n8⟩ := and_e n6
  obtain ⟨n9, n10⟩ := and_e n8
  obtain ⟨n11, n12⟩ := and_e n10
  obtain ⟨n13, n14⟩ := and_e n12
  obtain ⟨n15, n16⟩ := and_e n14
  obtain ⟨n17, n18⟩ := and_e n16
  obtain ⟨n19, n20⟩ := and_e n18
  obtain ⟨n21, n22⟩ := and_e n20
  obtain ⟨w_NONE, e_w_NONE⟩ := exa_v n1
  obtain ⟨w_ONE, e_w_ONE⟩ := exa_v n7
  obtain ⟨w_SOME, e_w_SOME⟩ := exa_v n13
  obtain ⟨w_TWO, e_w_TWO⟩ := exa_v n17
  have h_S_w_NONE := Sta.start e_w_NONE (Or.inr ⟨(hw _ (List.mem_of_getElem? (i := 1) rfl)), (hw _ (List.mem_of_getElem? (i := 2) rfl))⟩)
  have h_E_w_NONE := Exa.start e_w_NONE n1
  have h_S_w_ONE := Sta.start e_w_ONE (Or.inr ⟨(hw _ (List.mem_of_getElem? (i := 1) rfl)), (hw _ (List.mem_of_getElem? (i := 13) rfl))⟩)
  have h_E_w_ONE := Exa.start e_w_ONE n7
  have h_S_w_SOME := Sta.start e_w_SOME (Or.inr ⟨(hw _ (List.mem_of_getElem? (i := 1) rfl)), (hw _ (List.mem_of_getElem? (i := 15) rfl))⟩)
  have h_E_w_SOME := Exa.start e_w_SOME n13
  have h_S_w_TWO := Sta.start e_w_TWO (Or.inr ⟨(hw _ (List.mem_of_getElem? (i := 1) rfl)), (hw _ (List.mem_of_getElem? (i := 17) rfl))⟩)
  have h_E_w_TWO := Exa.start e_w_TWO n17
  have h_F_fewest_w_NONE := own_fld e_w_NONE n3
  have h_F_most_w_NONE := own_fld e_w_NONE n5
  have h_F_fewest_w_ONE := own_fld e_w_ONE n9
  have h_F_most_w_ONE := own_fld e_w_ONE n11
  have h_F_fewest_w_SOME := own_fld e_w_SOME n15
  have h_F_fewest_w_TWO := own_fld e_w_TWO n19
  have h_F_most_w_SOME := own_fld e_w_SOME n21
  have h_F_most_w_TWO := own_fld e_w_TWO n22
  obtain ⟨n, o, h1, h2, h3, _, L, rfl, ⟨rfl, N⟩, hq⟩ := rm0 l s _ hw tables_1 i0 i1 i2 w_NONE w_ONE w_SOME w_TWO s.heap s.heap.size (Nat.le_refl _) h_S_w_NONE h_E_w_NONE h_S_w_ONE h_E_w_ONE h_S_w_SOME h_E_w_SOME h_S_w_TWO h_E_w_TWO h_F_fewest_w_NONE h_F_most_w_NONE h_F_fewest_w_ONE h_F_most_w_ONE h_F_fewest_w_SOME h_F_fewest_w_TWO h_F_most_w_SOME h_F_most_w_TWO p e ha hc hk s m _ below hf ((Spec.applies_iff_loose hf).mp happ).1 ⟨rfl, State.Warmed39.refl s, rfl⟩ trivial
  exact ⟨n, _, h1, h2, h3, hpost _ _ _ _ _ _ ⟨Cond.after_iff.mpr rfl, Cond.after_iff.mpr (eq_i res_at (Term.int_eval (1)) rfl), trivial⟩ ⟨hq.1, hq.2.1, (hq.2.2.sift fun y hy => Or.inr (N y hy)).mono (by decide) (by decide)⟩⟩
theorem main_1_1 : Claimed_1_1 := comes_1 fun _ _ _ _ _ _ h hF => ⟨h.1, hF⟩
theorem main_1_2 : Claimed_1_2 := comes_1 fun _ _ _ _ _ _ h hF => ⟨h.2.1, hF⟩
end Jvm.Pilot.@@N@@
namespace Jvm.Pilot.@@N@@
open Jvm Jvm.ClassFile Sem Op Lib Jvm.Free Jvm.Stand Jvm.Pilot.@@N@@.Jvm.D
/-! MADE BY PROGRAM (witnessworld.py) out of the Statement's table words and the real class files: 12 classes; the members and pool entries that the words name. The judged class is class 1, her method 1. -/
namespace start1
open Jvm.ClassFile
def u (s : String) : CpInfo := .utf8 (stringToUtf16 s)
/-- a pool by its gaps: so many unusable entries, then the entry; so many at the end -/
def gap : Nat → List CpInfo → List CpInfo
  | 0, r => r
  | n + 1, r => .unusable :: gap n r
def poolList (es : List (Nat × CpInfo)) (last : Nat) : List CpInfo := es.foldr (fun e r => gap e.1 (e.2 :: r)) (gap last [])
def pool (es : List (Nat × CpInfo)) (last : Nat) : Array CpInfo := ⟨poolList es last⟩
def fileOf (pool : Array CpInfo) (this : Nat) (attrs : Array Attribute := #[]) (ms : Array MethodInfo := #[]) (fl : Nat := 33) (sup : Nat := 0) (ifs : Array Nat := #[]) (fds : Array FieldInfo := #[]) : ClassFile where
  minorVersion := 0
  majorVersion := 65
  constantPool := pool
  accessFlags := fl
  thisClass := this
  superClass := sup
  interfaces := ifs
  fields := fds
  methods := ms
  attributes := attrs
def plain (name : String) (sup : Option ClassId) : Class where
  name := name
  kind := .ordinary
  loader := none
  accessFlags := 33
  super := sup
  interfaces := #[]
  cf := none
  fields := #[]
  methods := #[]
  instanceTypes := #[]
  staticTypes := #[]
  resolved := #[]
  callSites := []
  init := .initialized
  statics := none
  mirror := none

def pool0 : Array CpInfo := pool [(5, u "<init>"), (0, u "()V"), (1, .class_ 10), (1, u "java/lang/Object")] 113

def k0m0 : Method := { name := "<init>", desc := "()V", sig := { parameters := [], returnType := none }, accessFlags := 1, code := none }
/-- java/lang/Object -/
def k0 : Class := { plain "java/lang/Object" none with
  accessFlags := 33
  interfaces := #[]
  cf := some (fileOf pool0 8 #[] #[{ accessFlags := 1, nameIndex := 5, descriptorIndex := 6, attributes := #[] }] 33 0 #[] #[])
  fields := #[]
  methods := #[k0m0]
  instanceTypes := #[]
  staticTypes := #[]
  resolved := Array.replicate 124 none
  statics := none }

def pool1 : Array CpInfo := pool [(2, .class_ 4), (1, u "java/lang/Object"), (0, u "<init>"), (0, u "()V"), (0, .fieldref 8 9), (0, .class_ 10), (0, .nameAndType 11 12), (0, u "com/example/ballotwire/ballotwire/simulator/Schedule$Ranks"), (0, u "NONE"), (0, u "Lcom/example/ballotwire/ballotwire/simulator/Schedule$Ranks;"), (0, .fieldref 8 14), (0, .nameAndType 15 12), (0, u "ONE"), (0, .fieldref 8 17), (0, .nameAndType 18 12), (0, u "TWO"), (0, .fieldref 8 20), (0, .nameAndType 21 12), (0, u "SOME"), (0, .methodref 8 23), (0, .nameAndType 24 25), (0, u "allows"), (0, u "(I)Z"), (0, .class_ 27), (0, u "com/example/ballotwire/ballotwire/simulator/SchedulePinLaw_RanksAllowsPinLaw"), (2, u "law"), (0, u "(III)Z")] 7

def k1m0 : Method := { name := "<init>", desc := "()V", sig := { parameters := [], returnType := none }, accessFlags := 2, code := none }
def k1c1 : Code := { maxStack := 2, maxLocals := 7, code := code, exceptionTable := #[], attributes := #[] }
def k1m1 : Method := { name := "law", desc := "(III)Z", sig := { parameters := [.int, .int, .int], returnType := some .boolean }, accessFlags := 9, code := some k1c1 }
/-- com/example/ballotwire/ballotwire/simulator/SchedulePinLaw_RanksAllowsPinLaw -/
def k1 : Class := { plain "com/example/ballotwire/ballotwire/simulator/SchedulePinLaw_RanksAllowsPinLaw" (some 0) with
  accessFlags := 49
  interfaces := #[]
  cf := some (fileOf pool1 26 #[] #[{ accessFlags := 2, nameIndex := 5, descriptorIndex := 6, attributes := #[] }, { accessFlags := 9, nameIndex := 30, descriptorIndex := 31, attributes := #[] }] 49 2 #[] #[])
  fields := #[]
  methods := #[k1m0, k1m1]
  instanceTypes := #[]
  staticTypes := #[]
  resolved := Array.replicate 39 none
  statics := none }

def pool2 : Array CpInfo := pool [(1, .class_ 2), (0, u "java/lang/constant/Constable"), (0, .class_ 4), (0, u "java/lang/Object")] 6

/-- java/lang/constant/Constable -/
def k2 : Class := { plain "java/lang/constant/Constable" (some 0) with
  accessFlags := 1537
  interfaces := #[]
  cf := some (fileOf pool2 1 #[] #[] 1537 3 #[] #[])
  fields := #[]
  methods := #[]
  instanceTypes := #[]
  staticTypes := #[]
  resolved := Array.replicate 11 none
  statics := none }

def pool3 : Array CpInfo := pool [(1, .class_ 2), (0, u "java/lang/Comparable"), (0, .class_ 4), (0, u "java/lang/Object")] 7

/-- java/lang/Comparable -/
def k3 : Class := { plain "java/lang/Comparable" (some 0) with
  accessFlags := 1537
  interfaces := #[]
  cf := some (fileOf pool3 1 #[] #[] 1537 3 #[] #[])
  fields := #[]
  methods := #[]
  instanceTypes := #[]
  staticTypes := #[]
  resolved := Array.replicate 12 none
  statics := none }

def pool4 : Array CpInfo := pool [(1, .class_ 2), (0, u "java/io/Serializable"), (0, .class_ 4), (0, u "java/lang/Object")] 2

/-- java/io/Serializable -/
def k4 : Class := { plain "java/io/Serializable" (some 0) with
  accessFlags := 1537
  interfaces := #[]
  cf := some (fileOf pool4 1 #[] #[] 1537 3 #[] #[])
  fields := #[]
  methods := #[]
  instanceTypes := #[]
  staticTypes := #[]
  resolved := Array.replicate 7 none
  statics := none }

def pool5 : Array CpInfo := pool [(2, .class_ 4), (1, u "java/lang/Enum"), (0, u "name"), (0, u "Ljava/lang/String;"), (2, u "ordinal"), (0, u "I"), (1, .class_ 14), (1, u "java/lang/Object"), (4, u "hash"), (86, .class_ 108), (1, u "java/lang/Enum$EnumDesc"), (2, .class_ 112), (0, u "java/lang/constant/Constable"), (0, .class_ 114), (0, u "java/lang/Comparable"), (0, .class_ 116), (0, u "java/io/Serializable")] 87

/-- java/lang/Enum -/
def k5 : Class := { plain "java/lang/Enum" (some 0) with
  accessFlags := 1057
  interfaces := #[2, 3, 4]
  cf := some (fileOf pool5 2 #[.nestMembers #[106]] #[] 1057 12 #[111, 113, 115] #[{ accessFlags := 18, nameIndex := 5, descriptorIndex := 6, attributes := #[] }, { accessFlags := 18, nameIndex := 9, descriptorIndex := 10, attributes := #[] }, { accessFlags := 2, nameIndex := 19, descriptorIndex := 10, attributes := #[] }])
  fields := #[{ name := "name", type := (.object "java/lang/String"), accessFlags := 18, slot := 0, constantValue := 0 }, { name := "ordinal", type := .int, accessFlags := 18, slot := 1, constantValue := 0 }, { name := "hash", type := .int, accessFlags := 2, slot := 2, constantValue := 0 }]
  methods := #[]
  instanceTypes := #[(.object "java/lang/String"), .int, .int]
  staticTypes := #[]
  resolved := Array.replicate 204 none
  statics := none }

def pool6 : Array CpInfo := pool [(1, .class_ 2), (0, u "com/example/ballotwire/ballotwire/simulator/Schedule$Ranks"), (2, u "NONE"), (0, u "Lcom/example/ballotwire/ballotwire/simulator/Schedule$Ranks;"), (2, u "ONE"), (2, u "TWO"), (2, u "SOME"), (2, u "$VALUES"), (0, u "[Lcom/example/ballotwire/ballotwire/simulator/Schedule$Ranks;"), (6, .class_ 28), (1, u "java/lang/Enum"), (6, .fieldref 1 36), (0, .nameAndType 37 38), (0, u "fewest"), (0, u "I"), (0, .fieldref 1 40), (0, .nameAndType 41 38), (0, u "most"), (21, u "allows"), (0, u "(I)Z"), (7, .class_ 73), (0, u "com/example/ballotwire/ballotwire/simulator/Schedule")] 2

def k6c0 : Code := { maxStack := 2, maxLocals := 2, code := prog_88_method_4_code, exceptionTable := #[], attributes := #[] }
def k6m0 : Method := { name := "allows", desc := "(I)Z", sig := { parameters := [.int], returnType := some .boolean }, accessFlags := 1, code := some k6c0 }
/-- com/example/ballotwire/ballotwire/simulator/Schedule$Ranks -/
def k6 : Class := { plain "com/example/ballotwire/ballotwire/simulator/Schedule$Ranks" (some 5) with
  accessFlags := 16433
  interfaces := #[]
  cf := some (fileOf pool6 1 #[.nestHost 72] #[{ accessFlags := 1, nameIndex := 63, descriptorIndex := 64, attributes := #[] }] 16433 26 #[] #[{ accessFlags := 16409, nameIndex := 5, descriptorIndex := 6, attributes := #[] }, { accessFlags := 16409, nameIndex := 9, descriptorIndex := 6, attributes := #[] }, { accessFlags := 16409, nameIndex := 12, descriptorIndex := 6, attributes := #[] }, { accessFlags := 16409, nameIndex := 15, descriptorIndex := 6, attributes := #[] }, { accessFlags := 18, nameIndex := 37, descriptorIndex := 38, attributes := #[] }, { accessFlags := 18, nameIndex := 41, descriptorIndex := 38, attributes := #[] }, { accessFlags := 4122, nameIndex := 18, descriptorIndex := 19, attributes := #[] }])
  fields := #[{ name := "NONE", type := (.object "com/example/ballotwire/ballotwire/simulator/Schedule$Ranks"), accessFlags := 16409, slot := 0, constantValue := 0 }, { name := "ONE", type := (.object "com/example/ballotwire/ballotwire/simulator/Schedule$Ranks"), accessFlags := 16409, slot := 1, constantValue := 0 }, { name := "TWO", type := (.object "com/example/ballotwire/ballotwire/simulator/Schedule$Ranks"), accessFlags := 16409, slot := 2, constantValue := 0 }, { name := "SOME", type := (.object "com/example/ballotwire/ballotwire/simulator/Schedule$Ranks"), accessFlags := 16409, slot := 3, constantValue := 0 }, { name := "fewest", type := .int, accessFlags := 18, slot := 3, constantValue := 0 }, { name := "most", type := .int, accessFlags := 18, slot := 4, constantValue := 0 }, { name := "$VALUES", type := (.array (.object "com/example/ballotwire/ballotwire/simulator/Schedule$Ranks")), accessFlags := 4122, slot := 4, constantValue := 0 }]
  methods := #[k6m0]
  instanceTypes := #[(.object "java/lang/String"), .int, .int, .int, .int]
  staticTypes := #[(.object "com/example/ballotwire/ballotwire/simulator/Schedule$Ranks"), (.object "com/example/ballotwire/ballotwire/simulator/Schedule$Ranks"), (.object "com/example/ballotwire/ballotwire/simulator/Schedule$Ranks"), (.object "com/example/ballotwire/ballotwire/simulator/Schedule$Ranks"), (.array (.object "com/example/ballotwire/ballotwire/simulator/Schedule$Ranks"))]
  resolved := Array.replicate 76 none
  statics := some 0 }

def pool7 : Array CpInfo := pool [(1, u "java/lang/Cloneable"), (0, .class_ 1), (0, u "java/lang/Object"), (0, .class_ 3)] 3

/-- java/lang/Cloneable -/
def k7 : Class := { plain "java/lang/Cloneable" (some 0) with
  accessFlags := 1537
  interfaces := #[]
  cf := some (fileOf pool7 2 #[] #[] 1537 4 #[] #[])
  fields := #[]
  methods := #[]
  instanceTypes := #[]
  staticTypes := #[]
  resolved := Array.replicate 8 none
  statics := none }

/-- the primitive byte -/
def k8 : Class := { plain "byte" none with kind := .primitive 'B', accessFlags := 0x411 }
/-- [B -/
def k9 : Class := { plain "[B" (some 0) with kind := .array 8 .byte, interfaces := #[7, 4], accessFlags := 1041 }

/-- the primitive int -/
def k10 : Class := { plain "int" none with kind := .primitive 'I', accessFlags := 0x411 }
/-- [I -/
def k11 : Class := { plain "[I" (some 0) with kind := .array 10 .int, interfaces := #[7, 4], accessFlags := 1041 }

def heap : Heap := #[{ cls := 6, slots := #[.ref 1, .ref 2, .ref 4, .ref 3, .null], vm := .statics 6 },
  { cls := 6, slots := #[.null, .int 0, .int 0, .int 0, .int 0], vm := .none },
  { cls := 6, slots := #[.null, .int 0, .int 0, .int 1, .int 1], vm := .none },
  { cls := 6, slots := #[.null, .int 0, .int 0, .int 1, .int 2147483647], vm := .none },
  { cls := 6, slots := #[.null, .int 0, .int 0, .int 2, .int 2], vm := .none }]
def classes : Array Class := #[k0, k1, k2, k3, k4, k5, k6, k7, k8, k9, k10, k11]
def interned : List (Array UInt16 × Addr) := []
def slotsUsed : Nat := 25
def theMethod : MethodId := ⟨1, 1⟩
def args0 : Array Value := #[.int 5, .int 6, .int 7]
def aboutOver (below : List Frame) : State where
  vm := { classes := classes, interned := interned.toArray }
  heap := heap
  slotsUsed := slotsUsed
  threads := #[{ frames := .invoking theMethod args0 :: below }]
def below0 : List Frame := [.native { method := ⟨0, 0⟩, args := #[] }]
def about1 : State := aboutOver below0
def p0 : Program := .bare "" "" ""
def e0 : Env := launch0.env 0 0 0
theorem w_frames : about1.frames = Frame.invoking theMethod args0 :: below0 := rfl
set_option maxRecDepth 65536 in
theorem w_args : argsFit about1.vm theMethod args0 = true := by decide +kernel
set_option maxRecDepth 65536 in
theorem w_heap : heapFits about1 = true := by decide +kernel
set_option maxRecDepth 65536 in
theorem w_runnable : about1.curStatus? = some .runnable := by decide +kernel
set_option maxRecDepth 65536 in
theorem w_alone : about1.alone = true := by decide +kernel
set_option maxRecDepth 65536 in
theorem w_named : about1.methodNamed? x = some theMethod := by decide +kernel
set_option maxRecDepth 65536 in
theorem w_hears : about1.hears theMethod below0 = true := by decide +kernel
set_option maxRecDepth 65536 in
theorem w_ripe : about1.ripe theMethod args0 below0 = true := by decide +kernel
theorem w_running : about1.status = .running := rfl
set_option maxRecDepth 65536 in
theorem w_room : about1.hasRoom e0.platform room_1 = true :=
  launch0.hasRoom_least _ room_1 (by decide +kernel) (by decide +kernel) (by decide +kernel) (by decide +kernel) (by decide +kernel) (by decide +kernel)
theorem allAtoms_all (ts : List Jvm.Cond) (a : Array Jvm.Value) (st : Jvm.State) : (allAtoms ts).before a st = ts.all (fun c => c.before a st) := by
  induction ts with
  | nil => rfl
  | cons c t ih =>
    show (Jvm.Cond.and c (allAtoms t)).before a st = _
    rw [Jvm.Cond.before_and, ih, List.all_cons]
def words1 : List Jvm.Cond := Jvm.Cond.code x code maxLocals ret :: tables_1
/-- a 'code' word, met by the world's own term for the bytes: nothing is compared byte by byte -/
theorem code_word {y : MethodName} {bytes : ByteArray} {mx : Nat} {rt : Option FieldType} {a : Array Value} {s : State} {m : MethodId} {meth : Method} {c : Code} (h1 : s.methodNamed? y = some m) (h2 : s.vm.method? m = some meth) (h3 : meth.code = some c) (h4 : c.code = bytes)
    (h5 : (c.maxLocals == mx && c.exceptionTable.isEmpty && decide (c.maxStack ≤ mostOperands) && decide (meth.sig.returnType = rt) && !meth.locks && decide (parseMethodDescriptor y.desc = some meth.sig)) = true) : (Jvm.Cond.code y bytes mx rt).before a s = true := by
  simp only [Bool.and_eq_true, beq_iff_eq, Bool.not_eq_true', decide_eq_true_eq] at h5
  obtain ⟨⟨⟨⟨⟨g1, g2⟩, g3⟩, g4⟩, g5⟩, g6⟩ := h5
  simp [Cond.before, Cond.holds, Cond.value, h1, h2, h3, h4, g1, g2, g3, g4, g5, g6]
def isCode : Jvm.Cond → Bool
  | .code _ _ _ _ => true
  | _ => false
theorem all_split {L : List Jvm.Cond} {P : Jvm.Cond → Bool} (h1 : L.all (fun c => isCode c || P c) = true) (h2 : ∀ c ∈ L.filter isCode, P c = true) : L.all P = true := by
  refine List.all_eq_true.mpr fun c hc => ?_
  have h := List.all_eq_true.mp h1 c hc
  rcases Bool.eq_false_or_eq_true (isCode c) with hi | hi
  · exact h2 c (List.mem_filter.mpr ⟨hc, hi⟩)
  · simpa [hi] using h
set_option maxRecDepth 65536 in
theorem w_c0 : (Jvm.Cond.code x code maxLocals ret).before args0 about1 = true := code_word (m := ⟨1, 1⟩) (meth := k1m1) (c := k1c1) (by decide +kernel) rfl rfl rfl (by decide +kernel)
set_option maxRecDepth 65536 in
theorem w_c1 : (Jvm.Cond.code ({ cls := "com/example/ballotwire/ballotwire/simulator/Schedule$Ranks", name := "allows", desc := "(I)Z" } : Jvm.MethodName) prog_88_method_4_code (2 : Nat) (Option.some Jvm.ClassFile.FieldType.boolean)).before args0 about1 = true := code_word (m := ⟨6, 0⟩) (meth := k6m0) (c := k6c0) (by decide +kernel) rfl rfl rfl (by decide +kernel)
def codes1 : List Jvm.Cond := [Jvm.Cond.code x code maxLocals ret, Jvm.Cond.code ({ cls := "com/example/ballotwire/ballotwire/simulator/Schedule$Ranks", name := "allows", desc := "(I)Z" } : Jvm.MethodName) prog_88_method_4_code (2 : Nat) (Option.some Jvm.ClassFile.FieldType.boolean)]
set_option maxRecDepth 65536 in
theorem codes_eq : words1.filter isCode = codes1 := rfl
theorem w_codes : ∀ c ∈ words1.filter isCode, c.before args0 about1 = true := by
  rw [codes_eq]
  intro c hc
  simp only [codes1, List.mem_cons, List.not_mem_nil, or_false] at hc
  rcases hc with rfl | rfl
  · exact w_c0
  · exact w_c1
set_option maxRecDepth 65536 in
theorem w_t1 : words1.all (fun c => isCode c || c.before args0 about1) = true := by decide +kernel
theorem w_tables : (allAtoms (Jvm.Cond.code x code maxLocals ret :: tables_1)).before args0 about1 = true := by
  rw [allAtoms_all]
  show words1.all (fun c => c.before args0 about1) = true
  refine all_split ?_ w_codes
  rw [w_t1]
set_option maxRecDepth 65536 in
theorem w_case : (Jvm.Cond.and given_1 narrow_1).before args0 about1 = true := by decide +kernel
theorem w_applies : (headSpec (Jvm.Cond.code x code maxLocals ret :: tables_1) room_1).applies x e0.platform about1 = true :=
  (Spec.applies_iff w_frames).mpr ⟨w_running, w_runnable, w_alone, w_named, w_hears, w_ripe, w_room, w_tables⟩
theorem atStart : AtStart classFile x code maxLocals ret World_1 tables_1 room_1 Calls_1 rest_1 Pre_1 launch0 p0 e0 about1 theMethod args0 below0 :=
  ⟨lists_1, trivial, launch0.admits_env _ _ _, launch0.least_env, fairChoices_fair.cas, fairChoices_fair.clock, w_frames, w_args, w_heap, w_applies, trivial, trivial, w_case⟩
end start1
theorem witness_1 : WitnessClaimed_1 := ⟨start1.p0, start1.e0, start1.about1, start1.theMethod, start1.args0, start1.below0, start1.atStart⟩
end Jvm.Pilot.@@N@@
