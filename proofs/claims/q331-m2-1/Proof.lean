import JvmDerived
import JvmDerived.Pilot.@@N@@Statement
import JvmDerived.Pilot.@@N@@Code
set_option linter.unusedVariables false
set_option linter.unusedSimpArgs false
namespace Jvm.RoadKit
open Sem ClassFile Op Lib Jvm.Stand Jvm.Free Jvm.LawKit
section New
variable {p : Program} {l : Launch} {e : Env} {R : Room} {s : State} {m : MethodId} {args : Array Value} {below : List Frame} {meth : Method} {c : Code} {T : State} {locs : List Loc} {cells slots : Nat}
theorem retI (X : Stand p l e R s m args below meth c T locs cells slots) (hx : p.tables.exec = Jvm.exec) {pc : Nat} {Ls : Array Slot} {z : Int32} {rest : List Value} (hret : meth.sig.returnType = some .int) (hd : decode c.code pc = .ok (.ireturn, 1)) {fs : List Frame}
    (hl : ∀ (f : JFrame) (acts : List Action), f.method = m → f.locked = none → f.entered = [] → (doReturn e (T.setTop f) acts (some (.int z))).1 = T.setFrames fs) : Steps p.tables e below (T.setTop (mkF m pc Ls (.int z :: rest))) (T.setFrames fs) := by
  have hm' : T.vm.method? m = some meth := X.method'
  have hn : narrow .int (.int z) = .int z := rfl
  show Steps p.tables e below (T.setTop { method := m, pc := pc, locals := Ls, stack := _ :: rest, locked := none }) _
  jvm_step X.here [X.here.top, hx, hd, hm', hret, hn]
  first | (intro acts; rw [hl _ acts rfl rfl rfl]) | rw [hl _ _ rfl rfl rfl]
  exact Steps.refl _
end New
end Jvm.RoadKit
namespace Jvm.Pilot.@@N@@
open Jvm Jvm.ClassFile Sem Op Lib Jvm.Free Jvm.Stand Jvm.LawKit Jvm.RoadKit Bundle Jvm.Pilot.@@N@@.Jvm.D
theorem own_fld {Z : State} {args : Array Value} {t : Term} {C n d : String} {k : Int32} {x : Addr} (ht : t.eval args Z none [] Z = some (.ref x)) (h : (Jvm.Cond.eq (Term.field t C n d) (Term.int k)).value args Z none Z [] = some true) : Fld Z Z.heap x C n d (.int k) := by
  refine Fld.start ?_
  have e := fld_at (C := C) (n := n) (dd := d) ht
  obtain ⟨u, w, e1, e2, -, -⟩ := cmp_v (Or.inl h)
  rw [e] at e1
  have e3 : (Term.int k).eval args Z none [] Z = some (.int k) := Term.int_eval k
  cases e3.symm.trans e2
  have e4 : (Term.field t C n d).eval args Z none [] Z = some u := e.trans e1
  have h' := h
  cases u <;> simp [Jvm.Cond.value, e4, e3] at h'
  subst h'
  exact e1
theorem own_eqI {Z : State} {args : Array Value} {t : Term} {k : Int32} (h : (Jvm.Cond.eq t (Term.int k)).value args Z none Z [] = some true) : t.eval args Z none [] Z = some (.int k) := by
  obtain ⟨u, w, e1, e2, -, -⟩ := cmp_v (Or.inl h)
  have e3 : (Term.int k).eval args Z none [] Z = some (.int k) := Term.int_eval k
  cases e3.symm.trans e2
  have h' := h
  cases u <;> simp [Jvm.Cond.value, e1, e3] at h'
  subst h'
  exact e1
theorem own_maskHi (x m : Int32) (k : Nat) (hk : k ≤ 31) (hm : m.toBitVec.toNat = 2 ^ k - 1) : (x &&& m).toInt < ((2 ^ k : Nat) : Int) := by
  rw [c_mask x m k hk hm]; exact Int.emod_lt_of_pos _ (Int.natCast_pos.mpr (Nat.two_pow_pos k))
theorem own_maskLo (x m : Int32) (k : Nat) (hk : k ≤ 31) (hm : m.toBitVec.toNat = 2 ^ k - 1) : 0 ≤ (x &&& m).toInt := by
  rw [c_mask x m k hk hm]; exact Int.emod_nonneg _ (Int.natCast_ne_zero.mpr (Nat.ne_of_gt (Nat.two_pow_pos k)))
theorem own_remLo (x y : Int32) (hx : 0 ≤ x.toInt) (hy : 0 < y.toInt) : 0 ≤ (x % y).toInt := ((c_iremV x y).1 hx hy).1
theorem own_remHi (x y : Int32) (hx : 0 ≤ x.toInt) (hy : 0 < y.toInt) : (x % y).toInt < y.toInt := ((c_iremV x y).1 hx hy).2.1
theorem own_nf {s : State} {args : Array Value} {C : String} {z y : MethodName} (hsel : (Jvm.Cond.selects C z z).before args s = true) (e : z.cls = y.cls) : NotFace s y := fun r0 h0 => by
  obtain ⟨c2, r2, m2, -, -, q3, -, kP, hkP, hkPi⟩ := Cond.selects_spec hsel
  have a := findClass_of_methodNamed q3
  rw [e] at a
  have b : m2.cls = r0.cls := Option.some.inj (a.symm.trans (findClass_of_methodNamed h0))
  exact ⟨kP, b ▸ hkP, hkPi⟩
theorem own_privateBack {p : Program} {l : Launch} {e : Env} {R : Room} {s : State} {m : MethodId} {args : Array Value} {below : List Frame} {meth : Method} {c : Code} {T : State} {locs : List Loc} {cells slots : Nat} (X : Stand p l e R s m args below meth c T locs cells slots) (hexec : p.tables.exec = Jvm.exec) {own : String} {index : Nat} {y : MethodName} {bytes : ByteArray} {maxL : Nat} {ret : Option FieldType}
    (hown : s.vm.findClass own = some m.cls) (hlink : (Jvm.Cond.methodLink own index y).before args s = true) (hinst : (Jvm.Cond.instanceMethod y).before args s = true) (hnf : NotFace s y)
    (hpriv : s.PrivateAt y) (hcode : (Jvm.Cond.code y bytes maxL ret).before args s = true) (hy : y.cls ≠ "java/lang/invoke/MethodHandle" ∧ y.cls ≠ "java/lang/invoke/VarHandle")
    {W : Nat} {Pre : Pt → Array Value → Prop} {Post : Pt → Array Value → Option Value → Pt → Prop} (hK : Back l R p e below s args y 3 W Pre Post)
    {g : JFrame} (hg : g.method = m) (hsize : g.locals.size = c.maxLocals) {s₀ : State} (hcome : Steps p.tables e below s₀ (T.setTop g)) {a : Addr} {cell : Cell} (hcell : T.heap[a]? = some cell) (hobj : ∀ q, cell.vm ≠ .statics q)
    {argsL rest : List Value} (hlen : ∀ sig, parseMethodDescriptor y.desc = some sig → argsL.length = sig.parameters.length)
    (hstack : g.stack = argsL.reverse ++ .ref a :: rest) (hW : 2 * g.monitorRoom + (rest.map fun v => v.category).sum ≤ W) (hdg : decode c.code g.pc = .ok (.invokevirtual index, 3))
    (hpre : ∀ vm₁, s.WarmedH vm₁ → Pre ⟨T.setVm vm₁, locs, cells, slots⟩ (.ref a :: argsL).toArray) :
    ∃ (v : Option Value) (vm₁ : Vm) (B : Pt), s.WarmedH vm₁ ∧ Stand p l e R s m args below meth c B.U B.locs B.cells B.slots ∧ Post ⟨T.setVm vm₁, locs, cells, slots⟩ (.ref a :: argsL).toArray v B ∧
      Steps p.tables e below s₀ (B.U.setTop { g with pc := g.pc + 3, stack := v.toList ++ rest }) := by
  obtain ⟨mk, methM, hnamed, hmethM, hstM, habM⟩ := Cond.instanceMethod_spec hinst
  obtain ⟨_, _, hmeth2, -, -, -, -, -, -, hsigM⟩ := Cond.code_spec hnamed hcode
  cases hmethM.symm.trans hmeth2
  obtain ⟨kP, hkP, hkPi⟩ := hnf mk hnamed
  have hselP : selectMethod e.platform s.vm cell.cls mk = .method mk := selectMethod_private hmethM (hpriv mk methM hnamed hmethM)
  obtain ⟨vm₁, X₁, hstep₁⟩ := X.invokevirtual hexec hown hlink hnamed hmethM hstM hkP hkPi hy (a := a) (cell := cell) hcell hobj hselP hmethM habM hkP hkPi (g := g) hg (argsL := argsL) (rest := rest) (hlen _ hsigM) hstack hdg
  obtain ⟨v, B, X2, hpost, hsteps⟩ := hK m meth c ⟨T.setVm vm₁, locs, cells, slots⟩ { g with stack := rest } (.invokevirtual index) mk (.ref a :: argsL).toArray X₁ hg hsize hdg hW (X₁.named hnamed) (hpre vm₁ X₁.warmed)
  exact ⟨v, vm₁, B, X₁.warmed, X2, hpost, (hcome.trans (hstep₁ _ fun acts => by rw [doInvoke_state]; exact Steps.refl _)).trans hsteps⟩
theorem own_staKeep {Z : State} {h h' : Heap} {C n d : String} {v : Value} {ws : List Addr} (F : Sta Z h C n d v) (K : Keep h h' ws) (hn : ∀ x ∈ ws, ∀ cell : Cell, h[x]? = some cell → cell.vm.isStatics = false) : Sta Z h' C n d v := by
  obtain ⟨cf, i, k, f, st, cell, h1, h2, h3, h4, h5, h6, h7⟩ := F
  exact ⟨cf, i, k, f, st, cell, h1, h2, h3, h4, K.2.1 _ _ h5 (fun q => by rw [hn st q cell h5] at h6; cases h6), h6, h7⟩
theorem ef_0 (m : MethodId) (x0 : Int32) (x1 : Int32) (x2 : Int32) : entryFrame m #[(.int x0), (.int x1), (.int x2)] maxLocals = mkF m 0 #[.val (.int x0), .val (.int x1), .val (.int x2), .unset, .unset, .unset, .unset, .unset, .unset, .unset, .unset, .unset, .unset, .unset] [] := by first | (simp [entryFrame, mkF, argsToLocals, Value.category, maxLocals]; done) | rfl
theorem pn_0 : plainName "com/example/svratka/svratka/authz/DecisionStrategyGrantsNeededPinLaw" = true := by first | (simp [plainName, overriddenIn]; done) | decide +kernel
theorem own_lt3 (e : Int32) (h0 : 0 ≤ e.toInt) (h1 : e.toInt < 3) : e = (0 : Int32) ∨ e = (1 : Int32) ∨ e = (2 : Int32) := by
  have h2 : e.toInt = 0 ∨ e.toInt = 1 ∨ e.toInt = 2 := by omega
  rcases h2 with h | h | h
  · exact (Or.inl (Int32.toInt_inj.mp (h.trans (by decide))))
  · exact (Or.inr (Or.inl (Int32.toInt_inj.mp (h.trans (by decide)))))
  · exact (Or.inr (Or.inr (Int32.toInt_inj.mp (h.trans (by decide)))))
theorem own_ar0 (x1 : Int32) : ¬ (((x1 &&& (1073741823 : Int32)) + (1 : Int32)) = (0 : Int32)) := by
  refine fun q => ?_
  have q' : ((x1 &&& (1073741823 : Int32)) + (1 : Int32)).toInt = (0 : Int32).toInt := congrArg Int32.toInt q
  have z0 := rng32 x1
  have z1 : (1073741823 : Int32).toInt = 1073741823 := by decide
  have z2 := rng32 (x1 &&& (1073741823 : Int32))
  have z3 : (x1 &&& (1073741823 : Int32)).toInt = x1.toInt % 1073741824 := c_mask x1 (1073741823 : Int32) 30 (by decide) (by decide)
  have z4 : (1 : Int32).toInt = 1 := by decide
  have z5 := rng32 ((x1 &&& (1073741823 : Int32)) + (1 : Int32))
  have z6 := c_iadd (x1 &&& (1073741823 : Int32)) (1 : Int32)
  have z7 : ((x1 &&& (1073741823 : Int32)) + (1 : Int32)).toInt = (x1 &&& (1073741823 : Int32)).toInt + (1 : Int32).toInt := by omega
  clear z6
  have z9 : (0 : Int32).toInt = 0 := by decide
  clear q
  try generalize ((x1 &&& (1073741823 : Int32)) + (1 : Int32)).toInt = t0 at *
  try generalize (x1 &&& (1073741823 : Int32)).toInt = t1 at *
  try generalize (1073741823 : Int32).toInt = t2 at *
  try generalize (1 : Int32).toInt = t3 at *
  try generalize (0 : Int32).toInt = t4 at *
  try generalize x1.toInt = t5 at *
  omega
theorem d_prog_10_method_5_0 : decode prog_10_method_5_code 0 = .ok (.aload_n 0, 1) := by decide +kernel
theorem d_prog_10_method_5_1 : decode prog_10_method_5_code 1 = .ok (.getstatic 7, 3) := by decide +kernel
theorem d_prog_10_method_5_4 : decode prog_10_method_5_code 4 = .ok (.if_acmp .ne 8, 3) := by decide +kernel
theorem d_prog_10_method_5_12 : decode prog_10_method_5_code 12 = .ok (.aload_n 0, 1) := by decide +kernel
theorem d_prog_10_method_5_13 : decode prog_10_method_5_code 13 = .ok (.getstatic 3, 3) := by decide +kernel
theorem d_prog_10_method_5_16 : decode prog_10_method_5_code 16 = .ok (.if_acmp .ne 8, 3) := by decide +kernel
theorem d_prog_10_method_5_19 : decode prog_10_method_5_code 19 = .ok (.iload_n 1, 1) := by decide +kernel
theorem d_prog_10_method_5_20 : decode prog_10_method_5_code 20 = .ok (.istore_n 2, 1) := by decide +kernel
theorem d_prog_10_method_5_21 : decode prog_10_method_5_code 21 = .ok (.goto 9, 3) := by decide +kernel
theorem d_prog_10_method_5_30 : decode prog_10_method_5_code 30 = .ok (.iload_n 2, 1) := by decide +kernel
theorem d_prog_10_method_5_31 : decode prog_10_method_5_code 31 = .ok (.ireturn, 1) := by decide +kernel
theorem ef_1 (m : MethodId) (x0 : Addr) (x1 : Int32) : entryFrame m #[(.ref x0), (.int x1)] 3 = mkF m 0 #[.val (.ref x0), .val (.int x1), .unset] [] := by first | (simp [entryFrame, mkF, argsToLocals, Value.category, maxLocals]; done) | rfl
theorem pn_1 : plainName "com/example/svratka/svratka/authz/DecisionStrategy" = true := by first | (simp [plainName, overriddenIn]; done) | decide +kernel
def Q1 (Z : State) (a1 : Addr) (p2 : Int32) (a3 : Addr) (h0 : Heap) (n0 : Nat) (v : Option Value) (h : Heap) (L : List Loc) : Prop := v = some (.int p2) ∧ Fr n0 L ∧ h = h0
set_option maxRecDepth 65536 in
set_option maxHeartbeats 40000000 in
theorem rm1 (l : Launch) (Z : State) (a0 : Array Value) (hw : ∀ d ∈ tables_1, d.before a0 Z = true) (ws : List Jvm.Cond) (a1 : Addr) (p2 : Int32) (a3 : Addr) (h0 : Heap) (n0 : Nat) (Z0 : n0 ≤ h0.size) (S_AFFIRMATIVE : Sta Z h0 "com/example/svratka/svratka/authz/DecisionStrategy" "AFFIRMATIVE" "Lcom/example/svratka/svratka/authz/DecisionStrategy;" (.ref a3)) (ne_a1_a3 : a1 ≠ a3) (S_UNANIMOUS : Sta Z h0 "com/example/svratka/svratka/authz/DecisionStrategy" "UNANIMOUS" "Lcom/example/svratka/svratka/authz/DecisionStrategy;" (.ref a1)) :
    MetFree l (⟨"com/example/svratka/svratka/authz/DecisionStrategy", "grantsNeeded", "(I)I"⟩ : MethodName) (head1 (Jvm.Cond.code (⟨"com/example/svratka/svratka/authz/DecisionStrategy", "grantsNeeded", "(I)I"⟩ : MethodName) prog_10_method_5_code 3 (some .int) :: ws) ({ frames := 0, cells := 0, slots := 0, locals := 0 } : Room)) (fun a U => a = #[(.ref a1), (.int p2)] ∧ Z.Warmed39 U.vm ∧ U.heap = h0) (fun _ _ _ _ _ => True) (fun _ U o U' => ∃ v L, o = .returned v ∧ Q1 Z a1 p2 a3 h0 n0 v U'.heap L ∧ FrameEnd U o U' L ({ frames := 0, cells := 0, slots := 0, locals := 0 } : Room).cells ({ frames := 0, cells := 0, slots := 0, locals := 0 } : Room).slots) := by
  refine MetFree.of_bodySF (plainFor_of_name pn_1) hisR ?_
  intro p e s m args below meth c s₁ Bd hml0 hP hK
  obtain ⟨rfl, hZ, hh⟩ := hP
  have hx := Bd.exec
  have hby := Bd.bytes
  have hml : c.maxLocals = 3 := hml0
  have hown : s.vm.findClass "com/example/svratka/svratka/authz/DecisionStrategy" = some m.cls := findClass_of_methodNamed Bd.named
  have hnm := (name_of_methodNamed Bd.named Bd.method).1
  have X0 : Stand p l e ({ frames := 0, cells := 0, slots := 0, locals := 0 } : Room) s m #[(.ref a1), (.int p2)] below meth c s₁ [] 0 0 := Stand.of_body Bd
  have e0 : s₁.heap = h0 := by rw [← hh, Bd.state]; rfl
  have N0 := Fr.nil n0
  have pre0 : ∀ t, Steps p.tables e below (s₁.setTop (mkF m 0 #[.val (.ref a1), .val (.int p2), .unset] [])) t → Steps p.tables e below (s₁.setTop (entryFrame m #[(.ref a1), (.int p2)] 3)) t := fun t k => castTop (ef_1 m a1 (p2)) k
  obtain ⟨T4, X4, e4, st4⟩ := getS2 X0 hx hZ hown (host := "") (Or.inl (hw _ (List.mem_of_getElem? (i := 10) rfl))) Via.refl e0 S_AFFIRMATIVE (g := (mkF m 1 #[.val (.ref a1), .val (.int p2), .unset] [(.ref a1)])) rfl (hb hby d_prog_10_method_5_1)
  obtain ⟨T5, X5, e5, st5⟩ := getS2 X4 hx hZ hown (host := "") (Or.inl (hw _ (List.mem_of_getElem? (i := 12) rfl))) Via.refl e4 S_UNANIMOUS (g := (mkF m 13 #[.val (.ref a1), .val (.int p2), .unset] [(.ref a1)])) rfl (hb hby d_prog_10_method_5_13)
  have pre6 : ∀ t, Steps p.tables e below (T5.setTop (mkF m 31 #[.val (.ref a1), .val (.int p2), .val (.int p2)] [(.int p2)])) t → Steps p.tables e below (s₁.setTop (entryFrame m #[(.ref a1), (.int p2)] 3)) t := fun t kk => pre0 t (by
    show Steps p.tables e below (s₁.setTop (mkF m 0 #[.val (.ref a1), .val (.int p2), .unset] [])) _
    refine XS.aloadN X0.here hx rfl (hb hby d_prog_10_method_5_0) rfl rfl ?_
    show Steps p.tables e below (s₁.setTop (mkF m 1 #[.val (.ref a1), .val (.int p2), .unset] [(.ref a1)])) _
    refine st4 _ ?_
    show Steps p.tables e below (T4.setTop (mkF m 4 #[.val (.ref a1), .val (.int p2), .unset] [(.ref a3), (.ref a1)])) _
    refine Jvm.RoadKit.acmp (g := (mkF m 4 #[.val (.ref a1), .val (.int p2), .unset] [(.ref a3), (.ref a1)])) X4 hx rfl rfl rfl (pc0 := 4) (pc' := 12) (same := false) rfl (hb hby d_prog_10_method_5_4) rfl (decide_eq_false fun q => ne_a1_a3 (Value.ref.inj q)) (by decide) (by decide) ?_
    show Steps p.tables e below (T4.setTop (mkF m 12 #[.val (.ref a1), .val (.int p2), .unset] [])) _
    refine XS.aloadN X4.here hx rfl (hb hby d_prog_10_method_5_12) rfl rfl ?_
    show Steps p.tables e below (T4.setTop (mkF m 13 #[.val (.ref a1), .val (.int p2), .unset] [(.ref a1)])) _
    refine st5 _ ?_
    show Steps p.tables e below (T5.setTop (mkF m 16 #[.val (.ref a1), .val (.int p2), .unset] [(.ref a1), (.ref a1)])) _
    refine Jvm.RoadKit.acmp (g := (mkF m 16 #[.val (.ref a1), .val (.int p2), .unset] [(.ref a1), (.ref a1)])) X5 hx rfl rfl rfl (pc0 := 16) (pc' := 19) (same := true) rfl (hb hby d_prog_10_method_5_16) rfl (decide_eq_true rfl) (by decide) (by decide) ?_
    show Steps p.tables e below (T5.setTop (mkF m 19 #[.val (.ref a1), .val (.int p2), .unset] [])) _
    refine XS.iloadN X5.here hx rfl (hb hby d_prog_10_method_5_19) rfl ?_
    show Steps p.tables e below (T5.setTop (mkF m 20 #[.val (.ref a1), .val (.int p2), .unset] [(.int p2)])) _
    refine XS.istoreN X5.here hx rfl (hb hby d_prog_10_method_5_20) rfl (l' := #[.val (.ref a1), .val (.int p2), .val (.int p2)]) rfl ?_
    show Steps p.tables e below (T5.setTop (mkF m 21 #[.val (.ref a1), .val (.int p2), .val (.int p2)] [])) _
    refine XS.goto X5.here hx rfl (pc0 := 21) (pc' := 30) rfl (hb hby d_prog_10_method_5_21) (by decide) (by decide) ?_
    show Steps p.tables e below (T5.setTop (mkF m 30 #[.val (.ref a1), .val (.int p2), .val (.int p2)] [])) _
    refine XS.iloadN X5.here hx rfl (hb hby d_prog_10_method_5_30) rfl ?_
    exact kk)
  obtain ⟨fs, hr, hrun, hended, hW, hsame⟩ := X5.leave (v := some (.int p2)) (fun h => by rw [Bd.returns] at h; cases h)
  refine ⟨_, _, pre6 _ ?_, hrun, hended, _, _, rfl, ?_, ⟨_, rfl⟩, hW, hsame.mono (by decide) (by decide)⟩
  · exact retI X5 hx Bd.returns (hb hby d_prog_10_method_5_31) hr
  · show Q1 Z a1 p2 a3 h0 n0 _ T5.heap _
    rw [e5]
    exact ⟨rfl, N0, rfl⟩
theorem pd_0 : parseMethodDescriptor "(I)I" = some ⟨[.int], some .int⟩ := by decide +kernel
theorem own_ar1 (x1 : Int32) : (lcmpW ((x1 &&& (1073741823 : Int32)).toInt64) ((x1 &&& (1073741823 : Int32)).toInt64)) = (0 : Int32) := by
  refine Int32.toInt_inj.mp ?_
  have z0 := rng32 x1
  have z1 : (1073741823 : Int32).toInt = 1073741823 := by decide
  have z2 := rng32 (x1 &&& (1073741823 : Int32))
  have z3 : (x1 &&& (1073741823 : Int32)).toInt = x1.toInt % 1073741824 := c_mask x1 (1073741823 : Int32) 30 (by decide) (by decide)
  have z4 := rng64 ((x1 &&& (1073741823 : Int32)).toInt64)
  have z5 := c_i2l (x1 &&& (1073741823 : Int32))
  have z6 := rng32 (lcmpW ((x1 &&& (1073741823 : Int32)).toInt64) ((x1 &&& (1073741823 : Int32)).toInt64))
  have z7 := c_lcmp ((x1 &&& (1073741823 : Int32)).toInt64) ((x1 &&& (1073741823 : Int32)).toInt64)
  have z8 : (0 : Int32).toInt = 0 := by decide
  skip
  try generalize (lcmpW ((x1 &&& (1073741823 : Int32)).toInt64) ((x1 &&& (1073741823 : Int32)).toInt64)).toInt = t0 at *
  try generalize ((x1 &&& (1073741823 : Int32)).toInt64).toInt = t1 at *
  try generalize (x1 &&& (1073741823 : Int32)).toInt = t2 at *
  try generalize (1073741823 : Int32).toInt = t3 at *
  try generalize (0 : Int32).toInt = t4 at *
  try generalize x1.toInt = t5 at *
  omega
theorem own_ar2 (x2 : Int32) (x1 : Int32) (h0 : ((x2 &&& (2147483647 : Int32)) % ((x1 &&& (1073741823 : Int32)) + (1 : Int32))) = (x1 &&& (1073741823 : Int32))) : ¬ ((lcmpW (((x2 &&& (2147483647 : Int32)) % ((x1 &&& (1073741823 : Int32)) + (1 : Int32))).toInt64) ((x1 &&& (1073741823 : Int32)).toInt64)) < (0 : Int32)) := by
  refine fun q => ?_
  have q' : (lcmpW (((x2 &&& (2147483647 : Int32)) % ((x1 &&& (1073741823 : Int32)) + (1 : Int32))).toInt64) ((x1 &&& (1073741823 : Int32)).toInt64)).toInt < (0 : Int32).toInt := Int32.lt_iff_toInt_lt.mp q
  have k0 : ((x2 &&& (2147483647 : Int32)) % ((x1 &&& (1073741823 : Int32)) + (1 : Int32))).toInt = (x1 &&& (1073741823 : Int32)).toInt := congrArg Int32.toInt h0
  have z0 := rng32 x2
  have z1 : (2147483647 : Int32).toInt = 2147483647 := by decide
  have z2 := rng32 (x2 &&& (2147483647 : Int32))
  have z3 : (x2 &&& (2147483647 : Int32)).toInt = x2.toInt % 2147483648 := c_mask x2 (2147483647 : Int32) 31 (by decide) (by decide)
  have z4 := rng32 x1
  have z5 : (1073741823 : Int32).toInt = 1073741823 := by decide
  have z6 := rng32 (x1 &&& (1073741823 : Int32))
  have z7 : (x1 &&& (1073741823 : Int32)).toInt = x1.toInt % 1073741824 := c_mask x1 (1073741823 : Int32) 30 (by decide) (by decide)
  have z8 : (1 : Int32).toInt = 1 := by decide
  have z9 := rng32 ((x1 &&& (1073741823 : Int32)) + (1 : Int32))
  have z10 := c_iadd (x1 &&& (1073741823 : Int32)) (1 : Int32)
  have z11 : ((x1 &&& (1073741823 : Int32)) + (1 : Int32)).toInt = (x1 &&& (1073741823 : Int32)).toInt + (1 : Int32).toInt := by omega
  clear z10
  have z13 := rng32 ((x2 &&& (2147483647 : Int32)) % ((x1 &&& (1073741823 : Int32)) + (1 : Int32)))
  have z14 := c_iremV (x2 &&& (2147483647 : Int32)) ((x1 &&& (1073741823 : Int32)) + (1 : Int32))
  have z15 := rng64 (((x2 &&& (2147483647 : Int32)) % ((x1 &&& (1073741823 : Int32)) + (1 : Int32))).toInt64)
  have z16 := c_i2l ((x2 &&& (2147483647 : Int32)) % ((x1 &&& (1073741823 : Int32)) + (1 : Int32)))
  have z17 := rng64 ((x1 &&& (1073741823 : Int32)).toInt64)
  have z18 := c_i2l (x1 &&& (1073741823 : Int32))
  have z19 := rng32 (lcmpW (((x2 &&& (2147483647 : Int32)) % ((x1 &&& (1073741823 : Int32)) + (1 : Int32))).toInt64) ((x1 &&& (1073741823 : Int32)).toInt64))
  have z20 := c_lcmp (((x2 &&& (2147483647 : Int32)) % ((x1 &&& (1073741823 : Int32)) + (1 : Int32))).toInt64) ((x1 &&& (1073741823 : Int32)).toInt64)
  have z21 : (0 : Int32).toInt = 0 := by decide
  clear h0 q
  try generalize (lcmpW (((x2 &&& (2147483647 : Int32)) % ((x1 &&& (1073741823 : Int32)) + (1 : Int32))).toInt64) ((x1 &&& (1073741823 : Int32)).toInt64)).toInt = t0 at *
  try generalize (((x2 &&& (2147483647 : Int32)) % ((x1 &&& (1073741823 : Int32)) + (1 : Int32))).toInt64).toInt = t1 at *
  try generalize ((x2 &&& (2147483647 : Int32)) % ((x1 &&& (1073741823 : Int32)) + (1 : Int32))).toInt = t2 at *
  try generalize ((x1 &&& (1073741823 : Int32)) + (1 : Int32)).toInt = t3 at *
  try generalize ((x1 &&& (1073741823 : Int32)).toInt64).toInt = t4 at *
  try generalize (x2 &&& (2147483647 : Int32)).toInt = t5 at *
  try generalize (x1 &&& (1073741823 : Int32)).toInt = t6 at *
  try generalize (2147483647 : Int32).toInt = t7 at *
  try generalize (1073741823 : Int32).toInt = t8 at *
  try generalize (1 : Int32).toInt = t9 at *
  try generalize (0 : Int32).toInt = t10 at *
  try generalize x2.toInt = t11 at *
  try generalize x1.toInt = t12 at *
  omega
theorem own_ar3 (x2 : Int32) (x1 : Int32) (h0 : ¬ (((x2 &&& (2147483647 : Int32)) % ((x1 &&& (1073741823 : Int32)) + (1 : Int32))) = (x1 &&& (1073741823 : Int32)))) : (lcmpW (((x2 &&& (2147483647 : Int32)) % ((x1 &&& (1073741823 : Int32)) + (1 : Int32))).toInt64) ((x1 &&& (1073741823 : Int32)).toInt64)) < (0 : Int32) := by
  refine Int32.lt_iff_toInt_lt.mpr ?_
  have k0 : ¬ (((x2 &&& (2147483647 : Int32)) % ((x1 &&& (1073741823 : Int32)) + (1 : Int32))).toInt = (x1 &&& (1073741823 : Int32)).toInt) := fun q => h0 (Int32.toInt_inj.mp q)
  have z0 := rng32 x2
  have z1 : (2147483647 : Int32).toInt = 2147483647 := by decide
  have z2 := rng32 (x2 &&& (2147483647 : Int32))
  have z3 : (x2 &&& (2147483647 : Int32)).toInt = x2.toInt % 2147483648 := c_mask x2 (2147483647 : Int32) 31 (by decide) (by decide)
  have z4 := rng32 x1
  have z5 : (1073741823 : Int32).toInt = 1073741823 := by decide
  have z6 := rng32 (x1 &&& (1073741823 : Int32))
  have z7 : (x1 &&& (1073741823 : Int32)).toInt = x1.toInt % 1073741824 := c_mask x1 (1073741823 : Int32) 30 (by decide) (by decide)
  have z8 : (1 : Int32).toInt = 1 := by decide
  have z9 := rng32 ((x1 &&& (1073741823 : Int32)) + (1 : Int32))
  have z10 := c_iadd (x1 &&& (1073741823 : Int32)) (1 : Int32)
  have z11 : ((x1 &&& (1073741823 : Int32)) + (1 : Int32)).toInt = (x1 &&& (1073741823 : Int32)).toInt + (1 : Int32).toInt := by omega
  clear z10
  have z13 := rng32 ((x2 &&& (2147483647 : Int32)) % ((x1 &&& (1073741823 : Int32)) + (1 : Int32)))
  have z14 := c_iremV (x2 &&& (2147483647 : Int32)) ((x1 &&& (1073741823 : Int32)) + (1 : Int32))
  have z15 := rng64 (((x2 &&& (2147483647 : Int32)) % ((x1 &&& (1073741823 : Int32)) + (1 : Int32))).toInt64)
  have z16 := c_i2l ((x2 &&& (2147483647 : Int32)) % ((x1 &&& (1073741823 : Int32)) + (1 : Int32)))
  have z17 := rng64 ((x1 &&& (1073741823 : Int32)).toInt64)
  have z18 := c_i2l (x1 &&& (1073741823 : Int32))
  have z19 := rng32 (lcmpW (((x2 &&& (2147483647 : Int32)) % ((x1 &&& (1073741823 : Int32)) + (1 : Int32))).toInt64) ((x1 &&& (1073741823 : Int32)).toInt64))
  have z20 := c_lcmp (((x2 &&& (2147483647 : Int32)) % ((x1 &&& (1073741823 : Int32)) + (1 : Int32))).toInt64) ((x1 &&& (1073741823 : Int32)).toInt64)
  have z21 : (0 : Int32).toInt = 0 := by decide
  clear h0
  try generalize (lcmpW (((x2 &&& (2147483647 : Int32)) % ((x1 &&& (1073741823 : Int32)) + (1 : Int32))).toInt64) ((x1 &&& (1073741823 : Int32)).toInt64)).toInt = t0 at *
  try generalize (((x2 &&& (2147483647 : Int32)) % ((x1 &&& (1073741823 : Int32)) + (1 : Int32))).toInt64).toInt = t1 at *
  try generalize ((x2 &&& (2147483647 : Int32)) % ((x1 &&& (1073741823 : Int32)) + (1 : Int32))).toInt = t2 at *
  try generalize ((x1 &&& (1073741823 : Int32)) + (1 : Int32)).toInt = t3 at *
  try generalize ((x1 &&& (1073741823 : Int32)).toInt64).toInt = t4 at *
  try generalize (x2 &&& (2147483647 : Int32)).toInt = t5 at *
  try generalize (x1 &&& (1073741823 : Int32)).toInt = t6 at *
  try generalize (2147483647 : Int32).toInt = t7 at *
  try generalize (1073741823 : Int32).toInt = t8 at *
  try generalize (1 : Int32).toInt = t9 at *
  try generalize (0 : Int32).toInt = t10 at *
  try generalize x2.toInt = t11 at *
  try generalize x1.toInt = t12 at *
  omega
theorem d_prog_10_method_5_7 : decode prog_10_method_5_code 7 = .ok (.iconst 1, 1) := by decide +kernel
theorem d_prog_10_method_5_8 : decode prog_10_method_5_code 8 = .ok (.istore_n 2, 1) := by decide +kernel
theorem d_prog_10_method_5_9 : decode prog_10_method_5_code 9 = .ok (.goto 21, 3) := by decide +kernel
def Q2 (Z : State) (a1 : Addr) (p2 : Int32) (h0 : Heap) (n0 : Nat) (v : Option Value) (h : Heap) (L : List Loc) : Prop := v = some (.int (1 : Int32)) ∧ Fr n0 L ∧ h = h0
set_option maxRecDepth 65536 in
set_option maxHeartbeats 40000000 in
theorem rm2 (l : Launch) (Z : State) (a0 : Array Value) (hw : ∀ d ∈ tables_1, d.before a0 Z = true) (ws : List Jvm.Cond) (a1 : Addr) (p2 : Int32) (h0 : Heap) (n0 : Nat) (Z0 : n0 ≤ h0.size) (S_AFFIRMATIVE : Sta Z h0 "com/example/svratka/svratka/authz/DecisionStrategy" "AFFIRMATIVE" "Lcom/example/svratka/svratka/authz/DecisionStrategy;" (.ref a1)) :
    MetFree l (⟨"com/example/svratka/svratka/authz/DecisionStrategy", "grantsNeeded", "(I)I"⟩ : MethodName) (head1 (Jvm.Cond.code (⟨"com/example/svratka/svratka/authz/DecisionStrategy", "grantsNeeded", "(I)I"⟩ : MethodName) prog_10_method_5_code 3 (some .int) :: ws) ({ frames := 0, cells := 0, slots := 0, locals := 0 } : Room)) (fun a U => a = #[(.ref a1), (.int p2)] ∧ Z.Warmed39 U.vm ∧ U.heap = h0) (fun _ _ _ _ _ => True) (fun _ U o U' => ∃ v L, o = .returned v ∧ Q2 Z a1 p2 h0 n0 v U'.heap L ∧ FrameEnd U o U' L ({ frames := 0, cells := 0, slots := 0, locals := 0 } : Room).cells ({ frames := 0, cells := 0, slots := 0, locals := 0 } : Room).slots) := by
  refine MetFree.of_bodySF (plainFor_of_name pn_1) hisR ?_
  intro p e s m args below meth c s₁ Bd hml0 hP hK
  obtain ⟨rfl, hZ, hh⟩ := hP
  have hx := Bd.exec
  have hby := Bd.bytes
  have hml : c.maxLocals = 3 := hml0
  have hown : s.vm.findClass "com/example/svratka/svratka/authz/DecisionStrategy" = some m.cls := findClass_of_methodNamed Bd.named
  have hnm := (name_of_methodNamed Bd.named Bd.method).1
  have X0 : Stand p l e ({ frames := 0, cells := 0, slots := 0, locals := 0 } : Room) s m #[(.ref a1), (.int p2)] below meth c s₁ [] 0 0 := Stand.of_body Bd
  have e0 : s₁.heap = h0 := by rw [← hh, Bd.state]; rfl
  have N0 := Fr.nil n0
  have pre0 : ∀ t, Steps p.tables e below (s₁.setTop (mkF m 0 #[.val (.ref a1), .val (.int p2), .unset] [])) t → Steps p.tables e below (s₁.setTop (entryFrame m #[(.ref a1), (.int p2)] 3)) t := fun t k => castTop (ef_1 m a1 (p2)) k
  obtain ⟨T3, X3, e3, st3⟩ := getS2 X0 hx hZ hown (host := "") (Or.inl (hw _ (List.mem_of_getElem? (i := 10) rfl))) Via.refl e0 S_AFFIRMATIVE (g := (mkF m 1 #[.val (.ref a1), .val (.int p2), .unset] [(.ref a1)])) rfl (hb hby d_prog_10_method_5_1)
  have pre4 : ∀ t, Steps p.tables e below (T3.setTop (mkF m 31 #[.val (.ref a1), .val (.int p2), .val (.int (1 : Int32))] [(.int (1 : Int32))])) t → Steps p.tables e below (s₁.setTop (entryFrame m #[(.ref a1), (.int p2)] 3)) t := fun t kk => pre0 t (by
    show Steps p.tables e below (s₁.setTop (mkF m 0 #[.val (.ref a1), .val (.int p2), .unset] [])) _
    refine XS.aloadN X0.here hx rfl (hb hby d_prog_10_method_5_0) rfl rfl ?_
    show Steps p.tables e below (s₁.setTop (mkF m 1 #[.val (.ref a1), .val (.int p2), .unset] [(.ref a1)])) _
    refine st3 _ ?_
    show Steps p.tables e below (T3.setTop (mkF m 4 #[.val (.ref a1), .val (.int p2), .unset] [(.ref a1), (.ref a1)])) _
    refine Jvm.RoadKit.acmp (g := (mkF m 4 #[.val (.ref a1), .val (.int p2), .unset] [(.ref a1), (.ref a1)])) X3 hx rfl rfl rfl (pc0 := 4) (pc' := 7) (same := true) rfl (hb hby d_prog_10_method_5_4) rfl (decide_eq_true rfl) (by decide) (by decide) ?_
    show Steps p.tables e below (T3.setTop (mkF m 7 #[.val (.ref a1), .val (.int p2), .unset] [])) _
    refine XS.iconst X3.here hx rfl (hb hby d_prog_10_method_5_7) ?_
    show Steps p.tables e below (T3.setTop (mkF m 8 #[.val (.ref a1), .val (.int p2), .unset] [(.int (1 : Int32))])) _
    refine XS.istoreN X3.here hx rfl (hb hby d_prog_10_method_5_8) rfl (l' := #[.val (.ref a1), .val (.int p2), .val (.int (1 : Int32))]) rfl ?_
    show Steps p.tables e below (T3.setTop (mkF m 9 #[.val (.ref a1), .val (.int p2), .val (.int (1 : Int32))] [])) _
    refine XS.goto X3.here hx rfl (pc0 := 9) (pc' := 30) rfl (hb hby d_prog_10_method_5_9) (by decide) (by decide) ?_
    show Steps p.tables e below (T3.setTop (mkF m 30 #[.val (.ref a1), .val (.int p2), .val (.int (1 : Int32))] [])) _
    refine XS.iloadN X3.here hx rfl (hb hby d_prog_10_method_5_30) rfl ?_
    exact kk)
  obtain ⟨fs, hr, hrun, hended, hW, hsame⟩ := X3.leave (v := some (.int (1 : Int32))) (fun h => by rw [Bd.returns] at h; cases h)
  refine ⟨_, _, pre4 _ ?_, hrun, hended, _, _, rfl, ?_, ⟨_, rfl⟩, hW, hsame.mono (by decide) (by decide)⟩
  · exact retI X3 hx Bd.returns (hb hby d_prog_10_method_5_31) hr
  · show Q2 Z a1 p2 h0 n0 _ T3.heap _
    rw [e3]
    exact ⟨rfl, N0, rfl⟩
theorem own_ar4 (x2 : Int32) (x1 : Int32) (h0 : ((x2 &&& (2147483647 : Int32)) % ((x1 &&& (1073741823 : Int32)) + (1 : Int32))) < (1 : Int32)) : (lcmpW (((x2 &&& (2147483647 : Int32)) % ((x1 &&& (1073741823 : Int32)) + (1 : Int32))).toInt64) (1 : Int64)) < (0 : Int32) := by
  refine Int32.lt_iff_toInt_lt.mpr ?_
  have k0 : ((x2 &&& (2147483647 : Int32)) % ((x1 &&& (1073741823 : Int32)) + (1 : Int32))).toInt < (1 : Int32).toInt := Int32.lt_iff_toInt_lt.mp h0
  have z0 := rng32 x2
  have z1 : (2147483647 : Int32).toInt = 2147483647 := by decide
  have z2 := rng32 (x2 &&& (2147483647 : Int32))
  have z3 : (x2 &&& (2147483647 : Int32)).toInt = x2.toInt % 2147483648 := c_mask x2 (2147483647 : Int32) 31 (by decide) (by decide)
  have z4 := rng32 x1
  have z5 : (1073741823 : Int32).toInt = 1073741823 := by decide
  have z6 := rng32 (x1 &&& (1073741823 : Int32))
  have z7 : (x1 &&& (1073741823 : Int32)).toInt = x1.toInt % 1073741824 := c_mask x1 (1073741823 : Int32) 30 (by decide) (by decide)
  have z8 : (1 : Int32).toInt = 1 := by decide
  have z9 := rng32 ((x1 &&& (1073741823 : Int32)) + (1 : Int32))
  have z10 := c_iadd (x1 &&& (1073741823 : Int32)) (1 : Int32)
  have z11 : ((x1 &&& (1073741823 : Int32)) + (1 : Int32)).toInt = (x1 &&& (1073741823 : Int32)).toInt + (1 : Int32).toInt := by omega
  clear z10
  have z13 := rng32 ((x2 &&& (2147483647 : Int32)) % ((x1 &&& (1073741823 : Int32)) + (1 : Int32)))
  have z14 := c_iremV (x2 &&& (2147483647 : Int32)) ((x1 &&& (1073741823 : Int32)) + (1 : Int32))
  have z15 := rng64 (((x2 &&& (2147483647 : Int32)) % ((x1 &&& (1073741823 : Int32)) + (1 : Int32))).toInt64)
  have z16 := c_i2l ((x2 &&& (2147483647 : Int32)) % ((x1 &&& (1073741823 : Int32)) + (1 : Int32)))
  have z17 : (1 : Int64).toInt = 1 := by decide
  have z18 := rng32 (lcmpW (((x2 &&& (2147483647 : Int32)) % ((x1 &&& (1073741823 : Int32)) + (1 : Int32))).toInt64) (1 : Int64))
  have z19 := c_lcmp (((x2 &&& (2147483647 : Int32)) % ((x1 &&& (1073741823 : Int32)) + (1 : Int32))).toInt64) (1 : Int64)
  have z20 : (0 : Int32).toInt = 0 := by decide
  clear h0
  try generalize (lcmpW (((x2 &&& (2147483647 : Int32)) % ((x1 &&& (1073741823 : Int32)) + (1 : Int32))).toInt64) (1 : Int64)).toInt = t0 at *
  try generalize (((x2 &&& (2147483647 : Int32)) % ((x1 &&& (1073741823 : Int32)) + (1 : Int32))).toInt64).toInt = t1 at *
  try generalize ((x2 &&& (2147483647 : Int32)) % ((x1 &&& (1073741823 : Int32)) + (1 : Int32))).toInt = t2 at *
  try generalize ((x1 &&& (1073741823 : Int32)) + (1 : Int32)).toInt = t3 at *
  try generalize (x2 &&& (2147483647 : Int32)).toInt = t4 at *
  try generalize (x1 &&& (1073741823 : Int32)).toInt = t5 at *
  try generalize (2147483647 : Int32).toInt = t6 at *
  try generalize (1073741823 : Int32).toInt = t7 at *
  try generalize (1 : Int32).toInt = t8 at *
  try generalize (1 : Int64).toInt = t9 at *
  try generalize (0 : Int32).toInt = t10 at *
  try generalize x2.toInt = t11 at *
  try generalize x1.toInt = t12 at *
  omega
theorem own_ar5 (x2 : Int32) (x1 : Int32) (h0 : ¬ (((x2 &&& (2147483647 : Int32)) % ((x1 &&& (1073741823 : Int32)) + (1 : Int32))) < (1 : Int32))) : ¬ ((lcmpW (((x2 &&& (2147483647 : Int32)) % ((x1 &&& (1073741823 : Int32)) + (1 : Int32))).toInt64) (1 : Int64)) < (0 : Int32)) := by
  refine fun q => ?_
  have q' : (lcmpW (((x2 &&& (2147483647 : Int32)) % ((x1 &&& (1073741823 : Int32)) + (1 : Int32))).toInt64) (1 : Int64)).toInt < (0 : Int32).toInt := Int32.lt_iff_toInt_lt.mp q
  have k0 : ¬ (((x2 &&& (2147483647 : Int32)) % ((x1 &&& (1073741823 : Int32)) + (1 : Int32))).toInt < (1 : Int32).toInt) := fun q => h0 (Int32.lt_iff_toInt_lt.mpr q)
  have z0 := rng32 x2
  have z1 : (2147483647 : Int32).toInt = 2147483647 := by decide
  have z2 := rng32 (x2 &&& (2147483647 : Int32))
  have z3 : (x2 &&& (2147483647 : Int32)).toInt = x2.toInt % 2147483648 := c_mask x2 (2147483647 : Int32) 31 (by decide) (by decide)
  have z4 := rng32 x1
  have z5 : (1073741823 : Int32).toInt = 1073741823 := by decide
  have z6 := rng32 (x1 &&& (1073741823 : Int32))
  have z7 : (x1 &&& (1073741823 : Int32)).toInt = x1.toInt % 1073741824 := c_mask x1 (1073741823 : Int32) 30 (by decide) (by decide)
  have z8 : (1 : Int32).toInt = 1 := by decide
  have z9 := rng32 ((x1 &&& (1073741823 : Int32)) + (1 : Int32))
  have z10 := c_iadd (x1 &&& (1073741823 : Int32)) (1 : Int32)
  have z11 : ((x1 &&& (1073741823 : Int32)) + (1 : Int32)).toInt = (x1 &&& (1073741823 : Int32)).toInt + (1 : Int32).toInt := by omega
  clear z10
  have z13 := rng32 ((x2 &&& (2147483647 : Int32)) % ((x1 &&& (1073741823 : Int32)) + (1 : Int32)))
  have z14 := c_iremV (x2 &&& (2147483647 : Int32)) ((x1 &&& (1073741823 : Int32)) + (1 : Int32))
  have z15 := rng64 (((x2 &&& (2147483647 : Int32)) % ((x1 &&& (1073741823 : Int32)) + (1 : Int32))).toInt64)
  have z16 := c_i2l ((x2 &&& (2147483647 : Int32)) % ((x1 &&& (1073741823 : Int32)) + (1 : Int32)))
  have z17 : (1 : Int64).toInt = 1 := by decide
  have z18 := rng32 (lcmpW (((x2 &&& (2147483647 : Int32)) % ((x1 &&& (1073741823 : Int32)) + (1 : Int32))).toInt64) (1 : Int64))
  have z19 := c_lcmp (((x2 &&& (2147483647 : Int32)) % ((x1 &&& (1073741823 : Int32)) + (1 : Int32))).toInt64) (1 : Int64)
  have z20 : (0 : Int32).toInt = 0 := by decide
  clear h0 q
  try generalize (lcmpW (((x2 &&& (2147483647 : Int32)) % ((x1 &&& (1073741823 : Int32)) + (1 : Int32))).toInt64) (1 : Int64)).toInt = t0 at *
  try generalize (((x2 &&& (2147483647 : Int32)) % ((x1 &&& (1073741823 : Int32)) + (1 : Int32))).toInt64).toInt = t1 at *
  try generalize ((x2 &&& (2147483647 : Int32)) % ((x1 &&& (1073741823 : Int32)) + (1 : Int32))).toInt = t2 at *
  try generalize ((x1 &&& (1073741823 : Int32)) + (1 : Int32)).toInt = t3 at *
  try generalize (x2 &&& (2147483647 : Int32)).toInt = t4 at *
  try generalize (x1 &&& (1073741823 : Int32)).toInt = t5 at *
  try generalize (2147483647 : Int32).toInt = t6 at *
  try generalize (1073741823 : Int32).toInt = t7 at *
  try generalize (1 : Int32).toInt = t8 at *
  try generalize (1 : Int64).toInt = t9 at *
  try generalize (0 : Int32).toInt = t10 at *
  try generalize x2.toInt = t11 at *
  try generalize x1.toInt = t12 at *
  omega
theorem d_prog_10_method_5_24 : decode prog_10_method_5_code 24 = .ok (.iload_n 1, 1) := by decide +kernel
theorem d_prog_10_method_5_25 : decode prog_10_method_5_code 25 = .ok (.iconst 2, 1) := by decide +kernel
theorem d_prog_10_method_5_26 : decode prog_10_method_5_code 26 = .ok (.idiv, 1) := by decide +kernel
theorem d_prog_10_method_5_27 : decode prog_10_method_5_code 27 = .ok (.iconst 1, 1) := by decide +kernel
theorem d_prog_10_method_5_28 : decode prog_10_method_5_code 28 = .ok (.iadd, 1) := by decide +kernel
theorem d_prog_10_method_5_29 : decode prog_10_method_5_code 29 = .ok (.istore_n 2, 1) := by decide +kernel
def Q3 (Z : State) (a1 : Addr) (p2 : Int32) (a3 : Addr) (a5 : Addr) (h0 : Heap) (n0 : Nat) (v : Option Value) (h : Heap) (L : List Loc) : Prop := v = some (.int ((p2 / (2 : Int32)) + (1 : Int32))) ∧ Fr n0 L ∧ h = h0
set_option maxRecDepth 65536 in
set_option maxHeartbeats 40000000 in
theorem rm3 (l : Launch) (Z : State) (a0 : Array Value) (hw : ∀ d ∈ tables_1, d.before a0 Z = true) (ws : List Jvm.Cond) (a1 : Addr) (p2 : Int32) (a3 : Addr) (a5 : Addr) (h0 : Heap) (n0 : Nat) (Z0 : n0 ≤ h0.size) (S_AFFIRMATIVE : Sta Z h0 "com/example/svratka/svratka/authz/DecisionStrategy" "AFFIRMATIVE" "Lcom/example/svratka/svratka/authz/DecisionStrategy;" (.ref a3)) (ne_a1_a3 : a1 ≠ a3) (S_UNANIMOUS : Sta Z h0 "com/example/svratka/svratka/authz/DecisionStrategy" "UNANIMOUS" "Lcom/example/svratka/svratka/authz/DecisionStrategy;" (.ref a5)) (ne_a1_a5 : a1 ≠ a5) :
    MetFree l (⟨"com/example/svratka/svratka/authz/DecisionStrategy", "grantsNeeded", "(I)I"⟩ : MethodName) (head1 (Jvm.Cond.code (⟨"com/example/svratka/svratka/authz/DecisionStrategy", "grantsNeeded", "(I)I"⟩ : MethodName) prog_10_method_5_code 3 (some .int) :: ws) ({ frames := 0, cells := 0, slots := 0, locals := 0 } : Room)) (fun a U => a = #[(.ref a1), (.int p2)] ∧ Z.Warmed39 U.vm ∧ U.heap = h0) (fun _ _ _ _ _ => True) (fun _ U o U' => ∃ v L, o = .returned v ∧ Q3 Z a1 p2 a3 a5 h0 n0 v U'.heap L ∧ FrameEnd U o U' L ({ frames := 0, cells := 0, slots := 0, locals := 0 } : Room).cells ({ frames := 0, cells := 0, slots := 0, locals := 0 } : Room).slots) := by
  refine MetFree.of_bodySF (plainFor_of_name pn_1) hisR ?_
  intro p e s m args below meth c s₁ Bd hml0 hP hK
  obtain ⟨rfl, hZ, hh⟩ := hP
  have hx := Bd.exec
  have hby := Bd.bytes
  have hml : c.maxLocals = 3 := hml0
  have hown : s.vm.findClass "com/example/svratka/svratka/authz/DecisionStrategy" = some m.cls := findClass_of_methodNamed Bd.named
  have hnm := (name_of_methodNamed Bd.named Bd.method).1
  have X0 : Stand p l e ({ frames := 0, cells := 0, slots := 0, locals := 0 } : Room) s m #[(.ref a1), (.int p2)] below meth c s₁ [] 0 0 := Stand.of_body Bd
  have e0 : s₁.heap = h0 := by rw [← hh, Bd.state]; rfl
  have N0 := Fr.nil n0
  have pre0 : ∀ t, Steps p.tables e below (s₁.setTop (mkF m 0 #[.val (.ref a1), .val (.int p2), .unset] [])) t → Steps p.tables e below (s₁.setTop (entryFrame m #[(.ref a1), (.int p2)] 3)) t := fun t k => castTop (ef_1 m a1 (p2)) k
  obtain ⟨T4, X4, e4, st4⟩ := getS2 X0 hx hZ hown (host := "") (Or.inl (hw _ (List.mem_of_getElem? (i := 10) rfl))) Via.refl e0 S_AFFIRMATIVE (g := (mkF m 1 #[.val (.ref a1), .val (.int p2), .unset] [(.ref a1)])) rfl (hb hby d_prog_10_method_5_1)
  obtain ⟨T6, X6, e6, st6⟩ := getS2 X4 hx hZ hown (host := "") (Or.inl (hw _ (List.mem_of_getElem? (i := 12) rfl))) Via.refl e4 S_UNANIMOUS (g := (mkF m 13 #[.val (.ref a1), .val (.int p2), .unset] [(.ref a1)])) rfl (hb hby d_prog_10_method_5_13)
  have pre7 : ∀ t, Steps p.tables e below (T6.setTop (mkF m 31 #[.val (.ref a1), .val (.int p2), .val (.int ((p2 / (2 : Int32)) + (1 : Int32)))] [(.int ((p2 / (2 : Int32)) + (1 : Int32)))])) t → Steps p.tables e below (s₁.setTop (entryFrame m #[(.ref a1), (.int p2)] 3)) t := fun t kk => pre0 t (by
    show Steps p.tables e below (s₁.setTop (mkF m 0 #[.val (.ref a1), .val (.int p2), .unset] [])) _
    refine XS.aloadN X0.here hx rfl (hb hby d_prog_10_method_5_0) rfl rfl ?_
    show Steps p.tables e below (s₁.setTop (mkF m 1 #[.val (.ref a1), .val (.int p2), .unset] [(.ref a1)])) _
    refine st4 _ ?_
    show Steps p.tables e below (T4.setTop (mkF m 4 #[.val (.ref a1), .val (.int p2), .unset] [(.ref a3), (.ref a1)])) _
    refine Jvm.RoadKit.acmp (g := (mkF m 4 #[.val (.ref a1), .val (.int p2), .unset] [(.ref a3), (.ref a1)])) X4 hx rfl rfl rfl (pc0 := 4) (pc' := 12) (same := false) rfl (hb hby d_prog_10_method_5_4) rfl (decide_eq_false fun q => ne_a1_a3 (Value.ref.inj q)) (by decide) (by decide) ?_
    show Steps p.tables e below (T4.setTop (mkF m 12 #[.val (.ref a1), .val (.int p2), .unset] [])) _
    refine XS.aloadN X4.here hx rfl (hb hby d_prog_10_method_5_12) rfl rfl ?_
    show Steps p.tables e below (T4.setTop (mkF m 13 #[.val (.ref a1), .val (.int p2), .unset] [(.ref a1)])) _
    refine st6 _ ?_
    show Steps p.tables e below (T6.setTop (mkF m 16 #[.val (.ref a1), .val (.int p2), .unset] [(.ref a5), (.ref a1)])) _
    refine Jvm.RoadKit.acmp (g := (mkF m 16 #[.val (.ref a1), .val (.int p2), .unset] [(.ref a5), (.ref a1)])) X6 hx rfl rfl rfl (pc0 := 16) (pc' := 24) (same := false) rfl (hb hby d_prog_10_method_5_16) rfl (decide_eq_false fun q => ne_a1_a5 (Value.ref.inj q)) (by decide) (by decide) ?_
    show Steps p.tables e below (T6.setTop (mkF m 24 #[.val (.ref a1), .val (.int p2), .unset] [])) _
    refine XS.iloadN X6.here hx rfl (hb hby d_prog_10_method_5_24) rfl ?_
    show Steps p.tables e below (T6.setTop (mkF m 25 #[.val (.ref a1), .val (.int p2), .unset] [(.int p2)])) _
    refine XS.iconst X6.here hx rfl (hb hby d_prog_10_method_5_25) ?_
    show Steps p.tables e below (T6.setTop (mkF m 26 #[.val (.ref a1), .val (.int p2), .unset] [(.int (2 : Int32)), (.int p2)])) _
    refine XS.idiv X6.here hx rfl (hb hby d_prog_10_method_5_26) rfl (by decide) ?_
    show Steps p.tables e below (T6.setTop (mkF m 27 #[.val (.ref a1), .val (.int p2), .unset] [(.int (p2 / (2 : Int32)))])) _
    refine XS.iconst X6.here hx rfl (hb hby d_prog_10_method_5_27) ?_
    show Steps p.tables e below (T6.setTop (mkF m 28 #[.val (.ref a1), .val (.int p2), .unset] [(.int (1 : Int32)), (.int (p2 / (2 : Int32)))])) _
    refine XS.iadd X6.here hx rfl (hb hby d_prog_10_method_5_28) rfl ?_
    show Steps p.tables e below (T6.setTop (mkF m 29 #[.val (.ref a1), .val (.int p2), .unset] [(.int ((p2 / (2 : Int32)) + (1 : Int32)))])) _
    refine XS.istoreN X6.here hx rfl (hb hby d_prog_10_method_5_29) rfl (l' := #[.val (.ref a1), .val (.int p2), .val (.int ((p2 / (2 : Int32)) + (1 : Int32)))]) rfl ?_
    show Steps p.tables e below (T6.setTop (mkF m 30 #[.val (.ref a1), .val (.int p2), .val (.int ((p2 / (2 : Int32)) + (1 : Int32)))] [])) _
    refine XS.iloadN X6.here hx rfl (hb hby d_prog_10_method_5_30) rfl ?_
    exact kk)
  obtain ⟨fs, hr, hrun, hended, hW, hsame⟩ := X6.leave (v := some (.int ((p2 / (2 : Int32)) + (1 : Int32)))) (fun h => by rw [Bd.returns] at h; cases h)
  refine ⟨_, _, pre7 _ ?_, hrun, hended, _, _, rfl, ?_, ⟨_, rfl⟩, hW, hsame.mono (by decide) (by decide)⟩
  · exact retI X6 hx Bd.returns (hb hby d_prog_10_method_5_31) hr
  · show Q3 Z a1 p2 a3 a5 h0 n0 _ T6.heap _
    rw [e6]
    exact ⟨rfl, N0, rfl⟩
theorem own_ar6 (x1 : Int32) : (0 : Int32) < (lcmpW ((2 : Int64) * ((((x1 &&& (1073741823 : Int32)) / (2 : Int32)) + (1 : Int32)).toInt64)) ((x1 &&& (1073741823 : Int32)).toInt64)) := by
  refine Int32.lt_iff_toInt_lt.mpr ?_
  have z0 : (0 : Int32).toInt = 0 := by decide
  have z1 : (2 : Int64).toInt = 2 := by decide
  have z2 := rng32 x1
  have z3 : (1073741823 : Int32).toInt = 1073741823 := by decide
  have z4 := rng32 (x1 &&& (1073741823 : Int32))
  have z5 : (x1 &&& (1073741823 : Int32)).toInt = x1.toInt % 1073741824 := c_mask x1 (1073741823 : Int32) 30 (by decide) (by decide)
  have z6 : (2 : Int32).toInt = 2 := by decide
  have z7 := rng32 ((x1 &&& (1073741823 : Int32)) / (2 : Int32))
  have z8 := c_idiv (x1 &&& (1073741823 : Int32)) (2 : Int32) 2 (by decide) (by decide)
  have z9 : (1 : Int32).toInt = 1 := by decide
  have z10 := rng32 (((x1 &&& (1073741823 : Int32)) / (2 : Int32)) + (1 : Int32))
  have z11 := c_iadd ((x1 &&& (1073741823 : Int32)) / (2 : Int32)) (1 : Int32)
  have z12 : (((x1 &&& (1073741823 : Int32)) / (2 : Int32)) + (1 : Int32)).toInt = ((x1 &&& (1073741823 : Int32)) / (2 : Int32)).toInt + (1 : Int32).toInt := by omega
  clear z11
  have z14 := rng64 ((((x1 &&& (1073741823 : Int32)) / (2 : Int32)) + (1 : Int32)).toInt64)
  have z15 := c_i2l (((x1 &&& (1073741823 : Int32)) / (2 : Int32)) + (1 : Int32))
  have z16 := rng64 ((2 : Int64) * ((((x1 &&& (1073741823 : Int32)) / (2 : Int32)) + (1 : Int32)).toInt64))
  have z17 : (((2 : Int64) * ((((x1 &&& (1073741823 : Int32)) / (2 : Int32)) + (1 : Int32)).toInt64)).toInt - (2 * ((((x1 &&& (1073741823 : Int32)) / (2 : Int32)) + (1 : Int32)).toInt64).toInt)) % 18446744073709551616 = 0 := c_lmul (2 : Int64) ((((x1 &&& (1073741823 : Int32)) / (2 : Int32)) + (1 : Int32)).toInt64)
  have z18 : ((2 : Int64) * ((((x1 &&& (1073741823 : Int32)) / (2 : Int32)) + (1 : Int32)).toInt64)).toInt = 2 * ((((x1 &&& (1073741823 : Int32)) / (2 : Int32)) + (1 : Int32)).toInt64).toInt := by omega
  clear z17
  have z20 := rng64 ((x1 &&& (1073741823 : Int32)).toInt64)
  have z21 := c_i2l (x1 &&& (1073741823 : Int32))
  have z22 := rng32 (lcmpW ((2 : Int64) * ((((x1 &&& (1073741823 : Int32)) / (2 : Int32)) + (1 : Int32)).toInt64)) ((x1 &&& (1073741823 : Int32)).toInt64))
  have z23 := c_lcmp ((2 : Int64) * ((((x1 &&& (1073741823 : Int32)) / (2 : Int32)) + (1 : Int32)).toInt64)) ((x1 &&& (1073741823 : Int32)).toInt64)
  skip
  try generalize (lcmpW ((2 : Int64) * ((((x1 &&& (1073741823 : Int32)) / (2 : Int32)) + (1 : Int32)).toInt64)) ((x1 &&& (1073741823 : Int32)).toInt64)).toInt = t0 at *
  try generalize ((2 : Int64) * ((((x1 &&& (1073741823 : Int32)) / (2 : Int32)) + (1 : Int32)).toInt64)).toInt = t1 at *
  try generalize ((((x1 &&& (1073741823 : Int32)) / (2 : Int32)) + (1 : Int32)).toInt64).toInt = t2 at *
  try generalize (((x1 &&& (1073741823 : Int32)) / (2 : Int32)) + (1 : Int32)).toInt = t3 at *
  try generalize ((x1 &&& (1073741823 : Int32)) / (2 : Int32)).toInt = t4 at *
  try generalize ((x1 &&& (1073741823 : Int32)).toInt64).toInt = t5 at *
  try generalize (x1 &&& (1073741823 : Int32)).toInt = t6 at *
  try generalize (1073741823 : Int32).toInt = t7 at *
  try generalize (0 : Int32).toInt = t8 at *
  try generalize (2 : Int64).toInt = t9 at *
  try generalize (2 : Int32).toInt = t10 at *
  try generalize (1 : Int32).toInt = t11 at *
  try generalize x1.toInt = t12 at *
  omega
theorem own_ar7 (x1 : Int32) : ¬ ((0 : Int32) < (lcmpW ((2 : Int64) * (((((x1 &&& (1073741823 : Int32)) / (2 : Int32)) + (1 : Int32)).toInt64) - (1 : Int64))) ((x1 &&& (1073741823 : Int32)).toInt64))) := by
  refine fun q => ?_
  have q' : (0 : Int32).toInt < (lcmpW ((2 : Int64) * (((((x1 &&& (1073741823 : Int32)) / (2 : Int32)) + (1 : Int32)).toInt64) - (1 : Int64))) ((x1 &&& (1073741823 : Int32)).toInt64)).toInt := Int32.lt_iff_toInt_lt.mp q
  have z0 : (0 : Int32).toInt = 0 := by decide
  have z1 : (2 : Int64).toInt = 2 := by decide
  have z2 := rng32 x1
  have z3 : (1073741823 : Int32).toInt = 1073741823 := by decide
  have z4 := rng32 (x1 &&& (1073741823 : Int32))
  have z5 : (x1 &&& (1073741823 : Int32)).toInt = x1.toInt % 1073741824 := c_mask x1 (1073741823 : Int32) 30 (by decide) (by decide)
  have z6 : (2 : Int32).toInt = 2 := by decide
  have z7 := rng32 ((x1 &&& (1073741823 : Int32)) / (2 : Int32))
  have z8 := c_idiv (x1 &&& (1073741823 : Int32)) (2 : Int32) 2 (by decide) (by decide)
  have z9 : (1 : Int32).toInt = 1 := by decide
  have z10 := rng32 (((x1 &&& (1073741823 : Int32)) / (2 : Int32)) + (1 : Int32))
  have z11 := c_iadd ((x1 &&& (1073741823 : Int32)) / (2 : Int32)) (1 : Int32)
  have z12 : (((x1 &&& (1073741823 : Int32)) / (2 : Int32)) + (1 : Int32)).toInt = ((x1 &&& (1073741823 : Int32)) / (2 : Int32)).toInt + (1 : Int32).toInt := by omega
  clear z11
  have z14 := rng64 ((((x1 &&& (1073741823 : Int32)) / (2 : Int32)) + (1 : Int32)).toInt64)
  have z15 := c_i2l (((x1 &&& (1073741823 : Int32)) / (2 : Int32)) + (1 : Int32))
  have z16 : (1 : Int64).toInt = 1 := by decide
  have z17 := rng64 (((((x1 &&& (1073741823 : Int32)) / (2 : Int32)) + (1 : Int32)).toInt64) - (1 : Int64))
  have z18 := c_lsub ((((x1 &&& (1073741823 : Int32)) / (2 : Int32)) + (1 : Int32)).toInt64) (1 : Int64)
  have z19 : (((((x1 &&& (1073741823 : Int32)) / (2 : Int32)) + (1 : Int32)).toInt64) - (1 : Int64)).toInt = ((((x1 &&& (1073741823 : Int32)) / (2 : Int32)) + (1 : Int32)).toInt64).toInt - (1 : Int64).toInt := by omega
  clear z18
  have z21 := rng64 ((2 : Int64) * (((((x1 &&& (1073741823 : Int32)) / (2 : Int32)) + (1 : Int32)).toInt64) - (1 : Int64)))
  have z22 : (((2 : Int64) * (((((x1 &&& (1073741823 : Int32)) / (2 : Int32)) + (1 : Int32)).toInt64) - (1 : Int64))).toInt - (2 * (((((x1 &&& (1073741823 : Int32)) / (2 : Int32)) + (1 : Int32)).toInt64) - (1 : Int64)).toInt)) % 18446744073709551616 = 0 := c_lmul (2 : Int64) (((((x1 &&& (1073741823 : Int32)) / (2 : Int32)) + (1 : Int32)).toInt64) - (1 : Int64))
  have z23 : ((2 : Int64) * (((((x1 &&& (1073741823 : Int32)) / (2 : Int32)) + (1 : Int32)).toInt64) - (1 : Int64))).toInt = 2 * (((((x1 &&& (1073741823 : Int32)) / (2 : Int32)) + (1 : Int32)).toInt64) - (1 : Int64)).toInt := by omega
  clear z22
  have z25 := rng64 ((x1 &&& (1073741823 : Int32)).toInt64)
  have z26 := c_i2l (x1 &&& (1073741823 : Int32))
  have z27 := rng32 (lcmpW ((2 : Int64) * (((((x1 &&& (1073741823 : Int32)) / (2 : Int32)) + (1 : Int32)).toInt64) - (1 : Int64))) ((x1 &&& (1073741823 : Int32)).toInt64))
  have z28 := c_lcmp ((2 : Int64) * (((((x1 &&& (1073741823 : Int32)) / (2 : Int32)) + (1 : Int32)).toInt64) - (1 : Int64))) ((x1 &&& (1073741823 : Int32)).toInt64)
  clear q
  try generalize (lcmpW ((2 : Int64) * (((((x1 &&& (1073741823 : Int32)) / (2 : Int32)) + (1 : Int32)).toInt64) - (1 : Int64))) ((x1 &&& (1073741823 : Int32)).toInt64)).toInt = t0 at *
  try generalize ((2 : Int64) * (((((x1 &&& (1073741823 : Int32)) / (2 : Int32)) + (1 : Int32)).toInt64) - (1 : Int64))).toInt = t1 at *
  try generalize (((((x1 &&& (1073741823 : Int32)) / (2 : Int32)) + (1 : Int32)).toInt64) - (1 : Int64)).toInt = t2 at *
  try generalize ((((x1 &&& (1073741823 : Int32)) / (2 : Int32)) + (1 : Int32)).toInt64).toInt = t3 at *
  try generalize (((x1 &&& (1073741823 : Int32)) / (2 : Int32)) + (1 : Int32)).toInt = t4 at *
  try generalize ((x1 &&& (1073741823 : Int32)) / (2 : Int32)).toInt = t5 at *
  try generalize ((x1 &&& (1073741823 : Int32)).toInt64).toInt = t6 at *
  try generalize (x1 &&& (1073741823 : Int32)).toInt = t7 at *
  try generalize (1073741823 : Int32).toInt = t8 at *
  try generalize (0 : Int32).toInt = t9 at *
  try generalize (2 : Int64).toInt = t10 at *
  try generalize (2 : Int32).toInt = t11 at *
  try generalize (1 : Int32).toInt = t12 at *
  try generalize (1 : Int64).toInt = t13 at *
  try generalize x1.toInt = t14 at *
  omega
theorem own_ar8 (x1 : Int32) (x2 : Int32) (h0 : ((x1 &&& (1073741823 : Int32)) - ((x2 &&& (2147483647 : Int32)) % ((x1 &&& (1073741823 : Int32)) + (1 : Int32)))) < ((x2 &&& (2147483647 : Int32)) % ((x1 &&& (1073741823 : Int32)) + (1 : Int32)))) : ¬ ((lcmpW (((x2 &&& (2147483647 : Int32)) % ((x1 &&& (1073741823 : Int32)) + (1 : Int32))).toInt64) ((((x1 &&& (1073741823 : Int32)) / (2 : Int32)) + (1 : Int32)).toInt64)) < (0 : Int32)) := by
  refine fun q => ?_
  have q' : (lcmpW (((x2 &&& (2147483647 : Int32)) % ((x1 &&& (1073741823 : Int32)) + (1 : Int32))).toInt64) ((((x1 &&& (1073741823 : Int32)) / (2 : Int32)) + (1 : Int32)).toInt64)).toInt < (0 : Int32).toInt := Int32.lt_iff_toInt_lt.mp q
  have k0 : ((x1 &&& (1073741823 : Int32)) - ((x2 &&& (2147483647 : Int32)) % ((x1 &&& (1073741823 : Int32)) + (1 : Int32)))).toInt < ((x2 &&& (2147483647 : Int32)) % ((x1 &&& (1073741823 : Int32)) + (1 : Int32))).toInt := Int32.lt_iff_toInt_lt.mp h0
  have z0 := rng32 x1
  have z1 : (1073741823 : Int32).toInt = 1073741823 := by decide
  have z2 := rng32 (x1 &&& (1073741823 : Int32))
  have z3 : (x1 &&& (1073741823 : Int32)).toInt = x1.toInt % 1073741824 := c_mask x1 (1073741823 : Int32) 30 (by decide) (by decide)
  have z4 := rng32 x2
  have z5 : (2147483647 : Int32).toInt = 2147483647 := by decide
  have z6 := rng32 (x2 &&& (2147483647 : Int32))
  have z7 : (x2 &&& (2147483647 : Int32)).toInt = x2.toInt % 2147483648 := c_mask x2 (2147483647 : Int32) 31 (by decide) (by decide)
  have z8 : (1 : Int32).toInt = 1 := by decide
  have z9 := rng32 ((x1 &&& (1073741823 : Int32)) + (1 : Int32))
  have z10 := c_iadd (x1 &&& (1073741823 : Int32)) (1 : Int32)
  have z11 : ((x1 &&& (1073741823 : Int32)) + (1 : Int32)).toInt = (x1 &&& (1073741823 : Int32)).toInt + (1 : Int32).toInt := by omega
  clear z10
  have z13 := rng32 ((x2 &&& (2147483647 : Int32)) % ((x1 &&& (1073741823 : Int32)) + (1 : Int32)))
  have z14 := c_iremV (x2 &&& (2147483647 : Int32)) ((x1 &&& (1073741823 : Int32)) + (1 : Int32))
  have z15 := rng32 ((x1 &&& (1073741823 : Int32)) - ((x2 &&& (2147483647 : Int32)) % ((x1 &&& (1073741823 : Int32)) + (1 : Int32))))
  have z16 := c_isub (x1 &&& (1073741823 : Int32)) ((x2 &&& (2147483647 : Int32)) % ((x1 &&& (1073741823 : Int32)) + (1 : Int32)))
  have z17 : ((x1 &&& (1073741823 : Int32)) - ((x2 &&& (2147483647 : Int32)) % ((x1 &&& (1073741823 : Int32)) + (1 : Int32)))).toInt = (x1 &&& (1073741823 : Int32)).toInt - ((x2 &&& (2147483647 : Int32)) % ((x1 &&& (1073741823 : Int32)) + (1 : Int32))).toInt := by omega
  clear z16
  have z19 := rng64 (((x2 &&& (2147483647 : Int32)) % ((x1 &&& (1073741823 : Int32)) + (1 : Int32))).toInt64)
  have z20 := c_i2l ((x2 &&& (2147483647 : Int32)) % ((x1 &&& (1073741823 : Int32)) + (1 : Int32)))
  have z21 : (2 : Int32).toInt = 2 := by decide
  have z22 := rng32 ((x1 &&& (1073741823 : Int32)) / (2 : Int32))
  have z23 := c_idiv (x1 &&& (1073741823 : Int32)) (2 : Int32) 2 (by decide) (by decide)
  have z24 := rng32 (((x1 &&& (1073741823 : Int32)) / (2 : Int32)) + (1 : Int32))
  have z25 := c_iadd ((x1 &&& (1073741823 : Int32)) / (2 : Int32)) (1 : Int32)
  have z26 : (((x1 &&& (1073741823 : Int32)) / (2 : Int32)) + (1 : Int32)).toInt = ((x1 &&& (1073741823 : Int32)) / (2 : Int32)).toInt + (1 : Int32).toInt := by omega
  clear z25
  have z28 := rng64 ((((x1 &&& (1073741823 : Int32)) / (2 : Int32)) + (1 : Int32)).toInt64)
  have z29 := c_i2l (((x1 &&& (1073741823 : Int32)) / (2 : Int32)) + (1 : Int32))
  have z30 := rng32 (lcmpW (((x2 &&& (2147483647 : Int32)) % ((x1 &&& (1073741823 : Int32)) + (1 : Int32))).toInt64) ((((x1 &&& (1073741823 : Int32)) / (2 : Int32)) + (1 : Int32)).toInt64))
  have z31 := c_lcmp (((x2 &&& (2147483647 : Int32)) % ((x1 &&& (1073741823 : Int32)) + (1 : Int32))).toInt64) ((((x1 &&& (1073741823 : Int32)) / (2 : Int32)) + (1 : Int32)).toInt64)
  have z32 : (0 : Int32).toInt = 0 := by decide
  clear h0 q
  try generalize (lcmpW (((x2 &&& (2147483647 : Int32)) % ((x1 &&& (1073741823 : Int32)) + (1 : Int32))).toInt64) ((((x1 &&& (1073741823 : Int32)) / (2 : Int32)) + (1 : Int32)).toInt64)).toInt = t0 at *
  try generalize ((x1 &&& (1073741823 : Int32)) - ((x2 &&& (2147483647 : Int32)) % ((x1 &&& (1073741823 : Int32)) + (1 : Int32)))).toInt = t1 at *
  try generalize (((x2 &&& (2147483647 : Int32)) % ((x1 &&& (1073741823 : Int32)) + (1 : Int32))).toInt64).toInt = t2 at *
  try generalize ((x2 &&& (2147483647 : Int32)) % ((x1 &&& (1073741823 : Int32)) + (1 : Int32))).toInt = t3 at *
  try generalize ((((x1 &&& (1073741823 : Int32)) / (2 : Int32)) + (1 : Int32)).toInt64).toInt = t4 at *
  try generalize (((x1 &&& (1073741823 : Int32)) / (2 : Int32)) + (1 : Int32)).toInt = t5 at *
  try generalize ((x1 &&& (1073741823 : Int32)) + (1 : Int32)).toInt = t6 at *
  try generalize ((x1 &&& (1073741823 : Int32)) / (2 : Int32)).toInt = t7 at *
  try generalize (x1 &&& (1073741823 : Int32)).toInt = t8 at *
  try generalize (x2 &&& (2147483647 : Int32)).toInt = t9 at *
  try generalize (1073741823 : Int32).toInt = t10 at *
  try generalize (2147483647 : Int32).toInt = t11 at *
  try generalize (1 : Int32).toInt = t12 at *
  try generalize (2 : Int32).toInt = t13 at *
  try generalize (0 : Int32).toInt = t14 at *
  try generalize x1.toInt = t15 at *
  try generalize x2.toInt = t16 at *
  omega
theorem own_ar9 (x1 : Int32) (x2 : Int32) (h0 : ¬ (((x1 &&& (1073741823 : Int32)) - ((x2 &&& (2147483647 : Int32)) % ((x1 &&& (1073741823 : Int32)) + (1 : Int32)))) < ((x2 &&& (2147483647 : Int32)) % ((x1 &&& (1073741823 : Int32)) + (1 : Int32))))) : (lcmpW (((x2 &&& (2147483647 : Int32)) % ((x1 &&& (1073741823 : Int32)) + (1 : Int32))).toInt64) ((((x1 &&& (1073741823 : Int32)) / (2 : Int32)) + (1 : Int32)).toInt64)) < (0 : Int32) := by
  refine Int32.lt_iff_toInt_lt.mpr ?_
  have k0 : ¬ (((x1 &&& (1073741823 : Int32)) - ((x2 &&& (2147483647 : Int32)) % ((x1 &&& (1073741823 : Int32)) + (1 : Int32)))).toInt < ((x2 &&& (2147483647 : Int32)) % ((x1 &&& (1073741823 : Int32)) + (1 : Int32))).toInt) := fun q => h0 (Int32.lt_iff_toInt_lt.mpr q)
  have z0 := rng32 x1
  have z1 : (1073741823 : Int32).toInt = 1073741823 := by decide
  have z2 := rng32 (x1 &&& (1073741823 : Int32))
  have z3 : (x1 &&& (1073741823 : Int32)).toInt = x1.toInt % 1073741824 := c_mask x1 (1073741823 : Int32) 30 (by decide) (by decide)
  have z4 := rng32 x2
  have z5 : (2147483647 : Int32).toInt = 2147483647 := by decide
  have z6 := rng32 (x2 &&& (2147483647 : Int32))
  have z7 : (x2 &&& (2147483647 : Int32)).toInt = x2.toInt % 2147483648 := c_mask x2 (2147483647 : Int32) 31 (by decide) (by decide)
  have z8 : (1 : Int32).toInt = 1 := by decide
  have z9 := rng32 ((x1 &&& (1073741823 : Int32)) + (1 : Int32))
  have z10 := c_iadd (x1 &&& (1073741823 : Int32)) (1 : Int32)
  have z11 : ((x1 &&& (1073741823 : Int32)) + (1 : Int32)).toInt = (x1 &&& (1073741823 : Int32)).toInt + (1 : Int32).toInt := by omega
  clear z10
  have z13 := rng32 ((x2 &&& (2147483647 : Int32)) % ((x1 &&& (1073741823 : Int32)) + (1 : Int32)))
  have z14 := c_iremV (x2 &&& (2147483647 : Int32)) ((x1 &&& (1073741823 : Int32)) + (1 : Int32))
  have z15 := rng32 ((x1 &&& (1073741823 : Int32)) - ((x2 &&& (2147483647 : Int32)) % ((x1 &&& (1073741823 : Int32)) + (1 : Int32))))
  have z16 := c_isub (x1 &&& (1073741823 : Int32)) ((x2 &&& (2147483647 : Int32)) % ((x1 &&& (1073741823 : Int32)) + (1 : Int32)))
  have z17 : ((x1 &&& (1073741823 : Int32)) - ((x2 &&& (2147483647 : Int32)) % ((x1 &&& (1073741823 : Int32)) + (1 : Int32)))).toInt = (x1 &&& (1073741823 : Int32)).toInt - ((x2 &&& (2147483647 : Int32)) % ((x1 &&& (1073741823 : Int32)) + (1 : Int32))).toInt := by omega
  clear z16
  have z19 := rng64 (((x2 &&& (2147483647 : Int32)) % ((x1 &&& (1073741823 : Int32)) + (1 : Int32))).toInt64)
  have z20 := c_i2l ((x2 &&& (2147483647 : Int32)) % ((x1 &&& (1073741823 : Int32)) + (1 : Int32)))
  have z21 : (2 : Int32).toInt = 2 := by decide
  have z22 := rng32 ((x1 &&& (1073741823 : Int32)) / (2 : Int32))
  have z23 := c_idiv (x1 &&& (1073741823 : Int32)) (2 : Int32) 2 (by decide) (by decide)
  have z24 := rng32 (((x1 &&& (1073741823 : Int32)) / (2 : Int32)) + (1 : Int32))
  have z25 := c_iadd ((x1 &&& (1073741823 : Int32)) / (2 : Int32)) (1 : Int32)
  have z26 : (((x1 &&& (1073741823 : Int32)) / (2 : Int32)) + (1 : Int32)).toInt = ((x1 &&& (1073741823 : Int32)) / (2 : Int32)).toInt + (1 : Int32).toInt := by omega
  clear z25
  have z28 := rng64 ((((x1 &&& (1073741823 : Int32)) / (2 : Int32)) + (1 : Int32)).toInt64)
  have z29 := c_i2l (((x1 &&& (1073741823 : Int32)) / (2 : Int32)) + (1 : Int32))
  have z30 := rng32 (lcmpW (((x2 &&& (2147483647 : Int32)) % ((x1 &&& (1073741823 : Int32)) + (1 : Int32))).toInt64) ((((x1 &&& (1073741823 : Int32)) / (2 : Int32)) + (1 : Int32)).toInt64))
  have z31 := c_lcmp (((x2 &&& (2147483647 : Int32)) % ((x1 &&& (1073741823 : Int32)) + (1 : Int32))).toInt64) ((((x1 &&& (1073741823 : Int32)) / (2 : Int32)) + (1 : Int32)).toInt64)
  have z32 : (0 : Int32).toInt = 0 := by decide
  clear h0
  try generalize (lcmpW (((x2 &&& (2147483647 : Int32)) % ((x1 &&& (1073741823 : Int32)) + (1 : Int32))).toInt64) ((((x1 &&& (1073741823 : Int32)) / (2 : Int32)) + (1 : Int32)).toInt64)).toInt = t0 at *
  try generalize ((x1 &&& (1073741823 : Int32)) - ((x2 &&& (2147483647 : Int32)) % ((x1 &&& (1073741823 : Int32)) + (1 : Int32)))).toInt = t1 at *
  try generalize (((x2 &&& (2147483647 : Int32)) % ((x1 &&& (1073741823 : Int32)) + (1 : Int32))).toInt64).toInt = t2 at *
  try generalize ((x2 &&& (2147483647 : Int32)) % ((x1 &&& (1073741823 : Int32)) + (1 : Int32))).toInt = t3 at *
  try generalize ((((x1 &&& (1073741823 : Int32)) / (2 : Int32)) + (1 : Int32)).toInt64).toInt = t4 at *
  try generalize (((x1 &&& (1073741823 : Int32)) / (2 : Int32)) + (1 : Int32)).toInt = t5 at *
  try generalize ((x1 &&& (1073741823 : Int32)) + (1 : Int32)).toInt = t6 at *
  try generalize ((x1 &&& (1073741823 : Int32)) / (2 : Int32)).toInt = t7 at *
  try generalize (x1 &&& (1073741823 : Int32)).toInt = t8 at *
  try generalize (x2 &&& (2147483647 : Int32)).toInt = t9 at *
  try generalize (1073741823 : Int32).toInt = t10 at *
  try generalize (2147483647 : Int32).toInt = t11 at *
  try generalize (1 : Int32).toInt = t12 at *
  try generalize (2 : Int32).toInt = t13 at *
  try generalize (0 : Int32).toInt = t14 at *
  try generalize x1.toInt = t15 at *
  try generalize x2.toInt = t16 at *
  omega
def Q0 (Z : State) (h0 : Heap) (n0 : Nat) (v : Option Value) (h : Heap) (L : List Loc) : Prop := v = some (.int (1 : Int32)) ∧ Fr n0 L
set_option maxRecDepth 65536 in
set_option maxHeartbeats 400000000 in
theorem rm0 (l : Launch) (Z : State) (a0 : Array Value) (hw : ∀ d ∈ tables_1, d.before a0 Z = true) (ws : List Jvm.Cond) (x0 : Int32) (x1 : Int32) (x2 : Int32) (w_UNANIMOUS : Addr) (w_AFFIRMATIVE : Addr) (w_CONSENSUS : Addr) (h0 : Heap) (n0 : Nat) (Z0 : n0 ≤ h0.size) (S_w_UNANIMOUS : Sta Z h0 "com/example/svratka/svratka/authz/DecisionStrategy" "UNANIMOUS" "Lcom/example/svratka/svratka/authz/DecisionStrategy;" (.ref w_UNANIMOUS)) (E_w_UNANIMOUS : Exa Z h0 w_UNANIMOUS "com/example/svratka/svratka/authz/DecisionStrategy") (S_w_AFFIRMATIVE : Sta Z h0 "com/example/svratka/svratka/authz/DecisionStrategy" "AFFIRMATIVE" "Lcom/example/svratka/svratka/authz/DecisionStrategy;" (.ref w_AFFIRMATIVE)) (E_w_AFFIRMATIVE : Exa Z h0 w_AFFIRMATIVE "com/example/svratka/svratka/authz/DecisionStrategy") (S_w_CONSENSUS : Sta Z h0 "com/example/svratka/svratka/authz/DecisionStrategy" "CONSENSUS" "Lcom/example/svratka/svratka/authz/DecisionStrategy;" (.ref w_CONSENSUS)) (E_w_CONSENSUS : Exa Z h0 w_CONSENSUS "com/example/svratka/svratka/authz/DecisionStrategy") (F_ordinal_w_UNANIMOUS : Fld Z h0 w_UNANIMOUS "java/lang/Enum" "ordinal" "I" (.int (0 : Int32))) (F_ordinal_w_AFFIRMATIVE : Fld Z h0 w_AFFIRMATIVE "java/lang/Enum" "ordinal" "I" (.int (1 : Int32))) (F_ordinal_w_CONSENSUS : Fld Z h0 w_CONSENSUS "java/lang/Enum" "ordinal" "I" (.int (2 : Int32))) :
    MetFree l x (head1 (Jvm.Cond.code x code maxLocals ret :: ws) room_1) (fun a U => a = #[(.int x0), (.int x1), (.int x2)] ∧ Z.Warmed39 U.vm ∧ U.heap = h0) (fun _ _ _ _ _ => True) (fun _ U o U' => ∃ v L, o = .returned v ∧ Q0 Z h0 n0 v U'.heap L ∧ FrameEnd U o U' L room_1.cells room_1.slots) := by
  refine MetFree.of_bodySF (plainFor_of_name pn_0) hisR ?_
  intro p e s m args below meth c s₁ Bd hml0 hP hK
  obtain ⟨rfl, hZ, hh⟩ := hP
  have hx := Bd.exec
  have hby := Bd.bytes
  have hml : c.maxLocals = 14 := hml0
  have hown : s.vm.findClass "com/example/svratka/svratka/authz/DecisionStrategyGrantsNeededPinLaw" = some m.cls := findClass_of_methodNamed Bd.named
  have hnm := (name_of_methodNamed Bd.named Bd.method).1
  have X0 : Stand p l e room_1 s m #[(.int x0), (.int x1), (.int x2)] below meth c s₁ [] 0 0 := Stand.of_body Bd
  have e0 : s₁.heap = h0 := by rw [← hh, Bd.state]; rfl
  have N0 := Fr.nil n0
  have pre0 : ∀ t, Steps p.tables e below (s₁.setTop (mkF m 0 #[.val (.int x0), .val (.int x1), .val (.int x2), .unset, .unset, .unset, .unset, .unset, .unset, .unset, .unset, .unset, .unset, .unset] [])) t → Steps p.tables e below (s₁.setTop (entryFrame m #[(.int x0), (.int x1), (.int x2)] maxLocals)) t := fun t k => castTop (ef_0 m (x0) (x1) (x2)) k
  have pre11 : ∀ t, Steps p.tables e below (s₁.setTop (mkF m 6 #[.val (.int x0), .val (.int x1), .val (.int x2), .unset, .unset, .unset, .unset, .unset, .unset, .unset, .unset, .unset, .unset, .unset] [(.int ((x0 &&& (2147483647 : Int32)) % (3 : Int32)))])) t → Steps p.tables e below (s₁.setTop (entryFrame m #[(.int x0), (.int x1), (.int x2)] maxLocals)) t := fun t kk => pre0 t (by
    show Steps p.tables e below (s₁.setTop (mkF m 0 #[.val (.int x0), .val (.int x1), .val (.int x2), .unset, .unset, .unset, .unset, .unset, .unset, .unset, .unset, .unset, .unset, .unset] [])) _
    refine XS.iloadN X0.here hx rfl (hb hby at_0) rfl ?_
    show Steps p.tables e below (s₁.setTop (mkF m 1 #[.val (.int x0), .val (.int x1), .val (.int x2), .unset, .unset, .unset, .unset, .unset, .unset, .unset, .unset, .unset, .unset, .unset] [(.int x0)])) _
    refine X0.ldcInt hx hown (mvT hZ (hw _ (List.mem_of_getElem? (i := 0) rfl))) (g := (mkF m 1 #[.val (.int x0), .val (.int x1), .val (.int x2), .unset, .unset, .unset, .unset, .unset, .unset, .unset, .unset, .unset, .unset, .unset] [(.int x0)])) rfl (hb hby at_1) _ ?_
    show Steps p.tables e below (s₁.setTop (mkF m 3 #[.val (.int x0), .val (.int x1), .val (.int x2), .unset, .unset, .unset, .unset, .unset, .unset, .unset, .unset, .unset, .unset, .unset] [(.int (2147483647 : Int32)), (.int x0)])) _
    refine XS.iand X0.here hx rfl (hb hby at_3) rfl ?_
    show Steps p.tables e below (s₁.setTop (mkF m 4 #[.val (.int x0), .val (.int x1), .val (.int x2), .unset, .unset, .unset, .unset, .unset, .unset, .unset, .unset, .unset, .unset, .unset] [(.int (x0 &&& (2147483647 : Int32)))])) _
    refine XS.iconst X0.here hx rfl (hb hby at_4) ?_
    show Steps p.tables e below (s₁.setTop (mkF m 5 #[.val (.int x0), .val (.int x1), .val (.int x2), .unset, .unset, .unset, .unset, .unset, .unset, .unset, .unset, .unset, .unset, .unset] [(.int (3 : Int32)), (.int (x0 &&& (2147483647 : Int32)))])) _
    refine iremM X0 hx rfl (hb hby at_5) rfl (by decide) ?_
    exact kk)
  rcases own_lt3 ((x0 &&& (2147483647 : Int32)) % (3 : Int32)) (own_remLo (x0 &&& (2147483647 : Int32)) (3 : Int32) (c_and x0 (2147483647 : Int32) (by decide)).1 (by decide)) (own_remHi (x0 &&& (2147483647 : Int32)) (3 : Int32) (c_and x0 (2147483647 : Int32) (by decide)).1 (by decide)) with hv12 | hv12 | hv12
  ·
    have pre13 := pre11
    rw [hv12] at pre13
    obtain ⟨T14, X14, e14, st14⟩ := getS2 X0 hx hZ hown (host := "") (Or.inl (hw _ (List.mem_of_getElem? (i := 1) rfl))) Via.refl e0 S_w_UNANIMOUS (g := (mkF m 11 #[.val (.int x0), .val (.int x1), .val (.int x2), .val (.int (0 : Int32)), .unset, .unset, .unset, .unset, .unset, .unset, .unset, .unset, .unset, .unset] [])) rfl (hb hby at_11)
    obtain ⟨cq15, kq15, q15a, q15b, q15c⟩ := isOf hZ e14 E_w_UNANIMOUS
    obtain ⟨_, _, ⟨T15, L15, k15, n15⟩, -, X15, ⟨Lc15, hQ15, l15, y15, z15⟩, st15⟩ := X14.virtualBack hx (y := (⟨"com/example/svratka/svratka/authz/DecisionStrategy", "grantsNeeded", "(I)I"⟩ : MethodName)) (z := (⟨"com/example/svratka/svratka/authz/DecisionStrategy", "grantsNeeded", "(I)I"⟩ : MethodName)) hown (mvT hZ (hw _ (List.mem_of_getElem? (i := 5) rfl))) (mvT hZ (hw _ (List.mem_of_getElem? (i := 6) rfl))) (notFace_of_selects (args := #[]) (mvT hZ (hw _ (List.mem_of_getElem? (i := 8) rfl)))) (mvT hZ (hw _ (List.mem_of_getElem? (i := 8) rfl))) (mvT hZ (hw _ (List.mem_of_getElem? (i := 7) rfl))) (by decide) (backOf (W := 0) (rm1 l Z a0 hw [] w_UNANIMOUS ((x1 &&& (1073741823 : Int32))) w_AFFIRMATIVE h0 n0 Z0 S_w_AFFIRMATIVE ((Fld.ne F_ordinal_w_UNANIMOUS F_ordinal_w_AFFIRMATIVE (by decide))) S_w_UNANIMOUS) hZ (hw _ (List.mem_of_getElem? (i := 9) rfl)) (hw _ (List.mem_of_getElem? (i := 2) rfl)) (by decide) (by decide)) q15a q15c (g := (mkF m 58 #[.val (.int x0), .val (.int x1), .val (.int x2), .val (.int (0 : Int32)), .val (.ref w_UNANIMOUS), .val (.int (x1 &&& (1073741823 : Int32))), .val (.int ((x2 &&& (2147483647 : Int32)) % ((x1 &&& (1073741823 : Int32)) + (1 : Int32)))), .unset, .unset, .unset, .unset, .unset, .unset, .unset] [(.int (x1 &&& (1073741823 : Int32))), (.ref w_UNANIMOUS)])) rfl (by rw [hml]; rfl) (Steps.refl _) (argsL := [(.int (x1 &&& (1073741823 : Int32)))]) (rest := []) (lenOf pd_0 rfl) rfl (by show 2 * 0 + _ ≤ _; exact Nat.le_of_eq rfl) (hb hby at_58) (fun _ _ => ⟨rfl, e14, (by decide : 0 + 0 ≤ _), (by decide : 0 + 0 ≤ _)⟩)
    dsimp only [Pt.U, Pt.locs, Pt.cells, Pt.slots] at X15 l15 y15 z15 st15 hQ15
    subst l15 y15 z15
    obtain ⟨rfl, N15q, e15⟩ := hQ15
    have N15 := Fr.app N0 N15q
    have pre16 : ∀ t, Steps p.tables e below (T15.setTop (mkF m 92 #[.val (.int x0), .val (.int x1), .val (.int x2), .val (.int (0 : Int32)), .val (.ref w_UNANIMOUS), .val (.int (x1 &&& (1073741823 : Int32))), .val (.int ((x2 &&& (2147483647 : Int32)) % ((x1 &&& (1073741823 : Int32)) + (1 : Int32)))), .val (.long ((x1 &&& (1073741823 : Int32)).toInt64)), .second, .val (.long ((x1 &&& (1073741823 : Int32)).toInt64)), .second, .val (.int (1 : Int32)), .unset, .unset] [(.int (x1 &&& (1073741823 : Int32))), (.int ((x2 &&& (2147483647 : Int32)) % ((x1 &&& (1073741823 : Int32)) + (1 : Int32))))])) t → Steps p.tables e below (s₁.setTop (entryFrame m #[(.int x0), (.int x1), (.int x2)] maxLocals)) t := fun t kk => pre13 t (by
      show Steps p.tables e below (s₁.setTop (mkF m 6 #[.val (.int x0), .val (.int x1), .val (.int x2), .unset, .unset, .unset, .unset, .unset, .unset, .unset, .unset, .unset, .unset, .unset] [(.int (0 : Int32))])) _
      refine XS.istoreN X0.here hx rfl (hb hby at_6) rfl (l' := #[.val (.int x0), .val (.int x1), .val (.int x2), .val (.int (0 : Int32)), .unset, .unset, .unset, .unset, .unset, .unset, .unset, .unset, .unset, .unset]) rfl ?_
      show Steps p.tables e below (s₁.setTop (mkF m 7 #[.val (.int x0), .val (.int x1), .val (.int x2), .val (.int (0 : Int32)), .unset, .unset, .unset, .unset, .unset, .unset, .unset, .unset, .unset, .unset] [])) _
      refine XS.iloadN X0.here hx rfl (hb hby at_7) rfl ?_
      show Steps p.tables e below (s₁.setTop (mkF m 8 #[.val (.int x0), .val (.int x1), .val (.int x2), .val (.int (0 : Int32)), .unset, .unset, .unset, .unset, .unset, .unset, .unset, .unset, .unset, .unset] [(.int (0 : Int32))])) _
      refine XS.ifNo X0.here hx rfl (hb hby at_8) rfl ((if0 _ _).trans (teq ((by decide) : (0 : Int32) = (0 : Int32))).2) ?_
      show Steps p.tables e below (s₁.setTop (mkF m 11 #[.val (.int x0), .val (.int x1), .val (.int x2), .val (.int (0 : Int32)), .unset, .unset, .unset, .unset, .unset, .unset, .unset, .unset, .unset, .unset] [])) _
      refine st14 _ ?_
      show Steps p.tables e below (T14.setTop (mkF m 14 #[.val (.int x0), .val (.int x1), .val (.int x2), .val (.int (0 : Int32)), .unset, .unset, .unset, .unset, .unset, .unset, .unset, .unset, .unset, .unset] [(.ref w_UNANIMOUS)])) _
      refine XS.astore X14.here hx rfl (hb hby at_14) rfl rfl (l' := #[.val (.int x0), .val (.int x1), .val (.int x2), .val (.int (0 : Int32)), .val (.ref w_UNANIMOUS), .unset, .unset, .unset, .unset, .unset, .unset, .unset, .unset, .unset]) rfl ?_
      show Steps p.tables e below (T14.setTop (mkF m 16 #[.val (.int x0), .val (.int x1), .val (.int x2), .val (.int (0 : Int32)), .val (.ref w_UNANIMOUS), .unset, .unset, .unset, .unset, .unset, .unset, .unset, .unset, .unset] [])) _
      refine XS.goto X14.here hx rfl (pc0 := 16) (pc' := 37) rfl (hb hby at_16) (by decide) (by decide) ?_
      show Steps p.tables e below (T14.setTop (mkF m 37 #[.val (.int x0), .val (.int x1), .val (.int x2), .val (.int (0 : Int32)), .val (.ref w_UNANIMOUS), .unset, .unset, .unset, .unset, .unset, .unset, .unset, .unset, .unset] [])) _
      refine XS.iloadN X14.here hx rfl (hb hby at_37) rfl ?_
      show Steps p.tables e below (T14.setTop (mkF m 38 #[.val (.int x0), .val (.int x1), .val (.int x2), .val (.int (0 : Int32)), .val (.ref w_UNANIMOUS), .unset, .unset, .unset, .unset, .unset, .unset, .unset, .unset, .unset] [(.int x1)])) _
      refine X14.ldcInt hx hown (mvT hZ (hw _ (List.mem_of_getElem? (i := 4) rfl))) (g := (mkF m 38 #[.val (.int x0), .val (.int x1), .val (.int x2), .val (.int (0 : Int32)), .val (.ref w_UNANIMOUS), .unset, .unset, .unset, .unset, .unset, .unset, .unset, .unset, .unset] [(.int x1)])) rfl (hb hby at_38) _ ?_
      show Steps p.tables e below (T14.setTop (mkF m 40 #[.val (.int x0), .val (.int x1), .val (.int x2), .val (.int (0 : Int32)), .val (.ref w_UNANIMOUS), .unset, .unset, .unset, .unset, .unset, .unset, .unset, .unset, .unset] [(.int (1073741823 : Int32)), (.int x1)])) _
      refine XS.iand X14.here hx rfl (hb hby at_40) rfl ?_
      show Steps p.tables e below (T14.setTop (mkF m 41 #[.val (.int x0), .val (.int x1), .val (.int x2), .val (.int (0 : Int32)), .val (.ref w_UNANIMOUS), .unset, .unset, .unset, .unset, .unset, .unset, .unset, .unset, .unset] [(.int (x1 &&& (1073741823 : Int32)))])) _
      refine XS.istore X14.here hx rfl (hb hby at_41) rfl (l' := #[.val (.int x0), .val (.int x1), .val (.int x2), .val (.int (0 : Int32)), .val (.ref w_UNANIMOUS), .val (.int (x1 &&& (1073741823 : Int32))), .unset, .unset, .unset, .unset, .unset, .unset, .unset, .unset]) rfl ?_
      show Steps p.tables e below (T14.setTop (mkF m 43 #[.val (.int x0), .val (.int x1), .val (.int x2), .val (.int (0 : Int32)), .val (.ref w_UNANIMOUS), .val (.int (x1 &&& (1073741823 : Int32))), .unset, .unset, .unset, .unset, .unset, .unset, .unset, .unset] [])) _
      refine XS.iloadN X14.here hx rfl (hb hby at_43) rfl ?_
      show Steps p.tables e below (T14.setTop (mkF m 44 #[.val (.int x0), .val (.int x1), .val (.int x2), .val (.int (0 : Int32)), .val (.ref w_UNANIMOUS), .val (.int (x1 &&& (1073741823 : Int32))), .unset, .unset, .unset, .unset, .unset, .unset, .unset, .unset] [(.int x2)])) _
      refine X14.ldcInt hx hown (mvT hZ (hw _ (List.mem_of_getElem? (i := 0) rfl))) (g := (mkF m 44 #[.val (.int x0), .val (.int x1), .val (.int x2), .val (.int (0 : Int32)), .val (.ref w_UNANIMOUS), .val (.int (x1 &&& (1073741823 : Int32))), .unset, .unset, .unset, .unset, .unset, .unset, .unset, .unset] [(.int x2)])) rfl (hb hby at_44) _ ?_
      show Steps p.tables e below (T14.setTop (mkF m 46 #[.val (.int x0), .val (.int x1), .val (.int x2), .val (.int (0 : Int32)), .val (.ref w_UNANIMOUS), .val (.int (x1 &&& (1073741823 : Int32))), .unset, .unset, .unset, .unset, .unset, .unset, .unset, .unset] [(.int (2147483647 : Int32)), (.int x2)])) _
      refine XS.iand X14.here hx rfl (hb hby at_46) rfl ?_
      show Steps p.tables e below (T14.setTop (mkF m 47 #[.val (.int x0), .val (.int x1), .val (.int x2), .val (.int (0 : Int32)), .val (.ref w_UNANIMOUS), .val (.int (x1 &&& (1073741823 : Int32))), .unset, .unset, .unset, .unset, .unset, .unset, .unset, .unset] [(.int (x2 &&& (2147483647 : Int32)))])) _
      refine XS.iload X14.here hx rfl (hb hby at_47) rfl ?_
      show Steps p.tables e below (T14.setTop (mkF m 49 #[.val (.int x0), .val (.int x1), .val (.int x2), .val (.int (0 : Int32)), .val (.ref w_UNANIMOUS), .val (.int (x1 &&& (1073741823 : Int32))), .unset, .unset, .unset, .unset, .unset, .unset, .unset, .unset] [(.int (x1 &&& (1073741823 : Int32))), (.int (x2 &&& (2147483647 : Int32)))])) _
      refine XS.iconst X14.here hx rfl (hb hby at_49) ?_
      show Steps p.tables e below (T14.setTop (mkF m 50 #[.val (.int x0), .val (.int x1), .val (.int x2), .val (.int (0 : Int32)), .val (.ref w_UNANIMOUS), .val (.int (x1 &&& (1073741823 : Int32))), .unset, .unset, .unset, .unset, .unset, .unset, .unset, .unset] [(.int (1 : Int32)), (.int (x1 &&& (1073741823 : Int32))), (.int (x2 &&& (2147483647 : Int32)))])) _
      refine XS.iadd X14.here hx rfl (hb hby at_50) rfl ?_
      show Steps p.tables e below (T14.setTop (mkF m 51 #[.val (.int x0), .val (.int x1), .val (.int x2), .val (.int (0 : Int32)), .val (.ref w_UNANIMOUS), .val (.int (x1 &&& (1073741823 : Int32))), .unset, .unset, .unset, .unset, .unset, .unset, .unset, .unset] [(.int ((x1 &&& (1073741823 : Int32)) + (1 : Int32))), (.int (x2 &&& (2147483647 : Int32)))])) _
      refine iremM X14 hx rfl (hb hby at_51) rfl (own_ar0 x1) ?_
      show Steps p.tables e below (T14.setTop (mkF m 52 #[.val (.int x0), .val (.int x1), .val (.int x2), .val (.int (0 : Int32)), .val (.ref w_UNANIMOUS), .val (.int (x1 &&& (1073741823 : Int32))), .unset, .unset, .unset, .unset, .unset, .unset, .unset, .unset] [(.int ((x2 &&& (2147483647 : Int32)) % ((x1 &&& (1073741823 : Int32)) + (1 : Int32))))])) _
      refine XS.istore X14.here hx rfl (hb hby at_52) rfl (l' := #[.val (.int x0), .val (.int x1), .val (.int x2), .val (.int (0 : Int32)), .val (.ref w_UNANIMOUS), .val (.int (x1 &&& (1073741823 : Int32))), .val (.int ((x2 &&& (2147483647 : Int32)) % ((x1 &&& (1073741823 : Int32)) + (1 : Int32)))), .unset, .unset, .unset, .unset, .unset, .unset, .unset]) rfl ?_
      show Steps p.tables e below (T14.setTop (mkF m 54 #[.val (.int x0), .val (.int x1), .val (.int x2), .val (.int (0 : Int32)), .val (.ref w_UNANIMOUS), .val (.int (x1 &&& (1073741823 : Int32))), .val (.int ((x2 &&& (2147483647 : Int32)) % ((x1 &&& (1073741823 : Int32)) + (1 : Int32)))), .unset, .unset, .unset, .unset, .unset, .unset, .unset] [])) _
      refine XS.aload X14.here hx rfl (hb hby at_54) rfl rfl ?_
      show Steps p.tables e below (T14.setTop (mkF m 56 #[.val (.int x0), .val (.int x1), .val (.int x2), .val (.int (0 : Int32)), .val (.ref w_UNANIMOUS), .val (.int (x1 &&& (1073741823 : Int32))), .val (.int ((x2 &&& (2147483647 : Int32)) % ((x1 &&& (1073741823 : Int32)) + (1 : Int32)))), .unset, .unset, .unset, .unset, .unset, .unset, .unset] [(.ref w_UNANIMOUS)])) _
      refine XS.iload X14.here hx rfl (hb hby at_56) rfl ?_
      show Steps p.tables e below (T14.setTop (mkF m 58 #[.val (.int x0), .val (.int x1), .val (.int x2), .val (.int (0 : Int32)), .val (.ref w_UNANIMOUS), .val (.int (x1 &&& (1073741823 : Int32))), .val (.int ((x2 &&& (2147483647 : Int32)) % ((x1 &&& (1073741823 : Int32)) + (1 : Int32)))), .unset, .unset, .unset, .unset, .unset, .unset, .unset] [(.int (x1 &&& (1073741823 : Int32))), (.ref w_UNANIMOUS)])) _
      refine st15.trans ?_
      show Steps p.tables e below (T15.setTop (mkF m 61 #[.val (.int x0), .val (.int x1), .val (.int x2), .val (.int (0 : Int32)), .val (.ref w_UNANIMOUS), .val (.int (x1 &&& (1073741823 : Int32))), .val (.int ((x2 &&& (2147483647 : Int32)) % ((x1 &&& (1073741823 : Int32)) + (1 : Int32)))), .unset, .unset, .unset, .unset, .unset, .unset, .unset] [(.int (x1 &&& (1073741823 : Int32)))])) _
      refine XS.i2l X15.here hx rfl (hb hby at_61) rfl ?_
      show Steps p.tables e below (T15.setTop (mkF m 62 #[.val (.int x0), .val (.int x1), .val (.int x2), .val (.int (0 : Int32)), .val (.ref w_UNANIMOUS), .val (.int (x1 &&& (1073741823 : Int32))), .val (.int ((x2 &&& (2147483647 : Int32)) % ((x1 &&& (1073741823 : Int32)) + (1 : Int32)))), .unset, .unset, .unset, .unset, .unset, .unset, .unset] [(.long ((x1 &&& (1073741823 : Int32)).toInt64))])) _
      refine XS.lstore X15.here hx rfl (hb hby at_62) rfl (l' := #[.val (.int x0), .val (.int x1), .val (.int x2), .val (.int (0 : Int32)), .val (.ref w_UNANIMOUS), .val (.int (x1 &&& (1073741823 : Int32))), .val (.int ((x2 &&& (2147483647 : Int32)) % ((x1 &&& (1073741823 : Int32)) + (1 : Int32)))), .val (.long ((x1 &&& (1073741823 : Int32)).toInt64)), .second, .unset, .unset, .unset, .unset, .unset]) rfl ?_
      show Steps p.tables e below (T15.setTop (mkF m 64 #[.val (.int x0), .val (.int x1), .val (.int x2), .val (.int (0 : Int32)), .val (.ref w_UNANIMOUS), .val (.int (x1 &&& (1073741823 : Int32))), .val (.int ((x2 &&& (2147483647 : Int32)) % ((x1 &&& (1073741823 : Int32)) + (1 : Int32)))), .val (.long ((x1 &&& (1073741823 : Int32)).toInt64)), .second, .unset, .unset, .unset, .unset, .unset] [])) _
      refine XS.iload X15.here hx rfl (hb hby at_64) rfl ?_
      show Steps p.tables e below (T15.setTop (mkF m 66 #[.val (.int x0), .val (.int x1), .val (.int x2), .val (.int (0 : Int32)), .val (.ref w_UNANIMOUS), .val (.int (x1 &&& (1073741823 : Int32))), .val (.int ((x2 &&& (2147483647 : Int32)) % ((x1 &&& (1073741823 : Int32)) + (1 : Int32)))), .val (.long ((x1 &&& (1073741823 : Int32)).toInt64)), .second, .unset, .unset, .unset, .unset, .unset] [(.int (x1 &&& (1073741823 : Int32)))])) _
      refine XS.i2l X15.here hx rfl (hb hby at_66) rfl ?_
      show Steps p.tables e below (T15.setTop (mkF m 67 #[.val (.int x0), .val (.int x1), .val (.int x2), .val (.int (0 : Int32)), .val (.ref w_UNANIMOUS), .val (.int (x1 &&& (1073741823 : Int32))), .val (.int ((x2 &&& (2147483647 : Int32)) % ((x1 &&& (1073741823 : Int32)) + (1 : Int32)))), .val (.long ((x1 &&& (1073741823 : Int32)).toInt64)), .second, .unset, .unset, .unset, .unset, .unset] [(.long ((x1 &&& (1073741823 : Int32)).toInt64))])) _
      refine XS.lstore X15.here hx rfl (hb hby at_67) rfl (l' := #[.val (.int x0), .val (.int x1), .val (.int x2), .val (.int (0 : Int32)), .val (.ref w_UNANIMOUS), .val (.int (x1 &&& (1073741823 : Int32))), .val (.int ((x2 &&& (2147483647 : Int32)) % ((x1 &&& (1073741823 : Int32)) + (1 : Int32)))), .val (.long ((x1 &&& (1073741823 : Int32)).toInt64)), .second, .val (.long ((x1 &&& (1073741823 : Int32)).toInt64)), .second, .unset, .unset, .unset]) rfl ?_
      show Steps p.tables e below (T15.setTop (mkF m 69 #[.val (.int x0), .val (.int x1), .val (.int x2), .val (.int (0 : Int32)), .val (.ref w_UNANIMOUS), .val (.int (x1 &&& (1073741823 : Int32))), .val (.int ((x2 &&& (2147483647 : Int32)) % ((x1 &&& (1073741823 : Int32)) + (1 : Int32)))), .val (.long ((x1 &&& (1073741823 : Int32)).toInt64)), .second, .val (.long ((x1 &&& (1073741823 : Int32)).toInt64)), .second, .unset, .unset, .unset] [])) _
      refine XS.iloadN X15.here hx rfl (hb hby at_69) rfl ?_
      show Steps p.tables e below (T15.setTop (mkF m 70 #[.val (.int x0), .val (.int x1), .val (.int x2), .val (.int (0 : Int32)), .val (.ref w_UNANIMOUS), .val (.int (x1 &&& (1073741823 : Int32))), .val (.int ((x2 &&& (2147483647 : Int32)) % ((x1 &&& (1073741823 : Int32)) + (1 : Int32)))), .val (.long ((x1 &&& (1073741823 : Int32)).toInt64)), .second, .val (.long ((x1 &&& (1073741823 : Int32)).toInt64)), .second, .unset, .unset, .unset] [(.int (0 : Int32))])) _
      refine XS.ifNo X15.here hx rfl (hb hby at_70) rfl ((if0 _ _).trans (teq ((by decide) : (0 : Int32) = (0 : Int32))).2) ?_
      show Steps p.tables e below (T15.setTop (mkF m 73 #[.val (.int x0), .val (.int x1), .val (.int x2), .val (.int (0 : Int32)), .val (.ref w_UNANIMOUS), .val (.int (x1 &&& (1073741823 : Int32))), .val (.int ((x2 &&& (2147483647 : Int32)) % ((x1 &&& (1073741823 : Int32)) + (1 : Int32)))), .val (.long ((x1 &&& (1073741823 : Int32)).toInt64)), .second, .val (.long ((x1 &&& (1073741823 : Int32)).toInt64)), .second, .unset, .unset, .unset] [])) _
      refine XS.lload X15.here hx rfl (hb hby at_73) rfl ?_
      show Steps p.tables e below (T15.setTop (mkF m 75 #[.val (.int x0), .val (.int x1), .val (.int x2), .val (.int (0 : Int32)), .val (.ref w_UNANIMOUS), .val (.int (x1 &&& (1073741823 : Int32))), .val (.int ((x2 &&& (2147483647 : Int32)) % ((x1 &&& (1073741823 : Int32)) + (1 : Int32)))), .val (.long ((x1 &&& (1073741823 : Int32)).toInt64)), .second, .val (.long ((x1 &&& (1073741823 : Int32)).toInt64)), .second, .unset, .unset, .unset] [(.long ((x1 &&& (1073741823 : Int32)).toInt64))])) _
      refine XS.lload X15.here hx rfl (hb hby at_75) rfl ?_
      show Steps p.tables e below (T15.setTop (mkF m 77 #[.val (.int x0), .val (.int x1), .val (.int x2), .val (.int (0 : Int32)), .val (.ref w_UNANIMOUS), .val (.int (x1 &&& (1073741823 : Int32))), .val (.int ((x2 &&& (2147483647 : Int32)) % ((x1 &&& (1073741823 : Int32)) + (1 : Int32)))), .val (.long ((x1 &&& (1073741823 : Int32)).toInt64)), .second, .val (.long ((x1 &&& (1073741823 : Int32)).toInt64)), .second, .unset, .unset, .unset] [(.long ((x1 &&& (1073741823 : Int32)).toInt64)), (.long ((x1 &&& (1073741823 : Int32)).toInt64))])) _
      refine XS.lcmp X15.here hx rfl (hb hby at_77) rfl ?_
      show Steps p.tables e below (T15.setTop (mkF m 78 #[.val (.int x0), .val (.int x1), .val (.int x2), .val (.int (0 : Int32)), .val (.ref w_UNANIMOUS), .val (.int (x1 &&& (1073741823 : Int32))), .val (.int ((x2 &&& (2147483647 : Int32)) % ((x1 &&& (1073741823 : Int32)) + (1 : Int32)))), .val (.long ((x1 &&& (1073741823 : Int32)).toInt64)), .second, .val (.long ((x1 &&& (1073741823 : Int32)).toInt64)), .second, .unset, .unset, .unset] [(.int (lcmpW ((x1 &&& (1073741823 : Int32)).toInt64) ((x1 &&& (1073741823 : Int32)).toInt64)))])) _
      refine XS.ifNo X15.here hx rfl (hb hby at_78) rfl ((if0 _ _).trans (teq ((own_ar1 x1) : (lcmpW ((x1 &&& (1073741823 : Int32)).toInt64) ((x1 &&& (1073741823 : Int32)).toInt64)) = (0 : Int32))).2) ?_
      show Steps p.tables e below (T15.setTop (mkF m 81 #[.val (.int x0), .val (.int x1), .val (.int x2), .val (.int (0 : Int32)), .val (.ref w_UNANIMOUS), .val (.int (x1 &&& (1073741823 : Int32))), .val (.int ((x2 &&& (2147483647 : Int32)) % ((x1 &&& (1073741823 : Int32)) + (1 : Int32)))), .val (.long ((x1 &&& (1073741823 : Int32)).toInt64)), .second, .val (.long ((x1 &&& (1073741823 : Int32)).toInt64)), .second, .unset, .unset, .unset] [])) _
      refine XS.iconst X15.here hx rfl (hb hby at_81) ?_
      show Steps p.tables e below (T15.setTop (mkF m 82 #[.val (.int x0), .val (.int x1), .val (.int x2), .val (.int (0 : Int32)), .val (.ref w_UNANIMOUS), .val (.int (x1 &&& (1073741823 : Int32))), .val (.int ((x2 &&& (2147483647 : Int32)) % ((x1 &&& (1073741823 : Int32)) + (1 : Int32)))), .val (.long ((x1 &&& (1073741823 : Int32)).toInt64)), .second, .val (.long ((x1 &&& (1073741823 : Int32)).toInt64)), .second, .unset, .unset, .unset] [(.int (1 : Int32))])) _
      refine XS.goto X15.here hx rfl (pc0 := 82) (pc' := 86) rfl (hb hby at_82) (by decide) (by decide) ?_
      show Steps p.tables e below (T15.setTop (mkF m 86 #[.val (.int x0), .val (.int x1), .val (.int x2), .val (.int (0 : Int32)), .val (.ref w_UNANIMOUS), .val (.int (x1 &&& (1073741823 : Int32))), .val (.int ((x2 &&& (2147483647 : Int32)) % ((x1 &&& (1073741823 : Int32)) + (1 : Int32)))), .val (.long ((x1 &&& (1073741823 : Int32)).toInt64)), .second, .val (.long ((x1 &&& (1073741823 : Int32)).toInt64)), .second, .unset, .unset, .unset] [(.int (1 : Int32))])) _
      refine XS.istore X15.here hx rfl (hb hby at_86) rfl (l' := #[.val (.int x0), .val (.int x1), .val (.int x2), .val (.int (0 : Int32)), .val (.ref w_UNANIMOUS), .val (.int (x1 &&& (1073741823 : Int32))), .val (.int ((x2 &&& (2147483647 : Int32)) % ((x1 &&& (1073741823 : Int32)) + (1 : Int32)))), .val (.long ((x1 &&& (1073741823 : Int32)).toInt64)), .second, .val (.long ((x1 &&& (1073741823 : Int32)).toInt64)), .second, .val (.int (1 : Int32)), .unset, .unset]) rfl ?_
      show Steps p.tables e below (T15.setTop (mkF m 88 #[.val (.int x0), .val (.int x1), .val (.int x2), .val (.int (0 : Int32)), .val (.ref w_UNANIMOUS), .val (.int (x1 &&& (1073741823 : Int32))), .val (.int ((x2 &&& (2147483647 : Int32)) % ((x1 &&& (1073741823 : Int32)) + (1 : Int32)))), .val (.long ((x1 &&& (1073741823 : Int32)).toInt64)), .second, .val (.long ((x1 &&& (1073741823 : Int32)).toInt64)), .second, .val (.int (1 : Int32)), .unset, .unset] [])) _
      refine XS.iload X15.here hx rfl (hb hby at_88) rfl ?_
      show Steps p.tables e below (T15.setTop (mkF m 90 #[.val (.int x0), .val (.int x1), .val (.int x2), .val (.int (0 : Int32)), .val (.ref w_UNANIMOUS), .val (.int (x1 &&& (1073741823 : Int32))), .val (.int ((x2 &&& (2147483647 : Int32)) % ((x1 &&& (1073741823 : Int32)) + (1 : Int32)))), .val (.long ((x1 &&& (1073741823 : Int32)).toInt64)), .second, .val (.long ((x1 &&& (1073741823 : Int32)).toInt64)), .second, .val (.int (1 : Int32)), .unset, .unset] [(.int ((x2 &&& (2147483647 : Int32)) % ((x1 &&& (1073741823 : Int32)) + (1 : Int32))))])) _
      refine XS.iload X15.here hx rfl (hb hby at_90) rfl ?_
      exact kk)
    by_cases hc17 : ((x2 &&& (2147483647 : Int32)) % ((x1 &&& (1073741823 : Int32)) + (1 : Int32))) = (x1 &&& (1073741823 : Int32))
    ·
      have pre18 : ∀ t, Steps p.tables e below (T15.setTop (mkF m 223 #[.val (.int x0), .val (.int x1), .val (.int x2), .val (.int (0 : Int32)), .val (.ref w_UNANIMOUS), .val (.int (x1 &&& (1073741823 : Int32))), .val (.int ((x2 &&& (2147483647 : Int32)) % ((x1 &&& (1073741823 : Int32)) + (1 : Int32)))), .val (.long ((x1 &&& (1073741823 : Int32)).toInt64)), .second, .val (.long ((x1 &&& (1073741823 : Int32)).toInt64)), .second, .val (.int (1 : Int32)), .val (.int (1 : Int32)), .val (.int (1 : Int32))] [(.int (1 : Int32))])) t → Steps p.tables e below (s₁.setTop (entryFrame m #[(.int x0), (.int x1), (.int x2)] maxLocals)) t := fun t kk => pre16 t (by
        show Steps p.tables e below (T15.setTop (mkF m 92 #[.val (.int x0), .val (.int x1), .val (.int x2), .val (.int (0 : Int32)), .val (.ref w_UNANIMOUS), .val (.int (x1 &&& (1073741823 : Int32))), .val (.int ((x2 &&& (2147483647 : Int32)) % ((x1 &&& (1073741823 : Int32)) + (1 : Int32)))), .val (.long ((x1 &&& (1073741823 : Int32)).toInt64)), .second, .val (.long ((x1 &&& (1073741823 : Int32)).toInt64)), .second, .val (.int (1 : Int32)), .unset, .unset] [(.int (x1 &&& (1073741823 : Int32))), (.int ((x2 &&& (2147483647 : Int32)) % ((x1 &&& (1073741823 : Int32)) + (1 : Int32))))])) _
        refine XS.icmpNo X15.here hx rfl (hb hby at_92) rfl (teq (hc17 : ((x2 &&& (2147483647 : Int32)) % ((x1 &&& (1073741823 : Int32)) + (1 : Int32))) = (x1 &&& (1073741823 : Int32)))).2 ?_
        show Steps p.tables e below (T15.setTop (mkF m 95 #[.val (.int x0), .val (.int x1), .val (.int x2), .val (.int (0 : Int32)), .val (.ref w_UNANIMOUS), .val (.int (x1 &&& (1073741823 : Int32))), .val (.int ((x2 &&& (2147483647 : Int32)) % ((x1 &&& (1073741823 : Int32)) + (1 : Int32)))), .val (.long ((x1 &&& (1073741823 : Int32)).toInt64)), .second, .val (.long ((x1 &&& (1073741823 : Int32)).toInt64)), .second, .val (.int (1 : Int32)), .unset, .unset] [])) _
        refine XS.iconst X15.here hx rfl (hb hby at_95) ?_
        show Steps p.tables e below (T15.setTop (mkF m 96 #[.val (.int x0), .val (.int x1), .val (.int x2), .val (.int (0 : Int32)), .val (.ref w_UNANIMOUS), .val (.int (x1 &&& (1073741823 : Int32))), .val (.int ((x2 &&& (2147483647 : Int32)) % ((x1 &&& (1073741823 : Int32)) + (1 : Int32)))), .val (.long ((x1 &&& (1073741823 : Int32)).toInt64)), .second, .val (.long ((x1 &&& (1073741823 : Int32)).toInt64)), .second, .val (.int (1 : Int32)), .unset, .unset] [(.int (1 : Int32))])) _
        refine XS.goto X15.here hx rfl (pc0 := 96) (pc' := 100) rfl (hb hby at_96) (by decide) (by decide) ?_
        show Steps p.tables e below (T15.setTop (mkF m 100 #[.val (.int x0), .val (.int x1), .val (.int x2), .val (.int (0 : Int32)), .val (.ref w_UNANIMOUS), .val (.int (x1 &&& (1073741823 : Int32))), .val (.int ((x2 &&& (2147483647 : Int32)) % ((x1 &&& (1073741823 : Int32)) + (1 : Int32)))), .val (.long ((x1 &&& (1073741823 : Int32)).toInt64)), .second, .val (.long ((x1 &&& (1073741823 : Int32)).toInt64)), .second, .val (.int (1 : Int32)), .unset, .unset] [(.int (1 : Int32))])) _
        refine XS.istore X15.here hx rfl (hb hby at_100) rfl (l' := #[.val (.int x0), .val (.int x1), .val (.int x2), .val (.int (0 : Int32)), .val (.ref w_UNANIMOUS), .val (.int (x1 &&& (1073741823 : Int32))), .val (.int ((x2 &&& (2147483647 : Int32)) % ((x1 &&& (1073741823 : Int32)) + (1 : Int32)))), .val (.long ((x1 &&& (1073741823 : Int32)).toInt64)), .second, .val (.long ((x1 &&& (1073741823 : Int32)).toInt64)), .second, .val (.int (1 : Int32)), .val (.int (1 : Int32)), .unset]) rfl ?_
        show Steps p.tables e below (T15.setTop (mkF m 102 #[.val (.int x0), .val (.int x1), .val (.int x2), .val (.int (0 : Int32)), .val (.ref w_UNANIMOUS), .val (.int (x1 &&& (1073741823 : Int32))), .val (.int ((x2 &&& (2147483647 : Int32)) % ((x1 &&& (1073741823 : Int32)) + (1 : Int32)))), .val (.long ((x1 &&& (1073741823 : Int32)).toInt64)), .second, .val (.long ((x1 &&& (1073741823 : Int32)).toInt64)), .second, .val (.int (1 : Int32)), .val (.int (1 : Int32)), .unset] [])) _
        refine XS.goto X15.here hx rfl (pc0 := 102) (pc' := 190) rfl (hb hby at_102) (by decide) (by decide) ?_
        show Steps p.tables e below (T15.setTop (mkF m 190 #[.val (.int x0), .val (.int x1), .val (.int x2), .val (.int (0 : Int32)), .val (.ref w_UNANIMOUS), .val (.int (x1 &&& (1073741823 : Int32))), .val (.int ((x2 &&& (2147483647 : Int32)) % ((x1 &&& (1073741823 : Int32)) + (1 : Int32)))), .val (.long ((x1 &&& (1073741823 : Int32)).toInt64)), .second, .val (.long ((x1 &&& (1073741823 : Int32)).toInt64)), .second, .val (.int (1 : Int32)), .val (.int (1 : Int32)), .unset] [])) _
        refine XS.iload X15.here hx rfl (hb hby at_190) rfl ?_
        show Steps p.tables e below (T15.setTop (mkF m 192 #[.val (.int x0), .val (.int x1), .val (.int x2), .val (.int (0 : Int32)), .val (.ref w_UNANIMOUS), .val (.int (x1 &&& (1073741823 : Int32))), .val (.int ((x2 &&& (2147483647 : Int32)) % ((x1 &&& (1073741823 : Int32)) + (1 : Int32)))), .val (.long ((x1 &&& (1073741823 : Int32)).toInt64)), .second, .val (.long ((x1 &&& (1073741823 : Int32)).toInt64)), .second, .val (.int (1 : Int32)), .val (.int (1 : Int32)), .unset] [(.int ((x2 &&& (2147483647 : Int32)) % ((x1 &&& (1073741823 : Int32)) + (1 : Int32))))])) _
        refine XS.i2l X15.here hx rfl (hb hby at_192) rfl ?_
        show Steps p.tables e below (T15.setTop (mkF m 193 #[.val (.int x0), .val (.int x1), .val (.int x2), .val (.int (0 : Int32)), .val (.ref w_UNANIMOUS), .val (.int (x1 &&& (1073741823 : Int32))), .val (.int ((x2 &&& (2147483647 : Int32)) % ((x1 &&& (1073741823 : Int32)) + (1 : Int32)))), .val (.long ((x1 &&& (1073741823 : Int32)).toInt64)), .second, .val (.long ((x1 &&& (1073741823 : Int32)).toInt64)), .second, .val (.int (1 : Int32)), .val (.int (1 : Int32)), .unset] [(.long (((x2 &&& (2147483647 : Int32)) % ((x1 &&& (1073741823 : Int32)) + (1 : Int32))).toInt64))])) _
        refine XS.lload X15.here hx rfl (hb hby at_193) rfl ?_
        show Steps p.tables e below (T15.setTop (mkF m 195 #[.val (.int x0), .val (.int x1), .val (.int x2), .val (.int (0 : Int32)), .val (.ref w_UNANIMOUS), .val (.int (x1 &&& (1073741823 : Int32))), .val (.int ((x2 &&& (2147483647 : Int32)) % ((x1 &&& (1073741823 : Int32)) + (1 : Int32)))), .val (.long ((x1 &&& (1073741823 : Int32)).toInt64)), .second, .val (.long ((x1 &&& (1073741823 : Int32)).toInt64)), .second, .val (.int (1 : Int32)), .val (.int (1 : Int32)), .unset] [(.long ((x1 &&& (1073741823 : Int32)).toInt64)), (.long (((x2 &&& (2147483647 : Int32)) % ((x1 &&& (1073741823 : Int32)) + (1 : Int32))).toInt64))])) _
        refine XS.lcmp X15.here hx rfl (hb hby at_195) rfl ?_
        show Steps p.tables e below (T15.setTop (mkF m 196 #[.val (.int x0), .val (.int x1), .val (.int x2), .val (.int (0 : Int32)), .val (.ref w_UNANIMOUS), .val (.int (x1 &&& (1073741823 : Int32))), .val (.int ((x2 &&& (2147483647 : Int32)) % ((x1 &&& (1073741823 : Int32)) + (1 : Int32)))), .val (.long ((x1 &&& (1073741823 : Int32)).toInt64)), .second, .val (.long ((x1 &&& (1073741823 : Int32)).toInt64)), .second, .val (.int (1 : Int32)), .val (.int (1 : Int32)), .unset] [(.int (lcmpW (((x2 &&& (2147483647 : Int32)) % ((x1 &&& (1073741823 : Int32)) + (1 : Int32))).toInt64) ((x1 &&& (1073741823 : Int32)).toInt64)))])) _
        refine XS.ifNo X15.here hx rfl (hb hby at_196) rfl ((if0 _ _).trans (flt ((own_ar2 x2 x1 hc17) : ¬ ((lcmpW (((x2 &&& (2147483647 : Int32)) % ((x1 &&& (1073741823 : Int32)) + (1 : Int32))).toInt64) ((x1 &&& (1073741823 : Int32)).toInt64)) < (0 : Int32)))).1) ?_
        show Steps p.tables e below (T15.setTop (mkF m 199 #[.val (.int x0), .val (.int x1), .val (.int x2), .val (.int (0 : Int32)), .val (.ref w_UNANIMOUS), .val (.int (x1 &&& (1073741823 : Int32))), .val (.int ((x2 &&& (2147483647 : Int32)) % ((x1 &&& (1073741823 : Int32)) + (1 : Int32)))), .val (.long ((x1 &&& (1073741823 : Int32)).toInt64)), .second, .val (.long ((x1 &&& (1073741823 : Int32)).toInt64)), .second, .val (.int (1 : Int32)), .val (.int (1 : Int32)), .unset] [])) _
        refine XS.iconst X15.here hx rfl (hb hby at_199) ?_
        show Steps p.tables e below (T15.setTop (mkF m 200 #[.val (.int x0), .val (.int x1), .val (.int x2), .val (.int (0 : Int32)), .val (.ref w_UNANIMOUS), .val (.int (x1 &&& (1073741823 : Int32))), .val (.int ((x2 &&& (2147483647 : Int32)) % ((x1 &&& (1073741823 : Int32)) + (1 : Int32)))), .val (.long ((x1 &&& (1073741823 : Int32)).toInt64)), .second, .val (.long ((x1 &&& (1073741823 : Int32)).toInt64)), .second, .val (.int (1 : Int32)), .val (.int (1 : Int32)), .unset] [(.int (1 : Int32))])) _
        refine XS.goto X15.here hx rfl (pc0 := 200) (pc' := 204) rfl (hb hby at_200) (by decide) (by decide) ?_
        show Steps p.tables e below (T15.setTop (mkF m 204 #[.val (.int x0), .val (.int x1), .val (.int x2), .val (.int (0 : Int32)), .val (.ref w_UNANIMOUS), .val (.int (x1 &&& (1073741823 : Int32))), .val (.int ((x2 &&& (2147483647 : Int32)) % ((x1 &&& (1073741823 : Int32)) + (1 : Int32)))), .val (.long ((x1 &&& (1073741823 : Int32)).toInt64)), .second, .val (.long ((x1 &&& (1073741823 : Int32)).toInt64)), .second, .val (.int (1 : Int32)), .val (.int (1 : Int32)), .unset] [(.int (1 : Int32))])) _
        refine XS.istore X15.here hx rfl (hb hby at_204) rfl (l' := #[.val (.int x0), .val (.int x1), .val (.int x2), .val (.int (0 : Int32)), .val (.ref w_UNANIMOUS), .val (.int (x1 &&& (1073741823 : Int32))), .val (.int ((x2 &&& (2147483647 : Int32)) % ((x1 &&& (1073741823 : Int32)) + (1 : Int32)))), .val (.long ((x1 &&& (1073741823 : Int32)).toInt64)), .second, .val (.long ((x1 &&& (1073741823 : Int32)).toInt64)), .second, .val (.int (1 : Int32)), .val (.int (1 : Int32)), .val (.int (1 : Int32))]) rfl ?_
        show Steps p.tables e below (T15.setTop (mkF m 206 #[.val (.int x0), .val (.int x1), .val (.int x2), .val (.int (0 : Int32)), .val (.ref w_UNANIMOUS), .val (.int (x1 &&& (1073741823 : Int32))), .val (.int ((x2 &&& (2147483647 : Int32)) % ((x1 &&& (1073741823 : Int32)) + (1 : Int32)))), .val (.long ((x1 &&& (1073741823 : Int32)).toInt64)), .second, .val (.long ((x1 &&& (1073741823 : Int32)).toInt64)), .second, .val (.int (1 : Int32)), .val (.int (1 : Int32)), .val (.int (1 : Int32))] [])) _
        refine XS.iload X15.here hx rfl (hb hby at_206) rfl ?_
        show Steps p.tables e below (T15.setTop (mkF m 208 #[.val (.int x0), .val (.int x1), .val (.int x2), .val (.int (0 : Int32)), .val (.ref w_UNANIMOUS), .val (.int (x1 &&& (1073741823 : Int32))), .val (.int ((x2 &&& (2147483647 : Int32)) % ((x1 &&& (1073741823 : Int32)) + (1 : Int32)))), .val (.long ((x1 &&& (1073741823 : Int32)).toInt64)), .second, .val (.long ((x1 &&& (1073741823 : Int32)).toInt64)), .second, .val (.int (1 : Int32)), .val (.int (1 : Int32)), .val (.int (1 : Int32))] [(.int (1 : Int32))])) _
        refine XS.ifNo X15.here hx rfl (hb hby at_208) rfl ((if0 _ _).trans (feq ((by decide) : ¬ ((1 : Int32) = (0 : Int32)))).1) ?_
        show Steps p.tables e below (T15.setTop (mkF m 211 #[.val (.int x0), .val (.int x1), .val (.int x2), .val (.int (0 : Int32)), .val (.ref w_UNANIMOUS), .val (.int (x1 &&& (1073741823 : Int32))), .val (.int ((x2 &&& (2147483647 : Int32)) % ((x1 &&& (1073741823 : Int32)) + (1 : Int32)))), .val (.long ((x1 &&& (1073741823 : Int32)).toInt64)), .second, .val (.long ((x1 &&& (1073741823 : Int32)).toInt64)), .second, .val (.int (1 : Int32)), .val (.int (1 : Int32)), .val (.int (1 : Int32))] [])) _
        refine XS.iload X15.here hx rfl (hb hby at_211) rfl ?_
        show Steps p.tables e below (T15.setTop (mkF m 213 #[.val (.int x0), .val (.int x1), .val (.int x2), .val (.int (0 : Int32)), .val (.ref w_UNANIMOUS), .val (.int (x1 &&& (1073741823 : Int32))), .val (.int ((x2 &&& (2147483647 : Int32)) % ((x1 &&& (1073741823 : Int32)) + (1 : Int32)))), .val (.long ((x1 &&& (1073741823 : Int32)).toInt64)), .second, .val (.long ((x1 &&& (1073741823 : Int32)).toInt64)), .second, .val (.int (1 : Int32)), .val (.int (1 : Int32)), .val (.int (1 : Int32))] [(.int (1 : Int32))])) _
        refine XS.iload X15.here hx rfl (hb hby at_213) rfl ?_
        show Steps p.tables e below (T15.setTop (mkF m 215 #[.val (.int x0), .val (.int x1), .val (.int x2), .val (.int (0 : Int32)), .val (.ref w_UNANIMOUS), .val (.int (x1 &&& (1073741823 : Int32))), .val (.int ((x2 &&& (2147483647 : Int32)) % ((x1 &&& (1073741823 : Int32)) + (1 : Int32)))), .val (.long ((x1 &&& (1073741823 : Int32)).toInt64)), .second, .val (.long ((x1 &&& (1073741823 : Int32)).toInt64)), .second, .val (.int (1 : Int32)), .val (.int (1 : Int32)), .val (.int (1 : Int32))] [(.int (1 : Int32)), (.int (1 : Int32))])) _
        refine XS.icmpNo X15.here hx rfl (hb hby at_215) rfl (teq ((by decide) : (1 : Int32) = (1 : Int32))).2 ?_
        show Steps p.tables e below (T15.setTop (mkF m 218 #[.val (.int x0), .val (.int x1), .val (.int x2), .val (.int (0 : Int32)), .val (.ref w_UNANIMOUS), .val (.int (x1 &&& (1073741823 : Int32))), .val (.int ((x2 &&& (2147483647 : Int32)) % ((x1 &&& (1073741823 : Int32)) + (1 : Int32)))), .val (.long ((x1 &&& (1073741823 : Int32)).toInt64)), .second, .val (.long ((x1 &&& (1073741823 : Int32)).toInt64)), .second, .val (.int (1 : Int32)), .val (.int (1 : Int32)), .val (.int (1 : Int32))] [])) _
        refine XS.iconst X15.here hx rfl (hb hby at_218) ?_
        show Steps p.tables e below (T15.setTop (mkF m 219 #[.val (.int x0), .val (.int x1), .val (.int x2), .val (.int (0 : Int32)), .val (.ref w_UNANIMOUS), .val (.int (x1 &&& (1073741823 : Int32))), .val (.int ((x2 &&& (2147483647 : Int32)) % ((x1 &&& (1073741823 : Int32)) + (1 : Int32)))), .val (.long ((x1 &&& (1073741823 : Int32)).toInt64)), .second, .val (.long ((x1 &&& (1073741823 : Int32)).toInt64)), .second, .val (.int (1 : Int32)), .val (.int (1 : Int32)), .val (.int (1 : Int32))] [(.int (1 : Int32))])) _
        refine XS.goto X15.here hx rfl (pc0 := 219) (pc' := 223) rfl (hb hby at_219) (by decide) (by decide) ?_
        exact kk)
      obtain ⟨fs, hr, hrun, hended, hW, hsame⟩ := X15.leave (v := some (.int (1 : Int32))) (fun h => by rw [Bd.returns] at h; cases h)
      refine ⟨_, _, pre18 _ ?_, hrun, hended, _, _, rfl, ?_, ⟨_, rfl⟩, hW, hsame.mono (by decide) (by decide)⟩
      · exact retN X15 hx (t := .boolean) Bd.returns (by simp) (hb hby at_223) hr
      · exact ⟨rfl, N15⟩
    ·
      have pre19 : ∀ t, Steps p.tables e below (T15.setTop (mkF m 223 #[.val (.int x0), .val (.int x1), .val (.int x2), .val (.int (0 : Int32)), .val (.ref w_UNANIMOUS), .val (.int (x1 &&& (1073741823 : Int32))), .val (.int ((x2 &&& (2147483647 : Int32)) % ((x1 &&& (1073741823 : Int32)) + (1 : Int32)))), .val (.long ((x1 &&& (1073741823 : Int32)).toInt64)), .second, .val (.long ((x1 &&& (1073741823 : Int32)).toInt64)), .second, .val (.int (1 : Int32)), .val (.int (0 : Int32)), .val (.int (0 : Int32))] [(.int (1 : Int32))])) t → Steps p.tables e below (s₁.setTop (entryFrame m #[(.int x0), (.int x1), (.int x2)] maxLocals)) t := fun t kk => pre16 t (by
        show Steps p.tables e below (T15.setTop (mkF m 92 #[.val (.int x0), .val (.int x1), .val (.int x2), .val (.int (0 : Int32)), .val (.ref w_UNANIMOUS), .val (.int (x1 &&& (1073741823 : Int32))), .val (.int ((x2 &&& (2147483647 : Int32)) % ((x1 &&& (1073741823 : Int32)) + (1 : Int32)))), .val (.long ((x1 &&& (1073741823 : Int32)).toInt64)), .second, .val (.long ((x1 &&& (1073741823 : Int32)).toInt64)), .second, .val (.int (1 : Int32)), .unset, .unset] [(.int (x1 &&& (1073741823 : Int32))), (.int ((x2 &&& (2147483647 : Int32)) % ((x1 &&& (1073741823 : Int32)) + (1 : Int32))))])) _
        refine XS.icmpYes X15.here hx rfl (pc0 := 92) (pc' := 99) rfl (hb hby at_92) rfl (feq (hc17 : ¬ (((x2 &&& (2147483647 : Int32)) % ((x1 &&& (1073741823 : Int32)) + (1 : Int32))) = (x1 &&& (1073741823 : Int32))))).2 (by decide) (by decide) ?_
        show Steps p.tables e below (T15.setTop (mkF m 99 #[.val (.int x0), .val (.int x1), .val (.int x2), .val (.int (0 : Int32)), .val (.ref w_UNANIMOUS), .val (.int (x1 &&& (1073741823 : Int32))), .val (.int ((x2 &&& (2147483647 : Int32)) % ((x1 &&& (1073741823 : Int32)) + (1 : Int32)))), .val (.long ((x1 &&& (1073741823 : Int32)).toInt64)), .second, .val (.long ((x1 &&& (1073741823 : Int32)).toInt64)), .second, .val (.int (1 : Int32)), .unset, .unset] [])) _
        refine XS.iconst X15.here hx rfl (hb hby at_99) ?_
        show Steps p.tables e below (T15.setTop (mkF m 100 #[.val (.int x0), .val (.int x1), .val (.int x2), .val (.int (0 : Int32)), .val (.ref w_UNANIMOUS), .val (.int (x1 &&& (1073741823 : Int32))), .val (.int ((x2 &&& (2147483647 : Int32)) % ((x1 &&& (1073741823 : Int32)) + (1 : Int32)))), .val (.long ((x1 &&& (1073741823 : Int32)).toInt64)), .second, .val (.long ((x1 &&& (1073741823 : Int32)).toInt64)), .second, .val (.int (1 : Int32)), .unset, .unset] [(.int (0 : Int32))])) _
        refine XS.istore X15.here hx rfl (hb hby at_100) rfl (l' := #[.val (.int x0), .val (.int x1), .val (.int x2), .val (.int (0 : Int32)), .val (.ref w_UNANIMOUS), .val (.int (x1 &&& (1073741823 : Int32))), .val (.int ((x2 &&& (2147483647 : Int32)) % ((x1 &&& (1073741823 : Int32)) + (1 : Int32)))), .val (.long ((x1 &&& (1073741823 : Int32)).toInt64)), .second, .val (.long ((x1 &&& (1073741823 : Int32)).toInt64)), .second, .val (.int (1 : Int32)), .val (.int (0 : Int32)), .unset]) rfl ?_
        show Steps p.tables e below (T15.setTop (mkF m 102 #[.val (.int x0), .val (.int x1), .val (.int x2), .val (.int (0 : Int32)), .val (.ref w_UNANIMOUS), .val (.int (x1 &&& (1073741823 : Int32))), .val (.int ((x2 &&& (2147483647 : Int32)) % ((x1 &&& (1073741823 : Int32)) + (1 : Int32)))), .val (.long ((x1 &&& (1073741823 : Int32)).toInt64)), .second, .val (.long ((x1 &&& (1073741823 : Int32)).toInt64)), .second, .val (.int (1 : Int32)), .val (.int (0 : Int32)), .unset] [])) _
        refine XS.goto X15.here hx rfl (pc0 := 102) (pc' := 190) rfl (hb hby at_102) (by decide) (by decide) ?_
        show Steps p.tables e below (T15.setTop (mkF m 190 #[.val (.int x0), .val (.int x1), .val (.int x2), .val (.int (0 : Int32)), .val (.ref w_UNANIMOUS), .val (.int (x1 &&& (1073741823 : Int32))), .val (.int ((x2 &&& (2147483647 : Int32)) % ((x1 &&& (1073741823 : Int32)) + (1 : Int32)))), .val (.long ((x1 &&& (1073741823 : Int32)).toInt64)), .second, .val (.long ((x1 &&& (1073741823 : Int32)).toInt64)), .second, .val (.int (1 : Int32)), .val (.int (0 : Int32)), .unset] [])) _
        refine XS.iload X15.here hx rfl (hb hby at_190) rfl ?_
        show Steps p.tables e below (T15.setTop (mkF m 192 #[.val (.int x0), .val (.int x1), .val (.int x2), .val (.int (0 : Int32)), .val (.ref w_UNANIMOUS), .val (.int (x1 &&& (1073741823 : Int32))), .val (.int ((x2 &&& (2147483647 : Int32)) % ((x1 &&& (1073741823 : Int32)) + (1 : Int32)))), .val (.long ((x1 &&& (1073741823 : Int32)).toInt64)), .second, .val (.long ((x1 &&& (1073741823 : Int32)).toInt64)), .second, .val (.int (1 : Int32)), .val (.int (0 : Int32)), .unset] [(.int ((x2 &&& (2147483647 : Int32)) % ((x1 &&& (1073741823 : Int32)) + (1 : Int32))))])) _
        refine XS.i2l X15.here hx rfl (hb hby at_192) rfl ?_
        show Steps p.tables e below (T15.setTop (mkF m 193 #[.val (.int x0), .val (.int x1), .val (.int x2), .val (.int (0 : Int32)), .val (.ref w_UNANIMOUS), .val (.int (x1 &&& (1073741823 : Int32))), .val (.int ((x2 &&& (2147483647 : Int32)) % ((x1 &&& (1073741823 : Int32)) + (1 : Int32)))), .val (.long ((x1 &&& (1073741823 : Int32)).toInt64)), .second, .val (.long ((x1 &&& (1073741823 : Int32)).toInt64)), .second, .val (.int (1 : Int32)), .val (.int (0 : Int32)), .unset] [(.long (((x2 &&& (2147483647 : Int32)) % ((x1 &&& (1073741823 : Int32)) + (1 : Int32))).toInt64))])) _
        refine XS.lload X15.here hx rfl (hb hby at_193) rfl ?_
        show Steps p.tables e below (T15.setTop (mkF m 195 #[.val (.int x0), .val (.int x1), .val (.int x2), .val (.int (0 : Int32)), .val (.ref w_UNANIMOUS), .val (.int (x1 &&& (1073741823 : Int32))), .val (.int ((x2 &&& (2147483647 : Int32)) % ((x1 &&& (1073741823 : Int32)) + (1 : Int32)))), .val (.long ((x1 &&& (1073741823 : Int32)).toInt64)), .second, .val (.long ((x1 &&& (1073741823 : Int32)).toInt64)), .second, .val (.int (1 : Int32)), .val (.int (0 : Int32)), .unset] [(.long ((x1 &&& (1073741823 : Int32)).toInt64)), (.long (((x2 &&& (2147483647 : Int32)) % ((x1 &&& (1073741823 : Int32)) + (1 : Int32))).toInt64))])) _
        refine XS.lcmp X15.here hx rfl (hb hby at_195) rfl ?_
        show Steps p.tables e below (T15.setTop (mkF m 196 #[.val (.int x0), .val (.int x1), .val (.int x2), .val (.int (0 : Int32)), .val (.ref w_UNANIMOUS), .val (.int (x1 &&& (1073741823 : Int32))), .val (.int ((x2 &&& (2147483647 : Int32)) % ((x1 &&& (1073741823 : Int32)) + (1 : Int32)))), .val (.long ((x1 &&& (1073741823 : Int32)).toInt64)), .second, .val (.long ((x1 &&& (1073741823 : Int32)).toInt64)), .second, .val (.int (1 : Int32)), .val (.int (0 : Int32)), .unset] [(.int (lcmpW (((x2 &&& (2147483647 : Int32)) % ((x1 &&& (1073741823 : Int32)) + (1 : Int32))).toInt64) ((x1 &&& (1073741823 : Int32)).toInt64)))])) _
        refine XS.ifYes X15.here hx rfl (pc0 := 196) (pc' := 203) rfl (hb hby at_196) rfl ((if0 _ _).trans (tlt ((own_ar3 x2 x1 hc17) : (lcmpW (((x2 &&& (2147483647 : Int32)) % ((x1 &&& (1073741823 : Int32)) + (1 : Int32))).toInt64) ((x1 &&& (1073741823 : Int32)).toInt64)) < (0 : Int32))).1) (by decide) (by decide) ?_
        show Steps p.tables e below (T15.setTop (mkF m 203 #[.val (.int x0), .val (.int x1), .val (.int x2), .val (.int (0 : Int32)), .val (.ref w_UNANIMOUS), .val (.int (x1 &&& (1073741823 : Int32))), .val (.int ((x2 &&& (2147483647 : Int32)) % ((x1 &&& (1073741823 : Int32)) + (1 : Int32)))), .val (.long ((x1 &&& (1073741823 : Int32)).toInt64)), .second, .val (.long ((x1 &&& (1073741823 : Int32)).toInt64)), .second, .val (.int (1 : Int32)), .val (.int (0 : Int32)), .unset] [])) _
        refine XS.iconst X15.here hx rfl (hb hby at_203) ?_
        show Steps p.tables e below (T15.setTop (mkF m 204 #[.val (.int x0), .val (.int x1), .val (.int x2), .val (.int (0 : Int32)), .val (.ref w_UNANIMOUS), .val (.int (x1 &&& (1073741823 : Int32))), .val (.int ((x2 &&& (2147483647 : Int32)) % ((x1 &&& (1073741823 : Int32)) + (1 : Int32)))), .val (.long ((x1 &&& (1073741823 : Int32)).toInt64)), .second, .val (.long ((x1 &&& (1073741823 : Int32)).toInt64)), .second, .val (.int (1 : Int32)), .val (.int (0 : Int32)), .unset] [(.int (0 : Int32))])) _
        refine XS.istore X15.here hx rfl (hb hby at_204) rfl (l' := #[.val (.int x0), .val (.int x1), .val (.int x2), .val (.int (0 : Int32)), .val (.ref w_UNANIMOUS), .val (.int (x1 &&& (1073741823 : Int32))), .val (.int ((x2 &&& (2147483647 : Int32)) % ((x1 &&& (1073741823 : Int32)) + (1 : Int32)))), .val (.long ((x1 &&& (1073741823 : Int32)).toInt64)), .second, .val (.long ((x1 &&& (1073741823 : Int32)).toInt64)), .second, .val (.int (1 : Int32)), .val (.int (0 : Int32)), .val (.int (0 : Int32))]) rfl ?_
        show Steps p.tables e below (T15.setTop (mkF m 206 #[.val (.int x0), .val (.int x1), .val (.int x2), .val (.int (0 : Int32)), .val (.ref w_UNANIMOUS), .val (.int (x1 &&& (1073741823 : Int32))), .val (.int ((x2 &&& (2147483647 : Int32)) % ((x1 &&& (1073741823 : Int32)) + (1 : Int32)))), .val (.long ((x1 &&& (1073741823 : Int32)).toInt64)), .second, .val (.long ((x1 &&& (1073741823 : Int32)).toInt64)), .second, .val (.int (1 : Int32)), .val (.int (0 : Int32)), .val (.int (0 : Int32))] [])) _
        refine XS.iload X15.here hx rfl (hb hby at_206) rfl ?_
        show Steps p.tables e below (T15.setTop (mkF m 208 #[.val (.int x0), .val (.int x1), .val (.int x2), .val (.int (0 : Int32)), .val (.ref w_UNANIMOUS), .val (.int (x1 &&& (1073741823 : Int32))), .val (.int ((x2 &&& (2147483647 : Int32)) % ((x1 &&& (1073741823 : Int32)) + (1 : Int32)))), .val (.long ((x1 &&& (1073741823 : Int32)).toInt64)), .second, .val (.long ((x1 &&& (1073741823 : Int32)).toInt64)), .second, .val (.int (1 : Int32)), .val (.int (0 : Int32)), .val (.int (0 : Int32))] [(.int (1 : Int32))])) _
        refine XS.ifNo X15.here hx rfl (hb hby at_208) rfl ((if0 _ _).trans (feq ((by decide) : ¬ ((1 : Int32) = (0 : Int32)))).1) ?_
        show Steps p.tables e below (T15.setTop (mkF m 211 #[.val (.int x0), .val (.int x1), .val (.int x2), .val (.int (0 : Int32)), .val (.ref w_UNANIMOUS), .val (.int (x1 &&& (1073741823 : Int32))), .val (.int ((x2 &&& (2147483647 : Int32)) % ((x1 &&& (1073741823 : Int32)) + (1 : Int32)))), .val (.long ((x1 &&& (1073741823 : Int32)).toInt64)), .second, .val (.long ((x1 &&& (1073741823 : Int32)).toInt64)), .second, .val (.int (1 : Int32)), .val (.int (0 : Int32)), .val (.int (0 : Int32))] [])) _
        refine XS.iload X15.here hx rfl (hb hby at_211) rfl ?_
        show Steps p.tables e below (T15.setTop (mkF m 213 #[.val (.int x0), .val (.int x1), .val (.int x2), .val (.int (0 : Int32)), .val (.ref w_UNANIMOUS), .val (.int (x1 &&& (1073741823 : Int32))), .val (.int ((x2 &&& (2147483647 : Int32)) % ((x1 &&& (1073741823 : Int32)) + (1 : Int32)))), .val (.long ((x1 &&& (1073741823 : Int32)).toInt64)), .second, .val (.long ((x1 &&& (1073741823 : Int32)).toInt64)), .second, .val (.int (1 : Int32)), .val (.int (0 : Int32)), .val (.int (0 : Int32))] [(.int (0 : Int32))])) _
        refine XS.iload X15.here hx rfl (hb hby at_213) rfl ?_
        show Steps p.tables e below (T15.setTop (mkF m 215 #[.val (.int x0), .val (.int x1), .val (.int x2), .val (.int (0 : Int32)), .val (.ref w_UNANIMOUS), .val (.int (x1 &&& (1073741823 : Int32))), .val (.int ((x2 &&& (2147483647 : Int32)) % ((x1 &&& (1073741823 : Int32)) + (1 : Int32)))), .val (.long ((x1 &&& (1073741823 : Int32)).toInt64)), .second, .val (.long ((x1 &&& (1073741823 : Int32)).toInt64)), .second, .val (.int (1 : Int32)), .val (.int (0 : Int32)), .val (.int (0 : Int32))] [(.int (0 : Int32)), (.int (0 : Int32))])) _
        refine XS.icmpNo X15.here hx rfl (hb hby at_215) rfl (teq ((by decide) : (0 : Int32) = (0 : Int32))).2 ?_
        show Steps p.tables e below (T15.setTop (mkF m 218 #[.val (.int x0), .val (.int x1), .val (.int x2), .val (.int (0 : Int32)), .val (.ref w_UNANIMOUS), .val (.int (x1 &&& (1073741823 : Int32))), .val (.int ((x2 &&& (2147483647 : Int32)) % ((x1 &&& (1073741823 : Int32)) + (1 : Int32)))), .val (.long ((x1 &&& (1073741823 : Int32)).toInt64)), .second, .val (.long ((x1 &&& (1073741823 : Int32)).toInt64)), .second, .val (.int (1 : Int32)), .val (.int (0 : Int32)), .val (.int (0 : Int32))] [])) _
        refine XS.iconst X15.here hx rfl (hb hby at_218) ?_
        show Steps p.tables e below (T15.setTop (mkF m 219 #[.val (.int x0), .val (.int x1), .val (.int x2), .val (.int (0 : Int32)), .val (.ref w_UNANIMOUS), .val (.int (x1 &&& (1073741823 : Int32))), .val (.int ((x2 &&& (2147483647 : Int32)) % ((x1 &&& (1073741823 : Int32)) + (1 : Int32)))), .val (.long ((x1 &&& (1073741823 : Int32)).toInt64)), .second, .val (.long ((x1 &&& (1073741823 : Int32)).toInt64)), .second, .val (.int (1 : Int32)), .val (.int (0 : Int32)), .val (.int (0 : Int32))] [(.int (1 : Int32))])) _
        refine XS.goto X15.here hx rfl (pc0 := 219) (pc' := 223) rfl (hb hby at_219) (by decide) (by decide) ?_
        exact kk)
      obtain ⟨fs, hr, hrun, hended, hW, hsame⟩ := X15.leave (v := some (.int (1 : Int32))) (fun h => by rw [Bd.returns] at h; cases h)
      refine ⟨_, _, pre19 _ ?_, hrun, hended, _, _, rfl, ?_, ⟨_, rfl⟩, hW, hsame.mono (by decide) (by decide)⟩
      · exact retN X15 hx (t := .boolean) Bd.returns (by simp) (hb hby at_223) hr
      · exact ⟨rfl, N15⟩
  ·
    have pre20 := pre11
    rw [hv12] at pre20
    obtain ⟨T21, X21, e21, st21⟩ := getS2 X0 hx hZ hown (host := "") (Or.inl (hw _ (List.mem_of_getElem? (i := 13) rfl))) Via.refl e0 S_w_AFFIRMATIVE (g := (mkF m 24 #[.val (.int x0), .val (.int x1), .val (.int x2), .val (.int (1 : Int32)), .unset, .unset, .unset, .unset, .unset, .unset, .unset, .unset, .unset, .unset] [])) rfl (hb hby at_24)
    obtain ⟨cq22, kq22, q22a, q22b, q22c⟩ := isOf hZ e21 E_w_AFFIRMATIVE
    obtain ⟨_, _, ⟨T22, L22, k22, n22⟩, -, X22, ⟨Lc22, hQ22, l22, y22, z22⟩, st22⟩ := X21.virtualBack hx (y := (⟨"com/example/svratka/svratka/authz/DecisionStrategy", "grantsNeeded", "(I)I"⟩ : MethodName)) (z := (⟨"com/example/svratka/svratka/authz/DecisionStrategy", "grantsNeeded", "(I)I"⟩ : MethodName)) hown (mvT hZ (hw _ (List.mem_of_getElem? (i := 5) rfl))) (mvT hZ (hw _ (List.mem_of_getElem? (i := 6) rfl))) (notFace_of_selects (args := #[]) (mvT hZ (hw _ (List.mem_of_getElem? (i := 8) rfl)))) (mvT hZ (hw _ (List.mem_of_getElem? (i := 8) rfl))) (mvT hZ (hw _ (List.mem_of_getElem? (i := 7) rfl))) (by decide) (backOf (W := 0) (rm2 l Z a0 hw [] w_AFFIRMATIVE ((x1 &&& (1073741823 : Int32))) h0 n0 Z0 S_w_AFFIRMATIVE) hZ (hw _ (List.mem_of_getElem? (i := 9) rfl)) (hw _ (List.mem_of_getElem? (i := 2) rfl)) (by decide) (by decide)) q22a q22c (g := (mkF m 58 #[.val (.int x0), .val (.int x1), .val (.int x2), .val (.int (1 : Int32)), .val (.ref w_AFFIRMATIVE), .val (.int (x1 &&& (1073741823 : Int32))), .val (.int ((x2 &&& (2147483647 : Int32)) % ((x1 &&& (1073741823 : Int32)) + (1 : Int32)))), .unset, .unset, .unset, .unset, .unset, .unset, .unset] [(.int (x1 &&& (1073741823 : Int32))), (.ref w_AFFIRMATIVE)])) rfl (by rw [hml]; rfl) (Steps.refl _) (argsL := [(.int (x1 &&& (1073741823 : Int32)))]) (rest := []) (lenOf pd_0 rfl) rfl (by show 2 * 0 + _ ≤ _; exact Nat.le_of_eq rfl) (hb hby at_58) (fun _ _ => ⟨rfl, e21, (by decide : 0 + 0 ≤ _), (by decide : 0 + 0 ≤ _)⟩)
    dsimp only [Pt.U, Pt.locs, Pt.cells, Pt.slots] at X22 l22 y22 z22 st22 hQ22
    subst l22 y22 z22
    obtain ⟨rfl, N22q, e22⟩ := hQ22
    have N22 := Fr.app N0 N22q
    have pre23 : ∀ t, Steps p.tables e below (T22.setTop (mkF m 127 #[.val (.int x0), .val (.int x1), .val (.int x2), .val (.int (1 : Int32)), .val (.ref w_AFFIRMATIVE), .val (.int (x1 &&& (1073741823 : Int32))), .val (.int ((x2 &&& (2147483647 : Int32)) % ((x1 &&& (1073741823 : Int32)) + (1 : Int32)))), .val (.long (1 : Int64)), .second, .val (.long ((x1 &&& (1073741823 : Int32)).toInt64)), .second, .val (.int (1 : Int32)), .unset, .unset] [(.int (1 : Int32)), (.int ((x2 &&& (2147483647 : Int32)) % ((x1 &&& (1073741823 : Int32)) + (1 : Int32))))])) t → Steps p.tables e below (s₁.setTop (entryFrame m #[(.int x0), (.int x1), (.int x2)] maxLocals)) t := fun t kk => pre20 t (by
      show Steps p.tables e below (s₁.setTop (mkF m 6 #[.val (.int x0), .val (.int x1), .val (.int x2), .unset, .unset, .unset, .unset, .unset, .unset, .unset, .unset, .unset, .unset, .unset] [(.int (1 : Int32))])) _
      refine XS.istoreN X0.here hx rfl (hb hby at_6) rfl (l' := #[.val (.int x0), .val (.int x1), .val (.int x2), .val (.int (1 : Int32)), .unset, .unset, .unset, .unset, .unset, .unset, .unset, .unset, .unset, .unset]) rfl ?_
      show Steps p.tables e below (s₁.setTop (mkF m 7 #[.val (.int x0), .val (.int x1), .val (.int x2), .val (.int (1 : Int32)), .unset, .unset, .unset, .unset, .unset, .unset, .unset, .unset, .unset, .unset] [])) _
      refine XS.iloadN X0.here hx rfl (hb hby at_7) rfl ?_
      show Steps p.tables e below (s₁.setTop (mkF m 8 #[.val (.int x0), .val (.int x1), .val (.int x2), .val (.int (1 : Int32)), .unset, .unset, .unset, .unset, .unset, .unset, .unset, .unset, .unset, .unset] [(.int (1 : Int32))])) _
      refine XS.ifYes X0.here hx rfl (pc0 := 8) (pc' := 19) rfl (hb hby at_8) rfl ((if0 _ _).trans (feq ((by decide) : ¬ ((1 : Int32) = (0 : Int32)))).2) (by decide) (by decide) ?_
      show Steps p.tables e below (s₁.setTop (mkF m 19 #[.val (.int x0), .val (.int x1), .val (.int x2), .val (.int (1 : Int32)), .unset, .unset, .unset, .unset, .unset, .unset, .unset, .unset, .unset, .unset] [])) _
      refine XS.iloadN X0.here hx rfl (hb hby at_19) rfl ?_
      show Steps p.tables e below (s₁.setTop (mkF m 20 #[.val (.int x0), .val (.int x1), .val (.int x2), .val (.int (1 : Int32)), .unset, .unset, .unset, .unset, .unset, .unset, .unset, .unset, .unset, .unset] [(.int (1 : Int32))])) _
      refine XS.iconst X0.here hx rfl (hb hby at_20) ?_
      show Steps p.tables e below (s₁.setTop (mkF m 21 #[.val (.int x0), .val (.int x1), .val (.int x2), .val (.int (1 : Int32)), .unset, .unset, .unset, .unset, .unset, .unset, .unset, .unset, .unset, .unset] [(.int (1 : Int32)), (.int (1 : Int32))])) _
      refine XS.icmpNo X0.here hx rfl (hb hby at_21) rfl (teq ((by decide) : (1 : Int32) = (1 : Int32))).2 ?_
      show Steps p.tables e below (s₁.setTop (mkF m 24 #[.val (.int x0), .val (.int x1), .val (.int x2), .val (.int (1 : Int32)), .unset, .unset, .unset, .unset, .unset, .unset, .unset, .unset, .unset, .unset] [])) _
      refine st21 _ ?_
      show Steps p.tables e below (T21.setTop (mkF m 27 #[.val (.int x0), .val (.int x1), .val (.int x2), .val (.int (1 : Int32)), .unset, .unset, .unset, .unset, .unset, .unset, .unset, .unset, .unset, .unset] [(.ref w_AFFIRMATIVE)])) _
      refine XS.astore X21.here hx rfl (hb hby at_27) rfl rfl (l' := #[.val (.int x0), .val (.int x1), .val (.int x2), .val (.int (1 : Int32)), .val (.ref w_AFFIRMATIVE), .unset, .unset, .unset, .unset, .unset, .unset, .unset, .unset, .unset]) rfl ?_
      show Steps p.tables e below (T21.setTop (mkF m 29 #[.val (.int x0), .val (.int x1), .val (.int x2), .val (.int (1 : Int32)), .val (.ref w_AFFIRMATIVE), .unset, .unset, .unset, .unset, .unset, .unset, .unset, .unset, .unset] [])) _
      refine XS.goto X21.here hx rfl (pc0 := 29) (pc' := 37) rfl (hb hby at_29) (by decide) (by decide) ?_
      show Steps p.tables e below (T21.setTop (mkF m 37 #[.val (.int x0), .val (.int x1), .val (.int x2), .val (.int (1 : Int32)), .val (.ref w_AFFIRMATIVE), .unset, .unset, .unset, .unset, .unset, .unset, .unset, .unset, .unset] [])) _
      refine XS.iloadN X21.here hx rfl (hb hby at_37) rfl ?_
      show Steps p.tables e below (T21.setTop (mkF m 38 #[.val (.int x0), .val (.int x1), .val (.int x2), .val (.int (1 : Int32)), .val (.ref w_AFFIRMATIVE), .unset, .unset, .unset, .unset, .unset, .unset, .unset, .unset, .unset] [(.int x1)])) _
      refine X21.ldcInt hx hown (mvT hZ (hw _ (List.mem_of_getElem? (i := 4) rfl))) (g := (mkF m 38 #[.val (.int x0), .val (.int x1), .val (.int x2), .val (.int (1 : Int32)), .val (.ref w_AFFIRMATIVE), .unset, .unset, .unset, .unset, .unset, .unset, .unset, .unset, .unset] [(.int x1)])) rfl (hb hby at_38) _ ?_
      show Steps p.tables e below (T21.setTop (mkF m 40 #[.val (.int x0), .val (.int x1), .val (.int x2), .val (.int (1 : Int32)), .val (.ref w_AFFIRMATIVE), .unset, .unset, .unset, .unset, .unset, .unset, .unset, .unset, .unset] [(.int (1073741823 : Int32)), (.int x1)])) _
      refine XS.iand X21.here hx rfl (hb hby at_40) rfl ?_
      show Steps p.tables e below (T21.setTop (mkF m 41 #[.val (.int x0), .val (.int x1), .val (.int x2), .val (.int (1 : Int32)), .val (.ref w_AFFIRMATIVE), .unset, .unset, .unset, .unset, .unset, .unset, .unset, .unset, .unset] [(.int (x1 &&& (1073741823 : Int32)))])) _
      refine XS.istore X21.here hx rfl (hb hby at_41) rfl (l' := #[.val (.int x0), .val (.int x1), .val (.int x2), .val (.int (1 : Int32)), .val (.ref w_AFFIRMATIVE), .val (.int (x1 &&& (1073741823 : Int32))), .unset, .unset, .unset, .unset, .unset, .unset, .unset, .unset]) rfl ?_
      show Steps p.tables e below (T21.setTop (mkF m 43 #[.val (.int x0), .val (.int x1), .val (.int x2), .val (.int (1 : Int32)), .val (.ref w_AFFIRMATIVE), .val (.int (x1 &&& (1073741823 : Int32))), .unset, .unset, .unset, .unset, .unset, .unset, .unset, .unset] [])) _
      refine XS.iloadN X21.here hx rfl (hb hby at_43) rfl ?_
      show Steps p.tables e below (T21.setTop (mkF m 44 #[.val (.int x0), .val (.int x1), .val (.int x2), .val (.int (1 : Int32)), .val (.ref w_AFFIRMATIVE), .val (.int (x1 &&& (1073741823 : Int32))), .unset, .unset, .unset, .unset, .unset, .unset, .unset, .unset] [(.int x2)])) _
      refine X21.ldcInt hx hown (mvT hZ (hw _ (List.mem_of_getElem? (i := 0) rfl))) (g := (mkF m 44 #[.val (.int x0), .val (.int x1), .val (.int x2), .val (.int (1 : Int32)), .val (.ref w_AFFIRMATIVE), .val (.int (x1 &&& (1073741823 : Int32))), .unset, .unset, .unset, .unset, .unset, .unset, .unset, .unset] [(.int x2)])) rfl (hb hby at_44) _ ?_
      show Steps p.tables e below (T21.setTop (mkF m 46 #[.val (.int x0), .val (.int x1), .val (.int x2), .val (.int (1 : Int32)), .val (.ref w_AFFIRMATIVE), .val (.int (x1 &&& (1073741823 : Int32))), .unset, .unset, .unset, .unset, .unset, .unset, .unset, .unset] [(.int (2147483647 : Int32)), (.int x2)])) _
      refine XS.iand X21.here hx rfl (hb hby at_46) rfl ?_
      show Steps p.tables e below (T21.setTop (mkF m 47 #[.val (.int x0), .val (.int x1), .val (.int x2), .val (.int (1 : Int32)), .val (.ref w_AFFIRMATIVE), .val (.int (x1 &&& (1073741823 : Int32))), .unset, .unset, .unset, .unset, .unset, .unset, .unset, .unset] [(.int (x2 &&& (2147483647 : Int32)))])) _
      refine XS.iload X21.here hx rfl (hb hby at_47) rfl ?_
      show Steps p.tables e below (T21.setTop (mkF m 49 #[.val (.int x0), .val (.int x1), .val (.int x2), .val (.int (1 : Int32)), .val (.ref w_AFFIRMATIVE), .val (.int (x1 &&& (1073741823 : Int32))), .unset, .unset, .unset, .unset, .unset, .unset, .unset, .unset] [(.int (x1 &&& (1073741823 : Int32))), (.int (x2 &&& (2147483647 : Int32)))])) _
      refine XS.iconst X21.here hx rfl (hb hby at_49) ?_
      show Steps p.tables e below (T21.setTop (mkF m 50 #[.val (.int x0), .val (.int x1), .val (.int x2), .val (.int (1 : Int32)), .val (.ref w_AFFIRMATIVE), .val (.int (x1 &&& (1073741823 : Int32))), .unset, .unset, .unset, .unset, .unset, .unset, .unset, .unset] [(.int (1 : Int32)), (.int (x1 &&& (1073741823 : Int32))), (.int (x2 &&& (2147483647 : Int32)))])) _
      refine XS.iadd X21.here hx rfl (hb hby at_50) rfl ?_
      show Steps p.tables e below (T21.setTop (mkF m 51 #[.val (.int x0), .val (.int x1), .val (.int x2), .val (.int (1 : Int32)), .val (.ref w_AFFIRMATIVE), .val (.int (x1 &&& (1073741823 : Int32))), .unset, .unset, .unset, .unset, .unset, .unset, .unset, .unset] [(.int ((x1 &&& (1073741823 : Int32)) + (1 : Int32))), (.int (x2 &&& (2147483647 : Int32)))])) _
      refine iremM X21 hx rfl (hb hby at_51) rfl (own_ar0 x1) ?_
      show Steps p.tables e below (T21.setTop (mkF m 52 #[.val (.int x0), .val (.int x1), .val (.int x2), .val (.int (1 : Int32)), .val (.ref w_AFFIRMATIVE), .val (.int (x1 &&& (1073741823 : Int32))), .unset, .unset, .unset, .unset, .unset, .unset, .unset, .unset] [(.int ((x2 &&& (2147483647 : Int32)) % ((x1 &&& (1073741823 : Int32)) + (1 : Int32))))])) _
      refine XS.istore X21.here hx rfl (hb hby at_52) rfl (l' := #[.val (.int x0), .val (.int x1), .val (.int x2), .val (.int (1 : Int32)), .val (.ref w_AFFIRMATIVE), .val (.int (x1 &&& (1073741823 : Int32))), .val (.int ((x2 &&& (2147483647 : Int32)) % ((x1 &&& (1073741823 : Int32)) + (1 : Int32)))), .unset, .unset, .unset, .unset, .unset, .unset, .unset]) rfl ?_
      show Steps p.tables e below (T21.setTop (mkF m 54 #[.val (.int x0), .val (.int x1), .val (.int x2), .val (.int (1 : Int32)), .val (.ref w_AFFIRMATIVE), .val (.int (x1 &&& (1073741823 : Int32))), .val (.int ((x2 &&& (2147483647 : Int32)) % ((x1 &&& (1073741823 : Int32)) + (1 : Int32)))), .unset, .unset, .unset, .unset, .unset, .unset, .unset] [])) _
      refine XS.aload X21.here hx rfl (hb hby at_54) rfl rfl ?_
      show Steps p.tables e below (T21.setTop (mkF m 56 #[.val (.int x0), .val (.int x1), .val (.int x2), .val (.int (1 : Int32)), .val (.ref w_AFFIRMATIVE), .val (.int (x1 &&& (1073741823 : Int32))), .val (.int ((x2 &&& (2147483647 : Int32)) % ((x1 &&& (1073741823 : Int32)) + (1 : Int32)))), .unset, .unset, .unset, .unset, .unset, .unset, .unset] [(.ref w_AFFIRMATIVE)])) _
      refine XS.iload X21.here hx rfl (hb hby at_56) rfl ?_
      show Steps p.tables e below (T21.setTop (mkF m 58 #[.val (.int x0), .val (.int x1), .val (.int x2), .val (.int (1 : Int32)), .val (.ref w_AFFIRMATIVE), .val (.int (x1 &&& (1073741823 : Int32))), .val (.int ((x2 &&& (2147483647 : Int32)) % ((x1 &&& (1073741823 : Int32)) + (1 : Int32)))), .unset, .unset, .unset, .unset, .unset, .unset, .unset] [(.int (x1 &&& (1073741823 : Int32))), (.ref w_AFFIRMATIVE)])) _
      refine st22.trans ?_
      show Steps p.tables e below (T22.setTop (mkF m 61 #[.val (.int x0), .val (.int x1), .val (.int x2), .val (.int (1 : Int32)), .val (.ref w_AFFIRMATIVE), .val (.int (x1 &&& (1073741823 : Int32))), .val (.int ((x2 &&& (2147483647 : Int32)) % ((x1 &&& (1073741823 : Int32)) + (1 : Int32)))), .unset, .unset, .unset, .unset, .unset, .unset, .unset] [(.int (1 : Int32))])) _
      refine XS.i2l X22.here hx rfl (hb hby at_61) rfl ?_
      show Steps p.tables e below (T22.setTop (mkF m 62 #[.val (.int x0), .val (.int x1), .val (.int x2), .val (.int (1 : Int32)), .val (.ref w_AFFIRMATIVE), .val (.int (x1 &&& (1073741823 : Int32))), .val (.int ((x2 &&& (2147483647 : Int32)) % ((x1 &&& (1073741823 : Int32)) + (1 : Int32)))), .unset, .unset, .unset, .unset, .unset, .unset, .unset] [(.long (1 : Int64))])) _
      refine XS.lstore X22.here hx rfl (hb hby at_62) rfl (l' := #[.val (.int x0), .val (.int x1), .val (.int x2), .val (.int (1 : Int32)), .val (.ref w_AFFIRMATIVE), .val (.int (x1 &&& (1073741823 : Int32))), .val (.int ((x2 &&& (2147483647 : Int32)) % ((x1 &&& (1073741823 : Int32)) + (1 : Int32)))), .val (.long (1 : Int64)), .second, .unset, .unset, .unset, .unset, .unset]) rfl ?_
      show Steps p.tables e below (T22.setTop (mkF m 64 #[.val (.int x0), .val (.int x1), .val (.int x2), .val (.int (1 : Int32)), .val (.ref w_AFFIRMATIVE), .val (.int (x1 &&& (1073741823 : Int32))), .val (.int ((x2 &&& (2147483647 : Int32)) % ((x1 &&& (1073741823 : Int32)) + (1 : Int32)))), .val (.long (1 : Int64)), .second, .unset, .unset, .unset, .unset, .unset] [])) _
      refine XS.iload X22.here hx rfl (hb hby at_64) rfl ?_
      show Steps p.tables e below (T22.setTop (mkF m 66 #[.val (.int x0), .val (.int x1), .val (.int x2), .val (.int (1 : Int32)), .val (.ref w_AFFIRMATIVE), .val (.int (x1 &&& (1073741823 : Int32))), .val (.int ((x2 &&& (2147483647 : Int32)) % ((x1 &&& (1073741823 : Int32)) + (1 : Int32)))), .val (.long (1 : Int64)), .second, .unset, .unset, .unset, .unset, .unset] [(.int (x1 &&& (1073741823 : Int32)))])) _
      refine XS.i2l X22.here hx rfl (hb hby at_66) rfl ?_
      show Steps p.tables e below (T22.setTop (mkF m 67 #[.val (.int x0), .val (.int x1), .val (.int x2), .val (.int (1 : Int32)), .val (.ref w_AFFIRMATIVE), .val (.int (x1 &&& (1073741823 : Int32))), .val (.int ((x2 &&& (2147483647 : Int32)) % ((x1 &&& (1073741823 : Int32)) + (1 : Int32)))), .val (.long (1 : Int64)), .second, .unset, .unset, .unset, .unset, .unset] [(.long ((x1 &&& (1073741823 : Int32)).toInt64))])) _
      refine XS.lstore X22.here hx rfl (hb hby at_67) rfl (l' := #[.val (.int x0), .val (.int x1), .val (.int x2), .val (.int (1 : Int32)), .val (.ref w_AFFIRMATIVE), .val (.int (x1 &&& (1073741823 : Int32))), .val (.int ((x2 &&& (2147483647 : Int32)) % ((x1 &&& (1073741823 : Int32)) + (1 : Int32)))), .val (.long (1 : Int64)), .second, .val (.long ((x1 &&& (1073741823 : Int32)).toInt64)), .second, .unset, .unset, .unset]) rfl ?_
      show Steps p.tables e below (T22.setTop (mkF m 69 #[.val (.int x0), .val (.int x1), .val (.int x2), .val (.int (1 : Int32)), .val (.ref w_AFFIRMATIVE), .val (.int (x1 &&& (1073741823 : Int32))), .val (.int ((x2 &&& (2147483647 : Int32)) % ((x1 &&& (1073741823 : Int32)) + (1 : Int32)))), .val (.long (1 : Int64)), .second, .val (.long ((x1 &&& (1073741823 : Int32)).toInt64)), .second, .unset, .unset, .unset] [])) _
      refine XS.iloadN X22.here hx rfl (hb hby at_69) rfl ?_
      show Steps p.tables e below (T22.setTop (mkF m 70 #[.val (.int x0), .val (.int x1), .val (.int x2), .val (.int (1 : Int32)), .val (.ref w_AFFIRMATIVE), .val (.int (x1 &&& (1073741823 : Int32))), .val (.int ((x2 &&& (2147483647 : Int32)) % ((x1 &&& (1073741823 : Int32)) + (1 : Int32)))), .val (.long (1 : Int64)), .second, .val (.long ((x1 &&& (1073741823 : Int32)).toInt64)), .second, .unset, .unset, .unset] [(.int (1 : Int32))])) _
      refine XS.ifYes X22.here hx rfl (pc0 := 70) (pc' := 105) rfl (hb hby at_70) rfl ((if0 _ _).trans (feq ((by decide) : ¬ ((1 : Int32) = (0 : Int32)))).2) (by decide) (by decide) ?_
      show Steps p.tables e below (T22.setTop (mkF m 105 #[.val (.int x0), .val (.int x1), .val (.int x2), .val (.int (1 : Int32)), .val (.ref w_AFFIRMATIVE), .val (.int (x1 &&& (1073741823 : Int32))), .val (.int ((x2 &&& (2147483647 : Int32)) % ((x1 &&& (1073741823 : Int32)) + (1 : Int32)))), .val (.long (1 : Int64)), .second, .val (.long ((x1 &&& (1073741823 : Int32)).toInt64)), .second, .unset, .unset, .unset] [])) _
      refine XS.iloadN X22.here hx rfl (hb hby at_105) rfl ?_
      show Steps p.tables e below (T22.setTop (mkF m 106 #[.val (.int x0), .val (.int x1), .val (.int x2), .val (.int (1 : Int32)), .val (.ref w_AFFIRMATIVE), .val (.int (x1 &&& (1073741823 : Int32))), .val (.int ((x2 &&& (2147483647 : Int32)) % ((x1 &&& (1073741823 : Int32)) + (1 : Int32)))), .val (.long (1 : Int64)), .second, .val (.long ((x1 &&& (1073741823 : Int32)).toInt64)), .second, .unset, .unset, .unset] [(.int (1 : Int32))])) _
      refine XS.iconst X22.here hx rfl (hb hby at_106) ?_
      show Steps p.tables e below (T22.setTop (mkF m 107 #[.val (.int x0), .val (.int x1), .val (.int x2), .val (.int (1 : Int32)), .val (.ref w_AFFIRMATIVE), .val (.int (x1 &&& (1073741823 : Int32))), .val (.int ((x2 &&& (2147483647 : Int32)) % ((x1 &&& (1073741823 : Int32)) + (1 : Int32)))), .val (.long (1 : Int64)), .second, .val (.long ((x1 &&& (1073741823 : Int32)).toInt64)), .second, .unset, .unset, .unset] [(.int (1 : Int32)), (.int (1 : Int32))])) _
      refine XS.icmpNo X22.here hx rfl (hb hby at_107) rfl (teq ((by decide) : (1 : Int32) = (1 : Int32))).2 ?_
      show Steps p.tables e below (T22.setTop (mkF m 110 #[.val (.int x0), .val (.int x1), .val (.int x2), .val (.int (1 : Int32)), .val (.ref w_AFFIRMATIVE), .val (.int (x1 &&& (1073741823 : Int32))), .val (.int ((x2 &&& (2147483647 : Int32)) % ((x1 &&& (1073741823 : Int32)) + (1 : Int32)))), .val (.long (1 : Int64)), .second, .val (.long ((x1 &&& (1073741823 : Int32)).toInt64)), .second, .unset, .unset, .unset] [])) _
      refine XS.lload X22.here hx rfl (hb hby at_110) rfl ?_
      show Steps p.tables e below (T22.setTop (mkF m 112 #[.val (.int x0), .val (.int x1), .val (.int x2), .val (.int (1 : Int32)), .val (.ref w_AFFIRMATIVE), .val (.int (x1 &&& (1073741823 : Int32))), .val (.int ((x2 &&& (2147483647 : Int32)) % ((x1 &&& (1073741823 : Int32)) + (1 : Int32)))), .val (.long (1 : Int64)), .second, .val (.long ((x1 &&& (1073741823 : Int32)).toInt64)), .second, .unset, .unset, .unset] [(.long (1 : Int64))])) _
      refine XS.lconst X22.here hx rfl (hb hby at_112) ?_
      show Steps p.tables e below (T22.setTop (mkF m 113 #[.val (.int x0), .val (.int x1), .val (.int x2), .val (.int (1 : Int32)), .val (.ref w_AFFIRMATIVE), .val (.int (x1 &&& (1073741823 : Int32))), .val (.int ((x2 &&& (2147483647 : Int32)) % ((x1 &&& (1073741823 : Int32)) + (1 : Int32)))), .val (.long (1 : Int64)), .second, .val (.long ((x1 &&& (1073741823 : Int32)).toInt64)), .second, .unset, .unset, .unset] [(.long (1 : Int64)), (.long (1 : Int64))])) _
      refine XS.lcmp X22.here hx rfl (hb hby at_113) rfl ?_
      show Steps p.tables e below (T22.setTop (mkF m 114 #[.val (.int x0), .val (.int x1), .val (.int x2), .val (.int (1 : Int32)), .val (.ref w_AFFIRMATIVE), .val (.int (x1 &&& (1073741823 : Int32))), .val (.int ((x2 &&& (2147483647 : Int32)) % ((x1 &&& (1073741823 : Int32)) + (1 : Int32)))), .val (.long (1 : Int64)), .second, .val (.long ((x1 &&& (1073741823 : Int32)).toInt64)), .second, .unset, .unset, .unset] [(.int (0 : Int32))])) _
      refine XS.ifNo X22.here hx rfl (hb hby at_114) rfl ((if0 _ _).trans (teq ((by decide) : (0 : Int32) = (0 : Int32))).2) ?_
      show Steps p.tables e below (T22.setTop (mkF m 117 #[.val (.int x0), .val (.int x1), .val (.int x2), .val (.int (1 : Int32)), .val (.ref w_AFFIRMATIVE), .val (.int (x1 &&& (1073741823 : Int32))), .val (.int ((x2 &&& (2147483647 : Int32)) % ((x1 &&& (1073741823 : Int32)) + (1 : Int32)))), .val (.long (1 : Int64)), .second, .val (.long ((x1 &&& (1073741823 : Int32)).toInt64)), .second, .unset, .unset, .unset] [])) _
      refine XS.iconst X22.here hx rfl (hb hby at_117) ?_
      show Steps p.tables e below (T22.setTop (mkF m 118 #[.val (.int x0), .val (.int x1), .val (.int x2), .val (.int (1 : Int32)), .val (.ref w_AFFIRMATIVE), .val (.int (x1 &&& (1073741823 : Int32))), .val (.int ((x2 &&& (2147483647 : Int32)) % ((x1 &&& (1073741823 : Int32)) + (1 : Int32)))), .val (.long (1 : Int64)), .second, .val (.long ((x1 &&& (1073741823 : Int32)).toInt64)), .second, .unset, .unset, .unset] [(.int (1 : Int32))])) _
      refine XS.goto X22.here hx rfl (pc0 := 118) (pc' := 122) rfl (hb hby at_118) (by decide) (by decide) ?_
      show Steps p.tables e below (T22.setTop (mkF m 122 #[.val (.int x0), .val (.int x1), .val (.int x2), .val (.int (1 : Int32)), .val (.ref w_AFFIRMATIVE), .val (.int (x1 &&& (1073741823 : Int32))), .val (.int ((x2 &&& (2147483647 : Int32)) % ((x1 &&& (1073741823 : Int32)) + (1 : Int32)))), .val (.long (1 : Int64)), .second, .val (.long ((x1 &&& (1073741823 : Int32)).toInt64)), .second, .unset, .unset, .unset] [(.int (1 : Int32))])) _
      refine XS.istore X22.here hx rfl (hb hby at_122) rfl (l' := #[.val (.int x0), .val (.int x1), .val (.int x2), .val (.int (1 : Int32)), .val (.ref w_AFFIRMATIVE), .val (.int (x1 &&& (1073741823 : Int32))), .val (.int ((x2 &&& (2147483647 : Int32)) % ((x1 &&& (1073741823 : Int32)) + (1 : Int32)))), .val (.long (1 : Int64)), .second, .val (.long ((x1 &&& (1073741823 : Int32)).toInt64)), .second, .val (.int (1 : Int32)), .unset, .unset]) rfl ?_
      show Steps p.tables e below (T22.setTop (mkF m 124 #[.val (.int x0), .val (.int x1), .val (.int x2), .val (.int (1 : Int32)), .val (.ref w_AFFIRMATIVE), .val (.int (x1 &&& (1073741823 : Int32))), .val (.int ((x2 &&& (2147483647 : Int32)) % ((x1 &&& (1073741823 : Int32)) + (1 : Int32)))), .val (.long (1 : Int64)), .second, .val (.long ((x1 &&& (1073741823 : Int32)).toInt64)), .second, .val (.int (1 : Int32)), .unset, .unset] [])) _
      refine XS.iload X22.here hx rfl (hb hby at_124) rfl ?_
      show Steps p.tables e below (T22.setTop (mkF m 126 #[.val (.int x0), .val (.int x1), .val (.int x2), .val (.int (1 : Int32)), .val (.ref w_AFFIRMATIVE), .val (.int (x1 &&& (1073741823 : Int32))), .val (.int ((x2 &&& (2147483647 : Int32)) % ((x1 &&& (1073741823 : Int32)) + (1 : Int32)))), .val (.long (1 : Int64)), .second, .val (.long ((x1 &&& (1073741823 : Int32)).toInt64)), .second, .val (.int (1 : Int32)), .unset, .unset] [(.int ((x2 &&& (2147483647 : Int32)) % ((x1 &&& (1073741823 : Int32)) + (1 : Int32))))])) _
      refine XS.iconst X22.here hx rfl (hb hby at_126) ?_
      exact kk)
    by_cases hc24 : ((x2 &&& (2147483647 : Int32)) % ((x1 &&& (1073741823 : Int32)) + (1 : Int32))) < (1 : Int32)
    ·
      have pre25 : ∀ t, Steps p.tables e below (T22.setTop (mkF m 223 #[.val (.int x0), .val (.int x1), .val (.int x2), .val (.int (1 : Int32)), .val (.ref w_AFFIRMATIVE), .val (.int (x1 &&& (1073741823 : Int32))), .val (.int ((x2 &&& (2147483647 : Int32)) % ((x1 &&& (1073741823 : Int32)) + (1 : Int32)))), .val (.long (1 : Int64)), .second, .val (.long ((x1 &&& (1073741823 : Int32)).toInt64)), .second, .val (.int (1 : Int32)), .val (.int (0 : Int32)), .val (.int (0 : Int32))] [(.int (1 : Int32))])) t → Steps p.tables e below (s₁.setTop (entryFrame m #[(.int x0), (.int x1), (.int x2)] maxLocals)) t := fun t kk => pre23 t (by
        show Steps p.tables e below (T22.setTop (mkF m 127 #[.val (.int x0), .val (.int x1), .val (.int x2), .val (.int (1 : Int32)), .val (.ref w_AFFIRMATIVE), .val (.int (x1 &&& (1073741823 : Int32))), .val (.int ((x2 &&& (2147483647 : Int32)) % ((x1 &&& (1073741823 : Int32)) + (1 : Int32)))), .val (.long (1 : Int64)), .second, .val (.long ((x1 &&& (1073741823 : Int32)).toInt64)), .second, .val (.int (1 : Int32)), .unset, .unset] [(.int (1 : Int32)), (.int ((x2 &&& (2147483647 : Int32)) % ((x1 &&& (1073741823 : Int32)) + (1 : Int32))))])) _
        refine XS.icmpYes X22.here hx rfl (pc0 := 127) (pc' := 134) rfl (hb hby at_127) rfl (tlt (hc24 : ((x2 &&& (2147483647 : Int32)) % ((x1 &&& (1073741823 : Int32)) + (1 : Int32))) < (1 : Int32))).1 (by decide) (by decide) ?_
        show Steps p.tables e below (T22.setTop (mkF m 134 #[.val (.int x0), .val (.int x1), .val (.int x2), .val (.int (1 : Int32)), .val (.ref w_AFFIRMATIVE), .val (.int (x1 &&& (1073741823 : Int32))), .val (.int ((x2 &&& (2147483647 : Int32)) % ((x1 &&& (1073741823 : Int32)) + (1 : Int32)))), .val (.long (1 : Int64)), .second, .val (.long ((x1 &&& (1073741823 : Int32)).toInt64)), .second, .val (.int (1 : Int32)), .unset, .unset] [])) _
        refine XS.iconst X22.here hx rfl (hb hby at_134) ?_
        show Steps p.tables e below (T22.setTop (mkF m 135 #[.val (.int x0), .val (.int x1), .val (.int x2), .val (.int (1 : Int32)), .val (.ref w_AFFIRMATIVE), .val (.int (x1 &&& (1073741823 : Int32))), .val (.int ((x2 &&& (2147483647 : Int32)) % ((x1 &&& (1073741823 : Int32)) + (1 : Int32)))), .val (.long (1 : Int64)), .second, .val (.long ((x1 &&& (1073741823 : Int32)).toInt64)), .second, .val (.int (1 : Int32)), .unset, .unset] [(.int (0 : Int32))])) _
        refine XS.istore X22.here hx rfl (hb hby at_135) rfl (l' := #[.val (.int x0), .val (.int x1), .val (.int x2), .val (.int (1 : Int32)), .val (.ref w_AFFIRMATIVE), .val (.int (x1 &&& (1073741823 : Int32))), .val (.int ((x2 &&& (2147483647 : Int32)) % ((x1 &&& (1073741823 : Int32)) + (1 : Int32)))), .val (.long (1 : Int64)), .second, .val (.long ((x1 &&& (1073741823 : Int32)).toInt64)), .second, .val (.int (1 : Int32)), .val (.int (0 : Int32)), .unset]) rfl ?_
        show Steps p.tables e below (T22.setTop (mkF m 137 #[.val (.int x0), .val (.int x1), .val (.int x2), .val (.int (1 : Int32)), .val (.ref w_AFFIRMATIVE), .val (.int (x1 &&& (1073741823 : Int32))), .val (.int ((x2 &&& (2147483647 : Int32)) % ((x1 &&& (1073741823 : Int32)) + (1 : Int32)))), .val (.long (1 : Int64)), .second, .val (.long ((x1 &&& (1073741823 : Int32)).toInt64)), .second, .val (.int (1 : Int32)), .val (.int (0 : Int32)), .unset] [])) _
        refine XS.goto X22.here hx rfl (pc0 := 137) (pc' := 190) rfl (hb hby at_137) (by decide) (by decide) ?_
        show Steps p.tables e below (T22.setTop (mkF m 190 #[.val (.int x0), .val (.int x1), .val (.int x2), .val (.int (1 : Int32)), .val (.ref w_AFFIRMATIVE), .val (.int (x1 &&& (1073741823 : Int32))), .val (.int ((x2 &&& (2147483647 : Int32)) % ((x1 &&& (1073741823 : Int32)) + (1 : Int32)))), .val (.long (1 : Int64)), .second, .val (.long ((x1 &&& (1073741823 : Int32)).toInt64)), .second, .val (.int (1 : Int32)), .val (.int (0 : Int32)), .unset] [])) _
        refine XS.iload X22.here hx rfl (hb hby at_190) rfl ?_
        show Steps p.tables e below (T22.setTop (mkF m 192 #[.val (.int x0), .val (.int x1), .val (.int x2), .val (.int (1 : Int32)), .val (.ref w_AFFIRMATIVE), .val (.int (x1 &&& (1073741823 : Int32))), .val (.int ((x2 &&& (2147483647 : Int32)) % ((x1 &&& (1073741823 : Int32)) + (1 : Int32)))), .val (.long (1 : Int64)), .second, .val (.long ((x1 &&& (1073741823 : Int32)).toInt64)), .second, .val (.int (1 : Int32)), .val (.int (0 : Int32)), .unset] [(.int ((x2 &&& (2147483647 : Int32)) % ((x1 &&& (1073741823 : Int32)) + (1 : Int32))))])) _
        refine XS.i2l X22.here hx rfl (hb hby at_192) rfl ?_
        show Steps p.tables e below (T22.setTop (mkF m 193 #[.val (.int x0), .val (.int x1), .val (.int x2), .val (.int (1 : Int32)), .val (.ref w_AFFIRMATIVE), .val (.int (x1 &&& (1073741823 : Int32))), .val (.int ((x2 &&& (2147483647 : Int32)) % ((x1 &&& (1073741823 : Int32)) + (1 : Int32)))), .val (.long (1 : Int64)), .second, .val (.long ((x1 &&& (1073741823 : Int32)).toInt64)), .second, .val (.int (1 : Int32)), .val (.int (0 : Int32)), .unset] [(.long (((x2 &&& (2147483647 : Int32)) % ((x1 &&& (1073741823 : Int32)) + (1 : Int32))).toInt64))])) _
        refine XS.lload X22.here hx rfl (hb hby at_193) rfl ?_
        show Steps p.tables e below (T22.setTop (mkF m 195 #[.val (.int x0), .val (.int x1), .val (.int x2), .val (.int (1 : Int32)), .val (.ref w_AFFIRMATIVE), .val (.int (x1 &&& (1073741823 : Int32))), .val (.int ((x2 &&& (2147483647 : Int32)) % ((x1 &&& (1073741823 : Int32)) + (1 : Int32)))), .val (.long (1 : Int64)), .second, .val (.long ((x1 &&& (1073741823 : Int32)).toInt64)), .second, .val (.int (1 : Int32)), .val (.int (0 : Int32)), .unset] [(.long (1 : Int64)), (.long (((x2 &&& (2147483647 : Int32)) % ((x1 &&& (1073741823 : Int32)) + (1 : Int32))).toInt64))])) _
        refine XS.lcmp X22.here hx rfl (hb hby at_195) rfl ?_
        show Steps p.tables e below (T22.setTop (mkF m 196 #[.val (.int x0), .val (.int x1), .val (.int x2), .val (.int (1 : Int32)), .val (.ref w_AFFIRMATIVE), .val (.int (x1 &&& (1073741823 : Int32))), .val (.int ((x2 &&& (2147483647 : Int32)) % ((x1 &&& (1073741823 : Int32)) + (1 : Int32)))), .val (.long (1 : Int64)), .second, .val (.long ((x1 &&& (1073741823 : Int32)).toInt64)), .second, .val (.int (1 : Int32)), .val (.int (0 : Int32)), .unset] [(.int (lcmpW (((x2 &&& (2147483647 : Int32)) % ((x1 &&& (1073741823 : Int32)) + (1 : Int32))).toInt64) (1 : Int64)))])) _
        refine XS.ifYes X22.here hx rfl (pc0 := 196) (pc' := 203) rfl (hb hby at_196) rfl ((if0 _ _).trans (tlt ((own_ar4 x2 x1 hc24) : (lcmpW (((x2 &&& (2147483647 : Int32)) % ((x1 &&& (1073741823 : Int32)) + (1 : Int32))).toInt64) (1 : Int64)) < (0 : Int32))).1) (by decide) (by decide) ?_
        show Steps p.tables e below (T22.setTop (mkF m 203 #[.val (.int x0), .val (.int x1), .val (.int x2), .val (.int (1 : Int32)), .val (.ref w_AFFIRMATIVE), .val (.int (x1 &&& (1073741823 : Int32))), .val (.int ((x2 &&& (2147483647 : Int32)) % ((x1 &&& (1073741823 : Int32)) + (1 : Int32)))), .val (.long (1 : Int64)), .second, .val (.long ((x1 &&& (1073741823 : Int32)).toInt64)), .second, .val (.int (1 : Int32)), .val (.int (0 : Int32)), .unset] [])) _
        refine XS.iconst X22.here hx rfl (hb hby at_203) ?_
        show Steps p.tables e below (T22.setTop (mkF m 204 #[.val (.int x0), .val (.int x1), .val (.int x2), .val (.int (1 : Int32)), .val (.ref w_AFFIRMATIVE), .val (.int (x1 &&& (1073741823 : Int32))), .val (.int ((x2 &&& (2147483647 : Int32)) % ((x1 &&& (1073741823 : Int32)) + (1 : Int32)))), .val (.long (1 : Int64)), .second, .val (.long ((x1 &&& (1073741823 : Int32)).toInt64)), .second, .val (.int (1 : Int32)), .val (.int (0 : Int32)), .unset] [(.int (0 : Int32))])) _
        refine XS.istore X22.here hx rfl (hb hby at_204) rfl (l' := #[.val (.int x0), .val (.int x1), .val (.int x2), .val (.int (1 : Int32)), .val (.ref w_AFFIRMATIVE), .val (.int (x1 &&& (1073741823 : Int32))), .val (.int ((x2 &&& (2147483647 : Int32)) % ((x1 &&& (1073741823 : Int32)) + (1 : Int32)))), .val (.long (1 : Int64)), .second, .val (.long ((x1 &&& (1073741823 : Int32)).toInt64)), .second, .val (.int (1 : Int32)), .val (.int (0 : Int32)), .val (.int (0 : Int32))]) rfl ?_
        show Steps p.tables e below (T22.setTop (mkF m 206 #[.val (.int x0), .val (.int x1), .val (.int x2), .val (.int (1 : Int32)), .val (.ref w_AFFIRMATIVE), .val (.int (x1 &&& (1073741823 : Int32))), .val (.int ((x2 &&& (2147483647 : Int32)) % ((x1 &&& (1073741823 : Int32)) + (1 : Int32)))), .val (.long (1 : Int64)), .second, .val (.long ((x1 &&& (1073741823 : Int32)).toInt64)), .second, .val (.int (1 : Int32)), .val (.int (0 : Int32)), .val (.int (0 : Int32))] [])) _
        refine XS.iload X22.here hx rfl (hb hby at_206) rfl ?_
        show Steps p.tables e below (T22.setTop (mkF m 208 #[.val (.int x0), .val (.int x1), .val (.int x2), .val (.int (1 : Int32)), .val (.ref w_AFFIRMATIVE), .val (.int (x1 &&& (1073741823 : Int32))), .val (.int ((x2 &&& (2147483647 : Int32)) % ((x1 &&& (1073741823 : Int32)) + (1 : Int32)))), .val (.long (1 : Int64)), .second, .val (.long ((x1 &&& (1073741823 : Int32)).toInt64)), .second, .val (.int (1 : Int32)), .val (.int (0 : Int32)), .val (.int (0 : Int32))] [(.int (1 : Int32))])) _
        refine XS.ifNo X22.here hx rfl (hb hby at_208) rfl ((if0 _ _).trans (feq ((by decide) : ¬ ((1 : Int32) = (0 : Int32)))).1) ?_
        show Steps p.tables e below (T22.setTop (mkF m 211 #[.val (.int x0), .val (.int x1), .val (.int x2), .val (.int (1 : Int32)), .val (.ref w_AFFIRMATIVE), .val (.int (x1 &&& (1073741823 : Int32))), .val (.int ((x2 &&& (2147483647 : Int32)) % ((x1 &&& (1073741823 : Int32)) + (1 : Int32)))), .val (.long (1 : Int64)), .second, .val (.long ((x1 &&& (1073741823 : Int32)).toInt64)), .second, .val (.int (1 : Int32)), .val (.int (0 : Int32)), .val (.int (0 : Int32))] [])) _
        refine XS.iload X22.here hx rfl (hb hby at_211) rfl ?_
        show Steps p.tables e below (T22.setTop (mkF m 213 #[.val (.int x0), .val (.int x1), .val (.int x2), .val (.int (1 : Int32)), .val (.ref w_AFFIRMATIVE), .val (.int (x1 &&& (1073741823 : Int32))), .val (.int ((x2 &&& (2147483647 : Int32)) % ((x1 &&& (1073741823 : Int32)) + (1 : Int32)))), .val (.long (1 : Int64)), .second, .val (.long ((x1 &&& (1073741823 : Int32)).toInt64)), .second, .val (.int (1 : Int32)), .val (.int (0 : Int32)), .val (.int (0 : Int32))] [(.int (0 : Int32))])) _
        refine XS.iload X22.here hx rfl (hb hby at_213) rfl ?_
        show Steps p.tables e below (T22.setTop (mkF m 215 #[.val (.int x0), .val (.int x1), .val (.int x2), .val (.int (1 : Int32)), .val (.ref w_AFFIRMATIVE), .val (.int (x1 &&& (1073741823 : Int32))), .val (.int ((x2 &&& (2147483647 : Int32)) % ((x1 &&& (1073741823 : Int32)) + (1 : Int32)))), .val (.long (1 : Int64)), .second, .val (.long ((x1 &&& (1073741823 : Int32)).toInt64)), .second, .val (.int (1 : Int32)), .val (.int (0 : Int32)), .val (.int (0 : Int32))] [(.int (0 : Int32)), (.int (0 : Int32))])) _
        refine XS.icmpNo X22.here hx rfl (hb hby at_215) rfl (teq ((by decide) : (0 : Int32) = (0 : Int32))).2 ?_
        show Steps p.tables e below (T22.setTop (mkF m 218 #[.val (.int x0), .val (.int x1), .val (.int x2), .val (.int (1 : Int32)), .val (.ref w_AFFIRMATIVE), .val (.int (x1 &&& (1073741823 : Int32))), .val (.int ((x2 &&& (2147483647 : Int32)) % ((x1 &&& (1073741823 : Int32)) + (1 : Int32)))), .val (.long (1 : Int64)), .second, .val (.long ((x1 &&& (1073741823 : Int32)).toInt64)), .second, .val (.int (1 : Int32)), .val (.int (0 : Int32)), .val (.int (0 : Int32))] [])) _
        refine XS.iconst X22.here hx rfl (hb hby at_218) ?_
        show Steps p.tables e below (T22.setTop (mkF m 219 #[.val (.int x0), .val (.int x1), .val (.int x2), .val (.int (1 : Int32)), .val (.ref w_AFFIRMATIVE), .val (.int (x1 &&& (1073741823 : Int32))), .val (.int ((x2 &&& (2147483647 : Int32)) % ((x1 &&& (1073741823 : Int32)) + (1 : Int32)))), .val (.long (1 : Int64)), .second, .val (.long ((x1 &&& (1073741823 : Int32)).toInt64)), .second, .val (.int (1 : Int32)), .val (.int (0 : Int32)), .val (.int (0 : Int32))] [(.int (1 : Int32))])) _
        refine XS.goto X22.here hx rfl (pc0 := 219) (pc' := 223) rfl (hb hby at_219) (by decide) (by decide) ?_
        exact kk)
      obtain ⟨fs, hr, hrun, hended, hW, hsame⟩ := X22.leave (v := some (.int (1 : Int32))) (fun h => by rw [Bd.returns] at h; cases h)
      refine ⟨_, _, pre25 _ ?_, hrun, hended, _, _, rfl, ?_, ⟨_, rfl⟩, hW, hsame.mono (by decide) (by decide)⟩
      · exact retN X22 hx (t := .boolean) Bd.returns (by simp) (hb hby at_223) hr
      · exact ⟨rfl, N22⟩
    ·
      have pre26 : ∀ t, Steps p.tables e below (T22.setTop (mkF m 223 #[.val (.int x0), .val (.int x1), .val (.int x2), .val (.int (1 : Int32)), .val (.ref w_AFFIRMATIVE), .val (.int (x1 &&& (1073741823 : Int32))), .val (.int ((x2 &&& (2147483647 : Int32)) % ((x1 &&& (1073741823 : Int32)) + (1 : Int32)))), .val (.long (1 : Int64)), .second, .val (.long ((x1 &&& (1073741823 : Int32)).toInt64)), .second, .val (.int (1 : Int32)), .val (.int (1 : Int32)), .val (.int (1 : Int32))] [(.int (1 : Int32))])) t → Steps p.tables e below (s₁.setTop (entryFrame m #[(.int x0), (.int x1), (.int x2)] maxLocals)) t := fun t kk => pre23 t (by
        show Steps p.tables e below (T22.setTop (mkF m 127 #[.val (.int x0), .val (.int x1), .val (.int x2), .val (.int (1 : Int32)), .val (.ref w_AFFIRMATIVE), .val (.int (x1 &&& (1073741823 : Int32))), .val (.int ((x2 &&& (2147483647 : Int32)) % ((x1 &&& (1073741823 : Int32)) + (1 : Int32)))), .val (.long (1 : Int64)), .second, .val (.long ((x1 &&& (1073741823 : Int32)).toInt64)), .second, .val (.int (1 : Int32)), .unset, .unset] [(.int (1 : Int32)), (.int ((x2 &&& (2147483647 : Int32)) % ((x1 &&& (1073741823 : Int32)) + (1 : Int32))))])) _
        refine XS.icmpNo X22.here hx rfl (hb hby at_127) rfl (flt (hc24 : ¬ (((x2 &&& (2147483647 : Int32)) % ((x1 &&& (1073741823 : Int32)) + (1 : Int32))) < (1 : Int32)))).1 ?_
        show Steps p.tables e below (T22.setTop (mkF m 130 #[.val (.int x0), .val (.int x1), .val (.int x2), .val (.int (1 : Int32)), .val (.ref w_AFFIRMATIVE), .val (.int (x1 &&& (1073741823 : Int32))), .val (.int ((x2 &&& (2147483647 : Int32)) % ((x1 &&& (1073741823 : Int32)) + (1 : Int32)))), .val (.long (1 : Int64)), .second, .val (.long ((x1 &&& (1073741823 : Int32)).toInt64)), .second, .val (.int (1 : Int32)), .unset, .unset] [])) _
        refine XS.iconst X22.here hx rfl (hb hby at_130) ?_
        show Steps p.tables e below (T22.setTop (mkF m 131 #[.val (.int x0), .val (.int x1), .val (.int x2), .val (.int (1 : Int32)), .val (.ref w_AFFIRMATIVE), .val (.int (x1 &&& (1073741823 : Int32))), .val (.int ((x2 &&& (2147483647 : Int32)) % ((x1 &&& (1073741823 : Int32)) + (1 : Int32)))), .val (.long (1 : Int64)), .second, .val (.long ((x1 &&& (1073741823 : Int32)).toInt64)), .second, .val (.int (1 : Int32)), .unset, .unset] [(.int (1 : Int32))])) _
        refine XS.goto X22.here hx rfl (pc0 := 131) (pc' := 135) rfl (hb hby at_131) (by decide) (by decide) ?_
        show Steps p.tables e below (T22.setTop (mkF m 135 #[.val (.int x0), .val (.int x1), .val (.int x2), .val (.int (1 : Int32)), .val (.ref w_AFFIRMATIVE), .val (.int (x1 &&& (1073741823 : Int32))), .val (.int ((x2 &&& (2147483647 : Int32)) % ((x1 &&& (1073741823 : Int32)) + (1 : Int32)))), .val (.long (1 : Int64)), .second, .val (.long ((x1 &&& (1073741823 : Int32)).toInt64)), .second, .val (.int (1 : Int32)), .unset, .unset] [(.int (1 : Int32))])) _
        refine XS.istore X22.here hx rfl (hb hby at_135) rfl (l' := #[.val (.int x0), .val (.int x1), .val (.int x2), .val (.int (1 : Int32)), .val (.ref w_AFFIRMATIVE), .val (.int (x1 &&& (1073741823 : Int32))), .val (.int ((x2 &&& (2147483647 : Int32)) % ((x1 &&& (1073741823 : Int32)) + (1 : Int32)))), .val (.long (1 : Int64)), .second, .val (.long ((x1 &&& (1073741823 : Int32)).toInt64)), .second, .val (.int (1 : Int32)), .val (.int (1 : Int32)), .unset]) rfl ?_
        show Steps p.tables e below (T22.setTop (mkF m 137 #[.val (.int x0), .val (.int x1), .val (.int x2), .val (.int (1 : Int32)), .val (.ref w_AFFIRMATIVE), .val (.int (x1 &&& (1073741823 : Int32))), .val (.int ((x2 &&& (2147483647 : Int32)) % ((x1 &&& (1073741823 : Int32)) + (1 : Int32)))), .val (.long (1 : Int64)), .second, .val (.long ((x1 &&& (1073741823 : Int32)).toInt64)), .second, .val (.int (1 : Int32)), .val (.int (1 : Int32)), .unset] [])) _
        refine XS.goto X22.here hx rfl (pc0 := 137) (pc' := 190) rfl (hb hby at_137) (by decide) (by decide) ?_
        show Steps p.tables e below (T22.setTop (mkF m 190 #[.val (.int x0), .val (.int x1), .val (.int x2), .val (.int (1 : Int32)), .val (.ref w_AFFIRMATIVE), .val (.int (x1 &&& (1073741823 : Int32))), .val (.int ((x2 &&& (2147483647 : Int32)) % ((x1 &&& (1073741823 : Int32)) + (1 : Int32)))), .val (.long (1 : Int64)), .second, .val (.long ((x1 &&& (1073741823 : Int32)).toInt64)), .second, .val (.int (1 : Int32)), .val (.int (1 : Int32)), .unset] [])) _
        refine XS.iload X22.here hx rfl (hb hby at_190) rfl ?_
        show Steps p.tables e below (T22.setTop (mkF m 192 #[.val (.int x0), .val (.int x1), .val (.int x2), .val (.int (1 : Int32)), .val (.ref w_AFFIRMATIVE), .val (.int (x1 &&& (1073741823 : Int32))), .val (.int ((x2 &&& (2147483647 : Int32)) % ((x1 &&& (1073741823 : Int32)) + (1 : Int32)))), .val (.long (1 : Int64)), .second, .val (.long ((x1 &&& (1073741823 : Int32)).toInt64)), .second, .val (.int (1 : Int32)), .val (.int (1 : Int32)), .unset] [(.int ((x2 &&& (2147483647 : Int32)) % ((x1 &&& (1073741823 : Int32)) + (1 : Int32))))])) _
        refine XS.i2l X22.here hx rfl (hb hby at_192) rfl ?_
        show Steps p.tables e below (T22.setTop (mkF m 193 #[.val (.int x0), .val (.int x1), .val (.int x2), .val (.int (1 : Int32)), .val (.ref w_AFFIRMATIVE), .val (.int (x1 &&& (1073741823 : Int32))), .val (.int ((x2 &&& (2147483647 : Int32)) % ((x1 &&& (1073741823 : Int32)) + (1 : Int32)))), .val (.long (1 : Int64)), .second, .val (.long ((x1 &&& (1073741823 : Int32)).toInt64)), .second, .val (.int (1 : Int32)), .val (.int (1 : Int32)), .unset] [(.long (((x2 &&& (2147483647 : Int32)) % ((x1 &&& (1073741823 : Int32)) + (1 : Int32))).toInt64))])) _
        refine XS.lload X22.here hx rfl (hb hby at_193) rfl ?_
        show Steps p.tables e below (T22.setTop (mkF m 195 #[.val (.int x0), .val (.int x1), .val (.int x2), .val (.int (1 : Int32)), .val (.ref w_AFFIRMATIVE), .val (.int (x1 &&& (1073741823 : Int32))), .val (.int ((x2 &&& (2147483647 : Int32)) % ((x1 &&& (1073741823 : Int32)) + (1 : Int32)))), .val (.long (1 : Int64)), .second, .val (.long ((x1 &&& (1073741823 : Int32)).toInt64)), .second, .val (.int (1 : Int32)), .val (.int (1 : Int32)), .unset] [(.long (1 : Int64)), (.long (((x2 &&& (2147483647 : Int32)) % ((x1 &&& (1073741823 : Int32)) + (1 : Int32))).toInt64))])) _
        refine XS.lcmp X22.here hx rfl (hb hby at_195) rfl ?_
        show Steps p.tables e below (T22.setTop (mkF m 196 #[.val (.int x0), .val (.int x1), .val (.int x2), .val (.int (1 : Int32)), .val (.ref w_AFFIRMATIVE), .val (.int (x1 &&& (1073741823 : Int32))), .val (.int ((x2 &&& (2147483647 : Int32)) % ((x1 &&& (1073741823 : Int32)) + (1 : Int32)))), .val (.long (1 : Int64)), .second, .val (.long ((x1 &&& (1073741823 : Int32)).toInt64)), .second, .val (.int (1 : Int32)), .val (.int (1 : Int32)), .unset] [(.int (lcmpW (((x2 &&& (2147483647 : Int32)) % ((x1 &&& (1073741823 : Int32)) + (1 : Int32))).toInt64) (1 : Int64)))])) _
        refine XS.ifNo X22.here hx rfl (hb hby at_196) rfl ((if0 _ _).trans (flt ((own_ar5 x2 x1 hc24) : ¬ ((lcmpW (((x2 &&& (2147483647 : Int32)) % ((x1 &&& (1073741823 : Int32)) + (1 : Int32))).toInt64) (1 : Int64)) < (0 : Int32)))).1) ?_
        show Steps p.tables e below (T22.setTop (mkF m 199 #[.val (.int x0), .val (.int x1), .val (.int x2), .val (.int (1 : Int32)), .val (.ref w_AFFIRMATIVE), .val (.int (x1 &&& (1073741823 : Int32))), .val (.int ((x2 &&& (2147483647 : Int32)) % ((x1 &&& (1073741823 : Int32)) + (1 : Int32)))), .val (.long (1 : Int64)), .second, .val (.long ((x1 &&& (1073741823 : Int32)).toInt64)), .second, .val (.int (1 : Int32)), .val (.int (1 : Int32)), .unset] [])) _
        refine XS.iconst X22.here hx rfl (hb hby at_199) ?_
        show Steps p.tables e below (T22.setTop (mkF m 200 #[.val (.int x0), .val (.int x1), .val (.int x2), .val (.int (1 : Int32)), .val (.ref w_AFFIRMATIVE), .val (.int (x1 &&& (1073741823 : Int32))), .val (.int ((x2 &&& (2147483647 : Int32)) % ((x1 &&& (1073741823 : Int32)) + (1 : Int32)))), .val (.long (1 : Int64)), .second, .val (.long ((x1 &&& (1073741823 : Int32)).toInt64)), .second, .val (.int (1 : Int32)), .val (.int (1 : Int32)), .unset] [(.int (1 : Int32))])) _
        refine XS.goto X22.here hx rfl (pc0 := 200) (pc' := 204) rfl (hb hby at_200) (by decide) (by decide) ?_
        show Steps p.tables e below (T22.setTop (mkF m 204 #[.val (.int x0), .val (.int x1), .val (.int x2), .val (.int (1 : Int32)), .val (.ref w_AFFIRMATIVE), .val (.int (x1 &&& (1073741823 : Int32))), .val (.int ((x2 &&& (2147483647 : Int32)) % ((x1 &&& (1073741823 : Int32)) + (1 : Int32)))), .val (.long (1 : Int64)), .second, .val (.long ((x1 &&& (1073741823 : Int32)).toInt64)), .second, .val (.int (1 : Int32)), .val (.int (1 : Int32)), .unset] [(.int (1 : Int32))])) _
        refine XS.istore X22.here hx rfl (hb hby at_204) rfl (l' := #[.val (.int x0), .val (.int x1), .val (.int x2), .val (.int (1 : Int32)), .val (.ref w_AFFIRMATIVE), .val (.int (x1 &&& (1073741823 : Int32))), .val (.int ((x2 &&& (2147483647 : Int32)) % ((x1 &&& (1073741823 : Int32)) + (1 : Int32)))), .val (.long (1 : Int64)), .second, .val (.long ((x1 &&& (1073741823 : Int32)).toInt64)), .second, .val (.int (1 : Int32)), .val (.int (1 : Int32)), .val (.int (1 : Int32))]) rfl ?_
        show Steps p.tables e below (T22.setTop (mkF m 206 #[.val (.int x0), .val (.int x1), .val (.int x2), .val (.int (1 : Int32)), .val (.ref w_AFFIRMATIVE), .val (.int (x1 &&& (1073741823 : Int32))), .val (.int ((x2 &&& (2147483647 : Int32)) % ((x1 &&& (1073741823 : Int32)) + (1 : Int32)))), .val (.long (1 : Int64)), .second, .val (.long ((x1 &&& (1073741823 : Int32)).toInt64)), .second, .val (.int (1 : Int32)), .val (.int (1 : Int32)), .val (.int (1 : Int32))] [])) _
        refine XS.iload X22.here hx rfl (hb hby at_206) rfl ?_
        show Steps p.tables e below (T22.setTop (mkF m 208 #[.val (.int x0), .val (.int x1), .val (.int x2), .val (.int (1 : Int32)), .val (.ref w_AFFIRMATIVE), .val (.int (x1 &&& (1073741823 : Int32))), .val (.int ((x2 &&& (2147483647 : Int32)) % ((x1 &&& (1073741823 : Int32)) + (1 : Int32)))), .val (.long (1 : Int64)), .second, .val (.long ((x1 &&& (1073741823 : Int32)).toInt64)), .second, .val (.int (1 : Int32)), .val (.int (1 : Int32)), .val (.int (1 : Int32))] [(.int (1 : Int32))])) _
        refine XS.ifNo X22.here hx rfl (hb hby at_208) rfl ((if0 _ _).trans (feq ((by decide) : ¬ ((1 : Int32) = (0 : Int32)))).1) ?_
        show Steps p.tables e below (T22.setTop (mkF m 211 #[.val (.int x0), .val (.int x1), .val (.int x2), .val (.int (1 : Int32)), .val (.ref w_AFFIRMATIVE), .val (.int (x1 &&& (1073741823 : Int32))), .val (.int ((x2 &&& (2147483647 : Int32)) % ((x1 &&& (1073741823 : Int32)) + (1 : Int32)))), .val (.long (1 : Int64)), .second, .val (.long ((x1 &&& (1073741823 : Int32)).toInt64)), .second, .val (.int (1 : Int32)), .val (.int (1 : Int32)), .val (.int (1 : Int32))] [])) _
        refine XS.iload X22.here hx rfl (hb hby at_211) rfl ?_
        show Steps p.tables e below (T22.setTop (mkF m 213 #[.val (.int x0), .val (.int x1), .val (.int x2), .val (.int (1 : Int32)), .val (.ref w_AFFIRMATIVE), .val (.int (x1 &&& (1073741823 : Int32))), .val (.int ((x2 &&& (2147483647 : Int32)) % ((x1 &&& (1073741823 : Int32)) + (1 : Int32)))), .val (.long (1 : Int64)), .second, .val (.long ((x1 &&& (1073741823 : Int32)).toInt64)), .second, .val (.int (1 : Int32)), .val (.int (1 : Int32)), .val (.int (1 : Int32))] [(.int (1 : Int32))])) _
        refine XS.iload X22.here hx rfl (hb hby at_213) rfl ?_
        show Steps p.tables e below (T22.setTop (mkF m 215 #[.val (.int x0), .val (.int x1), .val (.int x2), .val (.int (1 : Int32)), .val (.ref w_AFFIRMATIVE), .val (.int (x1 &&& (1073741823 : Int32))), .val (.int ((x2 &&& (2147483647 : Int32)) % ((x1 &&& (1073741823 : Int32)) + (1 : Int32)))), .val (.long (1 : Int64)), .second, .val (.long ((x1 &&& (1073741823 : Int32)).toInt64)), .second, .val (.int (1 : Int32)), .val (.int (1 : Int32)), .val (.int (1 : Int32))] [(.int (1 : Int32)), (.int (1 : Int32))])) _
        refine XS.icmpNo X22.here hx rfl (hb hby at_215) rfl (teq ((by decide) : (1 : Int32) = (1 : Int32))).2 ?_
        show Steps p.tables e below (T22.setTop (mkF m 218 #[.val (.int x0), .val (.int x1), .val (.int x2), .val (.int (1 : Int32)), .val (.ref w_AFFIRMATIVE), .val (.int (x1 &&& (1073741823 : Int32))), .val (.int ((x2 &&& (2147483647 : Int32)) % ((x1 &&& (1073741823 : Int32)) + (1 : Int32)))), .val (.long (1 : Int64)), .second, .val (.long ((x1 &&& (1073741823 : Int32)).toInt64)), .second, .val (.int (1 : Int32)), .val (.int (1 : Int32)), .val (.int (1 : Int32))] [])) _
        refine XS.iconst X22.here hx rfl (hb hby at_218) ?_
        show Steps p.tables e below (T22.setTop (mkF m 219 #[.val (.int x0), .val (.int x1), .val (.int x2), .val (.int (1 : Int32)), .val (.ref w_AFFIRMATIVE), .val (.int (x1 &&& (1073741823 : Int32))), .val (.int ((x2 &&& (2147483647 : Int32)) % ((x1 &&& (1073741823 : Int32)) + (1 : Int32)))), .val (.long (1 : Int64)), .second, .val (.long ((x1 &&& (1073741823 : Int32)).toInt64)), .second, .val (.int (1 : Int32)), .val (.int (1 : Int32)), .val (.int (1 : Int32))] [(.int (1 : Int32))])) _
        refine XS.goto X22.here hx rfl (pc0 := 219) (pc' := 223) rfl (hb hby at_219) (by decide) (by decide) ?_
        exact kk)
      obtain ⟨fs, hr, hrun, hended, hW, hsame⟩ := X22.leave (v := some (.int (1 : Int32))) (fun h => by rw [Bd.returns] at h; cases h)
      refine ⟨_, _, pre26 _ ?_, hrun, hended, _, _, rfl, ?_, ⟨_, rfl⟩, hW, hsame.mono (by decide) (by decide)⟩
      · exact retN X22 hx (t := .boolean) Bd.returns (by simp) (hb hby at_223) hr
      · exact ⟨rfl, N22⟩
  ·
    have pre27 := pre11
    rw [hv12] at pre27
    obtain ⟨T28, X28, e28, st28⟩ := getS2 X0 hx hZ hown (host := "") (Or.inl (hw _ (List.mem_of_getElem? (i := 14) rfl))) Via.refl e0 S_w_CONSENSUS (g := (mkF m 32 #[.val (.int x0), .val (.int x1), .val (.int x2), .val (.int (2 : Int32)), .unset, .unset, .unset, .unset, .unset, .unset, .unset, .unset, .unset, .unset] [])) rfl (hb hby at_32)
    obtain ⟨cq29, kq29, q29a, q29b, q29c⟩ := isOf hZ e28 E_w_CONSENSUS
    obtain ⟨_, _, ⟨T29, L29, k29, n29⟩, -, X29, ⟨Lc29, hQ29, l29, y29, z29⟩, st29⟩ := X28.virtualBack hx (y := (⟨"com/example/svratka/svratka/authz/DecisionStrategy", "grantsNeeded", "(I)I"⟩ : MethodName)) (z := (⟨"com/example/svratka/svratka/authz/DecisionStrategy", "grantsNeeded", "(I)I"⟩ : MethodName)) hown (mvT hZ (hw _ (List.mem_of_getElem? (i := 5) rfl))) (mvT hZ (hw _ (List.mem_of_getElem? (i := 6) rfl))) (notFace_of_selects (args := #[]) (mvT hZ (hw _ (List.mem_of_getElem? (i := 8) rfl)))) (mvT hZ (hw _ (List.mem_of_getElem? (i := 8) rfl))) (mvT hZ (hw _ (List.mem_of_getElem? (i := 7) rfl))) (by decide) (backOf (W := 0) (rm3 l Z a0 hw [] w_CONSENSUS ((x1 &&& (1073741823 : Int32))) w_AFFIRMATIVE w_UNANIMOUS h0 n0 Z0 S_w_AFFIRMATIVE ((Fld.ne F_ordinal_w_CONSENSUS F_ordinal_w_AFFIRMATIVE (by decide))) S_w_UNANIMOUS ((Fld.ne F_ordinal_w_CONSENSUS F_ordinal_w_UNANIMOUS (by decide)))) hZ (hw _ (List.mem_of_getElem? (i := 9) rfl)) (hw _ (List.mem_of_getElem? (i := 2) rfl)) (by decide) (by decide)) q29a q29c (g := (mkF m 58 #[.val (.int x0), .val (.int x1), .val (.int x2), .val (.int (2 : Int32)), .val (.ref w_CONSENSUS), .val (.int (x1 &&& (1073741823 : Int32))), .val (.int ((x2 &&& (2147483647 : Int32)) % ((x1 &&& (1073741823 : Int32)) + (1 : Int32)))), .unset, .unset, .unset, .unset, .unset, .unset, .unset] [(.int (x1 &&& (1073741823 : Int32))), (.ref w_CONSENSUS)])) rfl (by rw [hml]; rfl) (Steps.refl _) (argsL := [(.int (x1 &&& (1073741823 : Int32)))]) (rest := []) (lenOf pd_0 rfl) rfl (by show 2 * 0 + _ ≤ _; exact Nat.le_of_eq rfl) (hb hby at_58) (fun _ _ => ⟨rfl, e28, (by decide : 0 + 0 ≤ _), (by decide : 0 + 0 ≤ _)⟩)
    dsimp only [Pt.U, Pt.locs, Pt.cells, Pt.slots] at X29 l29 y29 z29 st29 hQ29
    subst l29 y29 z29
    obtain ⟨rfl, N29q, e29⟩ := hQ29
    have N29 := Fr.app N0 N29q
    have pre30 : ∀ t, Steps p.tables e below (T29.setTop (mkF m 180 #[.val (.int x0), .val (.int x1), .val (.int x2), .val (.int (2 : Int32)), .val (.ref w_CONSENSUS), .val (.int (x1 &&& (1073741823 : Int32))), .val (.int ((x2 &&& (2147483647 : Int32)) % ((x1 &&& (1073741823 : Int32)) + (1 : Int32)))), .val (.long ((((x1 &&& (1073741823 : Int32)) / (2 : Int32)) + (1 : Int32)).toInt64)), .second, .val (.long ((x1 &&& (1073741823 : Int32)).toInt64)), .second, .val (.int (1 : Int32)), .unset, .unset] [(.int ((x1 &&& (1073741823 : Int32)) - ((x2 &&& (2147483647 : Int32)) % ((x1 &&& (1073741823 : Int32)) + (1 : Int32))))), (.int ((x2 &&& (2147483647 : Int32)) % ((x1 &&& (1073741823 : Int32)) + (1 : Int32))))])) t → Steps p.tables e below (s₁.setTop (entryFrame m #[(.int x0), (.int x1), (.int x2)] maxLocals)) t := fun t kk => pre27 t (by
      show Steps p.tables e below (s₁.setTop (mkF m 6 #[.val (.int x0), .val (.int x1), .val (.int x2), .unset, .unset, .unset, .unset, .unset, .unset, .unset, .unset, .unset, .unset, .unset] [(.int (2 : Int32))])) _
      refine XS.istoreN X0.here hx rfl (hb hby at_6) rfl (l' := #[.val (.int x0), .val (.int x1), .val (.int x2), .val (.int (2 : Int32)), .unset, .unset, .unset, .unset, .unset, .unset, .unset, .unset, .unset, .unset]) rfl ?_
      show Steps p.tables e below (s₁.setTop (mkF m 7 #[.val (.int x0), .val (.int x1), .val (.int x2), .val (.int (2 : Int32)), .unset, .unset, .unset, .unset, .unset, .unset, .unset, .unset, .unset, .unset] [])) _
      refine XS.iloadN X0.here hx rfl (hb hby at_7) rfl ?_
      show Steps p.tables e below (s₁.setTop (mkF m 8 #[.val (.int x0), .val (.int x1), .val (.int x2), .val (.int (2 : Int32)), .unset, .unset, .unset, .unset, .unset, .unset, .unset, .unset, .unset, .unset] [(.int (2 : Int32))])) _
      refine XS.ifYes X0.here hx rfl (pc0 := 8) (pc' := 19) rfl (hb hby at_8) rfl ((if0 _ _).trans (feq ((by decide) : ¬ ((2 : Int32) = (0 : Int32)))).2) (by decide) (by decide) ?_
      show Steps p.tables e below (s₁.setTop (mkF m 19 #[.val (.int x0), .val (.int x1), .val (.int x2), .val (.int (2 : Int32)), .unset, .unset, .unset, .unset, .unset, .unset, .unset, .unset, .unset, .unset] [])) _
      refine XS.iloadN X0.here hx rfl (hb hby at_19) rfl ?_
      show Steps p.tables e below (s₁.setTop (mkF m 20 #[.val (.int x0), .val (.int x1), .val (.int x2), .val (.int (2 : Int32)), .unset, .unset, .unset, .unset, .unset, .unset, .unset, .unset, .unset, .unset] [(.int (2 : Int32))])) _
      refine XS.iconst X0.here hx rfl (hb hby at_20) ?_
      show Steps p.tables e below (s₁.setTop (mkF m 21 #[.val (.int x0), .val (.int x1), .val (.int x2), .val (.int (2 : Int32)), .unset, .unset, .unset, .unset, .unset, .unset, .unset, .unset, .unset, .unset] [(.int (1 : Int32)), (.int (2 : Int32))])) _
      refine XS.icmpYes X0.here hx rfl (pc0 := 21) (pc' := 32) rfl (hb hby at_21) rfl (feq ((by decide) : ¬ ((2 : Int32) = (1 : Int32)))).2 (by decide) (by decide) ?_
      show Steps p.tables e below (s₁.setTop (mkF m 32 #[.val (.int x0), .val (.int x1), .val (.int x2), .val (.int (2 : Int32)), .unset, .unset, .unset, .unset, .unset, .unset, .unset, .unset, .unset, .unset] [])) _
      refine st28 _ ?_
      show Steps p.tables e below (T28.setTop (mkF m 35 #[.val (.int x0), .val (.int x1), .val (.int x2), .val (.int (2 : Int32)), .unset, .unset, .unset, .unset, .unset, .unset, .unset, .unset, .unset, .unset] [(.ref w_CONSENSUS)])) _
      refine XS.astore X28.here hx rfl (hb hby at_35) rfl rfl (l' := #[.val (.int x0), .val (.int x1), .val (.int x2), .val (.int (2 : Int32)), .val (.ref w_CONSENSUS), .unset, .unset, .unset, .unset, .unset, .unset, .unset, .unset, .unset]) rfl ?_
      show Steps p.tables e below (T28.setTop (mkF m 37 #[.val (.int x0), .val (.int x1), .val (.int x2), .val (.int (2 : Int32)), .val (.ref w_CONSENSUS), .unset, .unset, .unset, .unset, .unset, .unset, .unset, .unset, .unset] [])) _
      refine XS.iloadN X28.here hx rfl (hb hby at_37) rfl ?_
      show Steps p.tables e below (T28.setTop (mkF m 38 #[.val (.int x0), .val (.int x1), .val (.int x2), .val (.int (2 : Int32)), .val (.ref w_CONSENSUS), .unset, .unset, .unset, .unset, .unset, .unset, .unset, .unset, .unset] [(.int x1)])) _
      refine X28.ldcInt hx hown (mvT hZ (hw _ (List.mem_of_getElem? (i := 4) rfl))) (g := (mkF m 38 #[.val (.int x0), .val (.int x1), .val (.int x2), .val (.int (2 : Int32)), .val (.ref w_CONSENSUS), .unset, .unset, .unset, .unset, .unset, .unset, .unset, .unset, .unset] [(.int x1)])) rfl (hb hby at_38) _ ?_
      show Steps p.tables e below (T28.setTop (mkF m 40 #[.val (.int x0), .val (.int x1), .val (.int x2), .val (.int (2 : Int32)), .val (.ref w_CONSENSUS), .unset, .unset, .unset, .unset, .unset, .unset, .unset, .unset, .unset] [(.int (1073741823 : Int32)), (.int x1)])) _
      refine XS.iand X28.here hx rfl (hb hby at_40) rfl ?_
      show Steps p.tables e below (T28.setTop (mkF m 41 #[.val (.int x0), .val (.int x1), .val (.int x2), .val (.int (2 : Int32)), .val (.ref w_CONSENSUS), .unset, .unset, .unset, .unset, .unset, .unset, .unset, .unset, .unset] [(.int (x1 &&& (1073741823 : Int32)))])) _
      refine XS.istore X28.here hx rfl (hb hby at_41) rfl (l' := #[.val (.int x0), .val (.int x1), .val (.int x2), .val (.int (2 : Int32)), .val (.ref w_CONSENSUS), .val (.int (x1 &&& (1073741823 : Int32))), .unset, .unset, .unset, .unset, .unset, .unset, .unset, .unset]) rfl ?_
      show Steps p.tables e below (T28.setTop (mkF m 43 #[.val (.int x0), .val (.int x1), .val (.int x2), .val (.int (2 : Int32)), .val (.ref w_CONSENSUS), .val (.int (x1 &&& (1073741823 : Int32))), .unset, .unset, .unset, .unset, .unset, .unset, .unset, .unset] [])) _
      refine XS.iloadN X28.here hx rfl (hb hby at_43) rfl ?_
      show Steps p.tables e below (T28.setTop (mkF m 44 #[.val (.int x0), .val (.int x1), .val (.int x2), .val (.int (2 : Int32)), .val (.ref w_CONSENSUS), .val (.int (x1 &&& (1073741823 : Int32))), .unset, .unset, .unset, .unset, .unset, .unset, .unset, .unset] [(.int x2)])) _
      refine X28.ldcInt hx hown (mvT hZ (hw _ (List.mem_of_getElem? (i := 0) rfl))) (g := (mkF m 44 #[.val (.int x0), .val (.int x1), .val (.int x2), .val (.int (2 : Int32)), .val (.ref w_CONSENSUS), .val (.int (x1 &&& (1073741823 : Int32))), .unset, .unset, .unset, .unset, .unset, .unset, .unset, .unset] [(.int x2)])) rfl (hb hby at_44) _ ?_
      show Steps p.tables e below (T28.setTop (mkF m 46 #[.val (.int x0), .val (.int x1), .val (.int x2), .val (.int (2 : Int32)), .val (.ref w_CONSENSUS), .val (.int (x1 &&& (1073741823 : Int32))), .unset, .unset, .unset, .unset, .unset, .unset, .unset, .unset] [(.int (2147483647 : Int32)), (.int x2)])) _
      refine XS.iand X28.here hx rfl (hb hby at_46) rfl ?_
      show Steps p.tables e below (T28.setTop (mkF m 47 #[.val (.int x0), .val (.int x1), .val (.int x2), .val (.int (2 : Int32)), .val (.ref w_CONSENSUS), .val (.int (x1 &&& (1073741823 : Int32))), .unset, .unset, .unset, .unset, .unset, .unset, .unset, .unset] [(.int (x2 &&& (2147483647 : Int32)))])) _
      refine XS.iload X28.here hx rfl (hb hby at_47) rfl ?_
      show Steps p.tables e below (T28.setTop (mkF m 49 #[.val (.int x0), .val (.int x1), .val (.int x2), .val (.int (2 : Int32)), .val (.ref w_CONSENSUS), .val (.int (x1 &&& (1073741823 : Int32))), .unset, .unset, .unset, .unset, .unset, .unset, .unset, .unset] [(.int (x1 &&& (1073741823 : Int32))), (.int (x2 &&& (2147483647 : Int32)))])) _
      refine XS.iconst X28.here hx rfl (hb hby at_49) ?_
      show Steps p.tables e below (T28.setTop (mkF m 50 #[.val (.int x0), .val (.int x1), .val (.int x2), .val (.int (2 : Int32)), .val (.ref w_CONSENSUS), .val (.int (x1 &&& (1073741823 : Int32))), .unset, .unset, .unset, .unset, .unset, .unset, .unset, .unset] [(.int (1 : Int32)), (.int (x1 &&& (1073741823 : Int32))), (.int (x2 &&& (2147483647 : Int32)))])) _
      refine XS.iadd X28.here hx rfl (hb hby at_50) rfl ?_
      show Steps p.tables e below (T28.setTop (mkF m 51 #[.val (.int x0), .val (.int x1), .val (.int x2), .val (.int (2 : Int32)), .val (.ref w_CONSENSUS), .val (.int (x1 &&& (1073741823 : Int32))), .unset, .unset, .unset, .unset, .unset, .unset, .unset, .unset] [(.int ((x1 &&& (1073741823 : Int32)) + (1 : Int32))), (.int (x2 &&& (2147483647 : Int32)))])) _
      refine iremM X28 hx rfl (hb hby at_51) rfl (own_ar0 x1) ?_
      show Steps p.tables e below (T28.setTop (mkF m 52 #[.val (.int x0), .val (.int x1), .val (.int x2), .val (.int (2 : Int32)), .val (.ref w_CONSENSUS), .val (.int (x1 &&& (1073741823 : Int32))), .unset, .unset, .unset, .unset, .unset, .unset, .unset, .unset] [(.int ((x2 &&& (2147483647 : Int32)) % ((x1 &&& (1073741823 : Int32)) + (1 : Int32))))])) _
      refine XS.istore X28.here hx rfl (hb hby at_52) rfl (l' := #[.val (.int x0), .val (.int x1), .val (.int x2), .val (.int (2 : Int32)), .val (.ref w_CONSENSUS), .val (.int (x1 &&& (1073741823 : Int32))), .val (.int ((x2 &&& (2147483647 : Int32)) % ((x1 &&& (1073741823 : Int32)) + (1 : Int32)))), .unset, .unset, .unset, .unset, .unset, .unset, .unset]) rfl ?_
      show Steps p.tables e below (T28.setTop (mkF m 54 #[.val (.int x0), .val (.int x1), .val (.int x2), .val (.int (2 : Int32)), .val (.ref w_CONSENSUS), .val (.int (x1 &&& (1073741823 : Int32))), .val (.int ((x2 &&& (2147483647 : Int32)) % ((x1 &&& (1073741823 : Int32)) + (1 : Int32)))), .unset, .unset, .unset, .unset, .unset, .unset, .unset] [])) _
      refine XS.aload X28.here hx rfl (hb hby at_54) rfl rfl ?_
      show Steps p.tables e below (T28.setTop (mkF m 56 #[.val (.int x0), .val (.int x1), .val (.int x2), .val (.int (2 : Int32)), .val (.ref w_CONSENSUS), .val (.int (x1 &&& (1073741823 : Int32))), .val (.int ((x2 &&& (2147483647 : Int32)) % ((x1 &&& (1073741823 : Int32)) + (1 : Int32)))), .unset, .unset, .unset, .unset, .unset, .unset, .unset] [(.ref w_CONSENSUS)])) _
      refine XS.iload X28.here hx rfl (hb hby at_56) rfl ?_
      show Steps p.tables e below (T28.setTop (mkF m 58 #[.val (.int x0), .val (.int x1), .val (.int x2), .val (.int (2 : Int32)), .val (.ref w_CONSENSUS), .val (.int (x1 &&& (1073741823 : Int32))), .val (.int ((x2 &&& (2147483647 : Int32)) % ((x1 &&& (1073741823 : Int32)) + (1 : Int32)))), .unset, .unset, .unset, .unset, .unset, .unset, .unset] [(.int (x1 &&& (1073741823 : Int32))), (.ref w_CONSENSUS)])) _
      refine st29.trans ?_
      show Steps p.tables e below (T29.setTop (mkF m 61 #[.val (.int x0), .val (.int x1), .val (.int x2), .val (.int (2 : Int32)), .val (.ref w_CONSENSUS), .val (.int (x1 &&& (1073741823 : Int32))), .val (.int ((x2 &&& (2147483647 : Int32)) % ((x1 &&& (1073741823 : Int32)) + (1 : Int32)))), .unset, .unset, .unset, .unset, .unset, .unset, .unset] [(.int (((x1 &&& (1073741823 : Int32)) / (2 : Int32)) + (1 : Int32)))])) _
      refine XS.i2l X29.here hx rfl (hb hby at_61) rfl ?_
      show Steps p.tables e below (T29.setTop (mkF m 62 #[.val (.int x0), .val (.int x1), .val (.int x2), .val (.int (2 : Int32)), .val (.ref w_CONSENSUS), .val (.int (x1 &&& (1073741823 : Int32))), .val (.int ((x2 &&& (2147483647 : Int32)) % ((x1 &&& (1073741823 : Int32)) + (1 : Int32)))), .unset, .unset, .unset, .unset, .unset, .unset, .unset] [(.long ((((x1 &&& (1073741823 : Int32)) / (2 : Int32)) + (1 : Int32)).toInt64))])) _
      refine XS.lstore X29.here hx rfl (hb hby at_62) rfl (l' := #[.val (.int x0), .val (.int x1), .val (.int x2), .val (.int (2 : Int32)), .val (.ref w_CONSENSUS), .val (.int (x1 &&& (1073741823 : Int32))), .val (.int ((x2 &&& (2147483647 : Int32)) % ((x1 &&& (1073741823 : Int32)) + (1 : Int32)))), .val (.long ((((x1 &&& (1073741823 : Int32)) / (2 : Int32)) + (1 : Int32)).toInt64)), .second, .unset, .unset, .unset, .unset, .unset]) rfl ?_
      show Steps p.tables e below (T29.setTop (mkF m 64 #[.val (.int x0), .val (.int x1), .val (.int x2), .val (.int (2 : Int32)), .val (.ref w_CONSENSUS), .val (.int (x1 &&& (1073741823 : Int32))), .val (.int ((x2 &&& (2147483647 : Int32)) % ((x1 &&& (1073741823 : Int32)) + (1 : Int32)))), .val (.long ((((x1 &&& (1073741823 : Int32)) / (2 : Int32)) + (1 : Int32)).toInt64)), .second, .unset, .unset, .unset, .unset, .unset] [])) _
      refine XS.iload X29.here hx rfl (hb hby at_64) rfl ?_
      show Steps p.tables e below (T29.setTop (mkF m 66 #[.val (.int x0), .val (.int x1), .val (.int x2), .val (.int (2 : Int32)), .val (.ref w_CONSENSUS), .val (.int (x1 &&& (1073741823 : Int32))), .val (.int ((x2 &&& (2147483647 : Int32)) % ((x1 &&& (1073741823 : Int32)) + (1 : Int32)))), .val (.long ((((x1 &&& (1073741823 : Int32)) / (2 : Int32)) + (1 : Int32)).toInt64)), .second, .unset, .unset, .unset, .unset, .unset] [(.int (x1 &&& (1073741823 : Int32)))])) _
      refine XS.i2l X29.here hx rfl (hb hby at_66) rfl ?_
      show Steps p.tables e below (T29.setTop (mkF m 67 #[.val (.int x0), .val (.int x1), .val (.int x2), .val (.int (2 : Int32)), .val (.ref w_CONSENSUS), .val (.int (x1 &&& (1073741823 : Int32))), .val (.int ((x2 &&& (2147483647 : Int32)) % ((x1 &&& (1073741823 : Int32)) + (1 : Int32)))), .val (.long ((((x1 &&& (1073741823 : Int32)) / (2 : Int32)) + (1 : Int32)).toInt64)), .second, .unset, .unset, .unset, .unset, .unset] [(.long ((x1 &&& (1073741823 : Int32)).toInt64))])) _
      refine XS.lstore X29.here hx rfl (hb hby at_67) rfl (l' := #[.val (.int x0), .val (.int x1), .val (.int x2), .val (.int (2 : Int32)), .val (.ref w_CONSENSUS), .val (.int (x1 &&& (1073741823 : Int32))), .val (.int ((x2 &&& (2147483647 : Int32)) % ((x1 &&& (1073741823 : Int32)) + (1 : Int32)))), .val (.long ((((x1 &&& (1073741823 : Int32)) / (2 : Int32)) + (1 : Int32)).toInt64)), .second, .val (.long ((x1 &&& (1073741823 : Int32)).toInt64)), .second, .unset, .unset, .unset]) rfl ?_
      show Steps p.tables e below (T29.setTop (mkF m 69 #[.val (.int x0), .val (.int x1), .val (.int x2), .val (.int (2 : Int32)), .val (.ref w_CONSENSUS), .val (.int (x1 &&& (1073741823 : Int32))), .val (.int ((x2 &&& (2147483647 : Int32)) % ((x1 &&& (1073741823 : Int32)) + (1 : Int32)))), .val (.long ((((x1 &&& (1073741823 : Int32)) / (2 : Int32)) + (1 : Int32)).toInt64)), .second, .val (.long ((x1 &&& (1073741823 : Int32)).toInt64)), .second, .unset, .unset, .unset] [])) _
      refine XS.iloadN X29.here hx rfl (hb hby at_69) rfl ?_
      show Steps p.tables e below (T29.setTop (mkF m 70 #[.val (.int x0), .val (.int x1), .val (.int x2), .val (.int (2 : Int32)), .val (.ref w_CONSENSUS), .val (.int (x1 &&& (1073741823 : Int32))), .val (.int ((x2 &&& (2147483647 : Int32)) % ((x1 &&& (1073741823 : Int32)) + (1 : Int32)))), .val (.long ((((x1 &&& (1073741823 : Int32)) / (2 : Int32)) + (1 : Int32)).toInt64)), .second, .val (.long ((x1 &&& (1073741823 : Int32)).toInt64)), .second, .unset, .unset, .unset] [(.int (2 : Int32))])) _
      refine XS.ifYes X29.here hx rfl (pc0 := 70) (pc' := 105) rfl (hb hby at_70) rfl ((if0 _ _).trans (feq ((by decide) : ¬ ((2 : Int32) = (0 : Int32)))).2) (by decide) (by decide) ?_
      show Steps p.tables e below (T29.setTop (mkF m 105 #[.val (.int x0), .val (.int x1), .val (.int x2), .val (.int (2 : Int32)), .val (.ref w_CONSENSUS), .val (.int (x1 &&& (1073741823 : Int32))), .val (.int ((x2 &&& (2147483647 : Int32)) % ((x1 &&& (1073741823 : Int32)) + (1 : Int32)))), .val (.long ((((x1 &&& (1073741823 : Int32)) / (2 : Int32)) + (1 : Int32)).toInt64)), .second, .val (.long ((x1 &&& (1073741823 : Int32)).toInt64)), .second, .unset, .unset, .unset] [])) _
      refine XS.iloadN X29.here hx rfl (hb hby at_105) rfl ?_
      show Steps p.tables e below (T29.setTop (mkF m 106 #[.val (.int x0), .val (.int x1), .val (.int x2), .val (.int (2 : Int32)), .val (.ref w_CONSENSUS), .val (.int (x1 &&& (1073741823 : Int32))), .val (.int ((x2 &&& (2147483647 : Int32)) % ((x1 &&& (1073741823 : Int32)) + (1 : Int32)))), .val (.long ((((x1 &&& (1073741823 : Int32)) / (2 : Int32)) + (1 : Int32)).toInt64)), .second, .val (.long ((x1 &&& (1073741823 : Int32)).toInt64)), .second, .unset, .unset, .unset] [(.int (2 : Int32))])) _
      refine XS.iconst X29.here hx rfl (hb hby at_106) ?_
      show Steps p.tables e below (T29.setTop (mkF m 107 #[.val (.int x0), .val (.int x1), .val (.int x2), .val (.int (2 : Int32)), .val (.ref w_CONSENSUS), .val (.int (x1 &&& (1073741823 : Int32))), .val (.int ((x2 &&& (2147483647 : Int32)) % ((x1 &&& (1073741823 : Int32)) + (1 : Int32)))), .val (.long ((((x1 &&& (1073741823 : Int32)) / (2 : Int32)) + (1 : Int32)).toInt64)), .second, .val (.long ((x1 &&& (1073741823 : Int32)).toInt64)), .second, .unset, .unset, .unset] [(.int (1 : Int32)), (.int (2 : Int32))])) _
      refine XS.icmpYes X29.here hx rfl (pc0 := 107) (pc' := 140) rfl (hb hby at_107) rfl (feq ((by decide) : ¬ ((2 : Int32) = (1 : Int32)))).2 (by decide) (by decide) ?_
      show Steps p.tables e below (T29.setTop (mkF m 140 #[.val (.int x0), .val (.int x1), .val (.int x2), .val (.int (2 : Int32)), .val (.ref w_CONSENSUS), .val (.int (x1 &&& (1073741823 : Int32))), .val (.int ((x2 &&& (2147483647 : Int32)) % ((x1 &&& (1073741823 : Int32)) + (1 : Int32)))), .val (.long ((((x1 &&& (1073741823 : Int32)) / (2 : Int32)) + (1 : Int32)).toInt64)), .second, .val (.long ((x1 &&& (1073741823 : Int32)).toInt64)), .second, .unset, .unset, .unset] [])) _
      refine X29.ldc2Long hx hown (mvT hZ (hw _ (List.mem_of_getElem? (i := 16) rfl))) (g := (mkF m 140 #[.val (.int x0), .val (.int x1), .val (.int x2), .val (.int (2 : Int32)), .val (.ref w_CONSENSUS), .val (.int (x1 &&& (1073741823 : Int32))), .val (.int ((x2 &&& (2147483647 : Int32)) % ((x1 &&& (1073741823 : Int32)) + (1 : Int32)))), .val (.long ((((x1 &&& (1073741823 : Int32)) / (2 : Int32)) + (1 : Int32)).toInt64)), .second, .val (.long ((x1 &&& (1073741823 : Int32)).toInt64)), .second, .unset, .unset, .unset] [])) rfl (hb hby at_140) _ ?_
      show Steps p.tables e below (T29.setTop (mkF m 143 #[.val (.int x0), .val (.int x1), .val (.int x2), .val (.int (2 : Int32)), .val (.ref w_CONSENSUS), .val (.int (x1 &&& (1073741823 : Int32))), .val (.int ((x2 &&& (2147483647 : Int32)) % ((x1 &&& (1073741823 : Int32)) + (1 : Int32)))), .val (.long ((((x1 &&& (1073741823 : Int32)) / (2 : Int32)) + (1 : Int32)).toInt64)), .second, .val (.long ((x1 &&& (1073741823 : Int32)).toInt64)), .second, .unset, .unset, .unset] [(.long (2 : Int64))])) _
      refine XS.lload X29.here hx rfl (hb hby at_143) rfl ?_
      show Steps p.tables e below (T29.setTop (mkF m 145 #[.val (.int x0), .val (.int x1), .val (.int x2), .val (.int (2 : Int32)), .val (.ref w_CONSENSUS), .val (.int (x1 &&& (1073741823 : Int32))), .val (.int ((x2 &&& (2147483647 : Int32)) % ((x1 &&& (1073741823 : Int32)) + (1 : Int32)))), .val (.long ((((x1 &&& (1073741823 : Int32)) / (2 : Int32)) + (1 : Int32)).toInt64)), .second, .val (.long ((x1 &&& (1073741823 : Int32)).toInt64)), .second, .unset, .unset, .unset] [(.long ((((x1 &&& (1073741823 : Int32)) / (2 : Int32)) + (1 : Int32)).toInt64)), (.long (2 : Int64))])) _
      refine XS.lmul X29.here hx rfl (hb hby at_145) rfl ?_
      show Steps p.tables e below (T29.setTop (mkF m 146 #[.val (.int x0), .val (.int x1), .val (.int x2), .val (.int (2 : Int32)), .val (.ref w_CONSENSUS), .val (.int (x1 &&& (1073741823 : Int32))), .val (.int ((x2 &&& (2147483647 : Int32)) % ((x1 &&& (1073741823 : Int32)) + (1 : Int32)))), .val (.long ((((x1 &&& (1073741823 : Int32)) / (2 : Int32)) + (1 : Int32)).toInt64)), .second, .val (.long ((x1 &&& (1073741823 : Int32)).toInt64)), .second, .unset, .unset, .unset] [(.long ((2 : Int64) * ((((x1 &&& (1073741823 : Int32)) / (2 : Int32)) + (1 : Int32)).toInt64)))])) _
      refine XS.lload X29.here hx rfl (hb hby at_146) rfl ?_
      show Steps p.tables e below (T29.setTop (mkF m 148 #[.val (.int x0), .val (.int x1), .val (.int x2), .val (.int (2 : Int32)), .val (.ref w_CONSENSUS), .val (.int (x1 &&& (1073741823 : Int32))), .val (.int ((x2 &&& (2147483647 : Int32)) % ((x1 &&& (1073741823 : Int32)) + (1 : Int32)))), .val (.long ((((x1 &&& (1073741823 : Int32)) / (2 : Int32)) + (1 : Int32)).toInt64)), .second, .val (.long ((x1 &&& (1073741823 : Int32)).toInt64)), .second, .unset, .unset, .unset] [(.long ((x1 &&& (1073741823 : Int32)).toInt64)), (.long ((2 : Int64) * ((((x1 &&& (1073741823 : Int32)) / (2 : Int32)) + (1 : Int32)).toInt64)))])) _
      refine XS.lcmp X29.here hx rfl (hb hby at_148) rfl ?_
      show Steps p.tables e below (T29.setTop (mkF m 149 #[.val (.int x0), .val (.int x1), .val (.int x2), .val (.int (2 : Int32)), .val (.ref w_CONSENSUS), .val (.int (x1 &&& (1073741823 : Int32))), .val (.int ((x2 &&& (2147483647 : Int32)) % ((x1 &&& (1073741823 : Int32)) + (1 : Int32)))), .val (.long ((((x1 &&& (1073741823 : Int32)) / (2 : Int32)) + (1 : Int32)).toInt64)), .second, .val (.long ((x1 &&& (1073741823 : Int32)).toInt64)), .second, .unset, .unset, .unset] [(.int (lcmpW ((2 : Int64) * ((((x1 &&& (1073741823 : Int32)) / (2 : Int32)) + (1 : Int32)).toInt64)) ((x1 &&& (1073741823 : Int32)).toInt64)))])) _
      refine XS.ifNo X29.here hx rfl (hb hby at_149) rfl ((if0 _ _).trans (tlt ((own_ar6 x1) : (0 : Int32) < (lcmpW ((2 : Int64) * ((((x1 &&& (1073741823 : Int32)) / (2 : Int32)) + (1 : Int32)).toInt64)) ((x1 &&& (1073741823 : Int32)).toInt64)))).2.2.2) ?_
      show Steps p.tables e below (T29.setTop (mkF m 152 #[.val (.int x0), .val (.int x1), .val (.int x2), .val (.int (2 : Int32)), .val (.ref w_CONSENSUS), .val (.int (x1 &&& (1073741823 : Int32))), .val (.int ((x2 &&& (2147483647 : Int32)) % ((x1 &&& (1073741823 : Int32)) + (1 : Int32)))), .val (.long ((((x1 &&& (1073741823 : Int32)) / (2 : Int32)) + (1 : Int32)).toInt64)), .second, .val (.long ((x1 &&& (1073741823 : Int32)).toInt64)), .second, .unset, .unset, .unset] [])) _
      refine X29.ldc2Long hx hown (mvT hZ (hw _ (List.mem_of_getElem? (i := 16) rfl))) (g := (mkF m 152 #[.val (.int x0), .val (.int x1), .val (.int x2), .val (.int (2 : Int32)), .val (.ref w_CONSENSUS), .val (.int (x1 &&& (1073741823 : Int32))), .val (.int ((x2 &&& (2147483647 : Int32)) % ((x1 &&& (1073741823 : Int32)) + (1 : Int32)))), .val (.long ((((x1 &&& (1073741823 : Int32)) / (2 : Int32)) + (1 : Int32)).toInt64)), .second, .val (.long ((x1 &&& (1073741823 : Int32)).toInt64)), .second, .unset, .unset, .unset] [])) rfl (hb hby at_152) _ ?_
      show Steps p.tables e below (T29.setTop (mkF m 155 #[.val (.int x0), .val (.int x1), .val (.int x2), .val (.int (2 : Int32)), .val (.ref w_CONSENSUS), .val (.int (x1 &&& (1073741823 : Int32))), .val (.int ((x2 &&& (2147483647 : Int32)) % ((x1 &&& (1073741823 : Int32)) + (1 : Int32)))), .val (.long ((((x1 &&& (1073741823 : Int32)) / (2 : Int32)) + (1 : Int32)).toInt64)), .second, .val (.long ((x1 &&& (1073741823 : Int32)).toInt64)), .second, .unset, .unset, .unset] [(.long (2 : Int64))])) _
      refine XS.lload X29.here hx rfl (hb hby at_155) rfl ?_
      show Steps p.tables e below (T29.setTop (mkF m 157 #[.val (.int x0), .val (.int x1), .val (.int x2), .val (.int (2 : Int32)), .val (.ref w_CONSENSUS), .val (.int (x1 &&& (1073741823 : Int32))), .val (.int ((x2 &&& (2147483647 : Int32)) % ((x1 &&& (1073741823 : Int32)) + (1 : Int32)))), .val (.long ((((x1 &&& (1073741823 : Int32)) / (2 : Int32)) + (1 : Int32)).toInt64)), .second, .val (.long ((x1 &&& (1073741823 : Int32)).toInt64)), .second, .unset, .unset, .unset] [(.long ((((x1 &&& (1073741823 : Int32)) / (2 : Int32)) + (1 : Int32)).toInt64)), (.long (2 : Int64))])) _
      refine XS.lconst X29.here hx rfl (hb hby at_157) ?_
      show Steps p.tables e below (T29.setTop (mkF m 158 #[.val (.int x0), .val (.int x1), .val (.int x2), .val (.int (2 : Int32)), .val (.ref w_CONSENSUS), .val (.int (x1 &&& (1073741823 : Int32))), .val (.int ((x2 &&& (2147483647 : Int32)) % ((x1 &&& (1073741823 : Int32)) + (1 : Int32)))), .val (.long ((((x1 &&& (1073741823 : Int32)) / (2 : Int32)) + (1 : Int32)).toInt64)), .second, .val (.long ((x1 &&& (1073741823 : Int32)).toInt64)), .second, .unset, .unset, .unset] [(.long (1 : Int64)), (.long ((((x1 &&& (1073741823 : Int32)) / (2 : Int32)) + (1 : Int32)).toInt64)), (.long (2 : Int64))])) _
      refine XS.lsub X29.here hx rfl (hb hby at_158) rfl ?_
      show Steps p.tables e below (T29.setTop (mkF m 159 #[.val (.int x0), .val (.int x1), .val (.int x2), .val (.int (2 : Int32)), .val (.ref w_CONSENSUS), .val (.int (x1 &&& (1073741823 : Int32))), .val (.int ((x2 &&& (2147483647 : Int32)) % ((x1 &&& (1073741823 : Int32)) + (1 : Int32)))), .val (.long ((((x1 &&& (1073741823 : Int32)) / (2 : Int32)) + (1 : Int32)).toInt64)), .second, .val (.long ((x1 &&& (1073741823 : Int32)).toInt64)), .second, .unset, .unset, .unset] [(.long (((((x1 &&& (1073741823 : Int32)) / (2 : Int32)) + (1 : Int32)).toInt64) - (1 : Int64))), (.long (2 : Int64))])) _
      refine XS.lmul X29.here hx rfl (hb hby at_159) rfl ?_
      show Steps p.tables e below (T29.setTop (mkF m 160 #[.val (.int x0), .val (.int x1), .val (.int x2), .val (.int (2 : Int32)), .val (.ref w_CONSENSUS), .val (.int (x1 &&& (1073741823 : Int32))), .val (.int ((x2 &&& (2147483647 : Int32)) % ((x1 &&& (1073741823 : Int32)) + (1 : Int32)))), .val (.long ((((x1 &&& (1073741823 : Int32)) / (2 : Int32)) + (1 : Int32)).toInt64)), .second, .val (.long ((x1 &&& (1073741823 : Int32)).toInt64)), .second, .unset, .unset, .unset] [(.long ((2 : Int64) * (((((x1 &&& (1073741823 : Int32)) / (2 : Int32)) + (1 : Int32)).toInt64) - (1 : Int64))))])) _
      refine XS.lload X29.here hx rfl (hb hby at_160) rfl ?_
      show Steps p.tables e below (T29.setTop (mkF m 162 #[.val (.int x0), .val (.int x1), .val (.int x2), .val (.int (2 : Int32)), .val (.ref w_CONSENSUS), .val (.int (x1 &&& (1073741823 : Int32))), .val (.int ((x2 &&& (2147483647 : Int32)) % ((x1 &&& (1073741823 : Int32)) + (1 : Int32)))), .val (.long ((((x1 &&& (1073741823 : Int32)) / (2 : Int32)) + (1 : Int32)).toInt64)), .second, .val (.long ((x1 &&& (1073741823 : Int32)).toInt64)), .second, .unset, .unset, .unset] [(.long ((x1 &&& (1073741823 : Int32)).toInt64)), (.long ((2 : Int64) * (((((x1 &&& (1073741823 : Int32)) / (2 : Int32)) + (1 : Int32)).toInt64) - (1 : Int64))))])) _
      refine XS.lcmp X29.here hx rfl (hb hby at_162) rfl ?_
      show Steps p.tables e below (T29.setTop (mkF m 163 #[.val (.int x0), .val (.int x1), .val (.int x2), .val (.int (2 : Int32)), .val (.ref w_CONSENSUS), .val (.int (x1 &&& (1073741823 : Int32))), .val (.int ((x2 &&& (2147483647 : Int32)) % ((x1 &&& (1073741823 : Int32)) + (1 : Int32)))), .val (.long ((((x1 &&& (1073741823 : Int32)) / (2 : Int32)) + (1 : Int32)).toInt64)), .second, .val (.long ((x1 &&& (1073741823 : Int32)).toInt64)), .second, .unset, .unset, .unset] [(.int (lcmpW ((2 : Int64) * (((((x1 &&& (1073741823 : Int32)) / (2 : Int32)) + (1 : Int32)).toInt64) - (1 : Int64))) ((x1 &&& (1073741823 : Int32)).toInt64)))])) _
      refine XS.ifNo X29.here hx rfl (hb hby at_163) rfl ((if0 _ _).trans (flt ((own_ar7 x1) : ¬ ((0 : Int32) < (lcmpW ((2 : Int64) * (((((x1 &&& (1073741823 : Int32)) / (2 : Int32)) + (1 : Int32)).toInt64) - (1 : Int64))) ((x1 &&& (1073741823 : Int32)).toInt64))))).2.2.1) ?_
      show Steps p.tables e below (T29.setTop (mkF m 166 #[.val (.int x0), .val (.int x1), .val (.int x2), .val (.int (2 : Int32)), .val (.ref w_CONSENSUS), .val (.int (x1 &&& (1073741823 : Int32))), .val (.int ((x2 &&& (2147483647 : Int32)) % ((x1 &&& (1073741823 : Int32)) + (1 : Int32)))), .val (.long ((((x1 &&& (1073741823 : Int32)) / (2 : Int32)) + (1 : Int32)).toInt64)), .second, .val (.long ((x1 &&& (1073741823 : Int32)).toInt64)), .second, .unset, .unset, .unset] [])) _
      refine XS.iconst X29.here hx rfl (hb hby at_166) ?_
      show Steps p.tables e below (T29.setTop (mkF m 167 #[.val (.int x0), .val (.int x1), .val (.int x2), .val (.int (2 : Int32)), .val (.ref w_CONSENSUS), .val (.int (x1 &&& (1073741823 : Int32))), .val (.int ((x2 &&& (2147483647 : Int32)) % ((x1 &&& (1073741823 : Int32)) + (1 : Int32)))), .val (.long ((((x1 &&& (1073741823 : Int32)) / (2 : Int32)) + (1 : Int32)).toInt64)), .second, .val (.long ((x1 &&& (1073741823 : Int32)).toInt64)), .second, .unset, .unset, .unset] [(.int (1 : Int32))])) _
      refine XS.goto X29.here hx rfl (pc0 := 167) (pc' := 171) rfl (hb hby at_167) (by decide) (by decide) ?_
      show Steps p.tables e below (T29.setTop (mkF m 171 #[.val (.int x0), .val (.int x1), .val (.int x2), .val (.int (2 : Int32)), .val (.ref w_CONSENSUS), .val (.int (x1 &&& (1073741823 : Int32))), .val (.int ((x2 &&& (2147483647 : Int32)) % ((x1 &&& (1073741823 : Int32)) + (1 : Int32)))), .val (.long ((((x1 &&& (1073741823 : Int32)) / (2 : Int32)) + (1 : Int32)).toInt64)), .second, .val (.long ((x1 &&& (1073741823 : Int32)).toInt64)), .second, .unset, .unset, .unset] [(.int (1 : Int32))])) _
      refine XS.istore X29.here hx rfl (hb hby at_171) rfl (l' := #[.val (.int x0), .val (.int x1), .val (.int x2), .val (.int (2 : Int32)), .val (.ref w_CONSENSUS), .val (.int (x1 &&& (1073741823 : Int32))), .val (.int ((x2 &&& (2147483647 : Int32)) % ((x1 &&& (1073741823 : Int32)) + (1 : Int32)))), .val (.long ((((x1 &&& (1073741823 : Int32)) / (2 : Int32)) + (1 : Int32)).toInt64)), .second, .val (.long ((x1 &&& (1073741823 : Int32)).toInt64)), .second, .val (.int (1 : Int32)), .unset, .unset]) rfl ?_
      show Steps p.tables e below (T29.setTop (mkF m 173 #[.val (.int x0), .val (.int x1), .val (.int x2), .val (.int (2 : Int32)), .val (.ref w_CONSENSUS), .val (.int (x1 &&& (1073741823 : Int32))), .val (.int ((x2 &&& (2147483647 : Int32)) % ((x1 &&& (1073741823 : Int32)) + (1 : Int32)))), .val (.long ((((x1 &&& (1073741823 : Int32)) / (2 : Int32)) + (1 : Int32)).toInt64)), .second, .val (.long ((x1 &&& (1073741823 : Int32)).toInt64)), .second, .val (.int (1 : Int32)), .unset, .unset] [])) _
      refine XS.iload X29.here hx rfl (hb hby at_173) rfl ?_
      show Steps p.tables e below (T29.setTop (mkF m 175 #[.val (.int x0), .val (.int x1), .val (.int x2), .val (.int (2 : Int32)), .val (.ref w_CONSENSUS), .val (.int (x1 &&& (1073741823 : Int32))), .val (.int ((x2 &&& (2147483647 : Int32)) % ((x1 &&& (1073741823 : Int32)) + (1 : Int32)))), .val (.long ((((x1 &&& (1073741823 : Int32)) / (2 : Int32)) + (1 : Int32)).toInt64)), .second, .val (.long ((x1 &&& (1073741823 : Int32)).toInt64)), .second, .val (.int (1 : Int32)), .unset, .unset] [(.int ((x2 &&& (2147483647 : Int32)) % ((x1 &&& (1073741823 : Int32)) + (1 : Int32))))])) _
      refine XS.iload X29.here hx rfl (hb hby at_175) rfl ?_
      show Steps p.tables e below (T29.setTop (mkF m 177 #[.val (.int x0), .val (.int x1), .val (.int x2), .val (.int (2 : Int32)), .val (.ref w_CONSENSUS), .val (.int (x1 &&& (1073741823 : Int32))), .val (.int ((x2 &&& (2147483647 : Int32)) % ((x1 &&& (1073741823 : Int32)) + (1 : Int32)))), .val (.long ((((x1 &&& (1073741823 : Int32)) / (2 : Int32)) + (1 : Int32)).toInt64)), .second, .val (.long ((x1 &&& (1073741823 : Int32)).toInt64)), .second, .val (.int (1 : Int32)), .unset, .unset] [(.int (x1 &&& (1073741823 : Int32))), (.int ((x2 &&& (2147483647 : Int32)) % ((x1 &&& (1073741823 : Int32)) + (1 : Int32))))])) _
      refine XS.iload X29.here hx rfl (hb hby at_177) rfl ?_
      show Steps p.tables e below (T29.setTop (mkF m 179 #[.val (.int x0), .val (.int x1), .val (.int x2), .val (.int (2 : Int32)), .val (.ref w_CONSENSUS), .val (.int (x1 &&& (1073741823 : Int32))), .val (.int ((x2 &&& (2147483647 : Int32)) % ((x1 &&& (1073741823 : Int32)) + (1 : Int32)))), .val (.long ((((x1 &&& (1073741823 : Int32)) / (2 : Int32)) + (1 : Int32)).toInt64)), .second, .val (.long ((x1 &&& (1073741823 : Int32)).toInt64)), .second, .val (.int (1 : Int32)), .unset, .unset] [(.int ((x2 &&& (2147483647 : Int32)) % ((x1 &&& (1073741823 : Int32)) + (1 : Int32)))), (.int (x1 &&& (1073741823 : Int32))), (.int ((x2 &&& (2147483647 : Int32)) % ((x1 &&& (1073741823 : Int32)) + (1 : Int32))))])) _
      refine XS.isub X29.here hx rfl (hb hby at_179) rfl ?_
      exact kk)
    by_cases hc31 : ((x1 &&& (1073741823 : Int32)) - ((x2 &&& (2147483647 : Int32)) % ((x1 &&& (1073741823 : Int32)) + (1 : Int32)))) < ((x2 &&& (2147483647 : Int32)) % ((x1 &&& (1073741823 : Int32)) + (1 : Int32)))
    ·
      have pre32 : ∀ t, Steps p.tables e below (T29.setTop (mkF m 223 #[.val (.int x0), .val (.int x1), .val (.int x2), .val (.int (2 : Int32)), .val (.ref w_CONSENSUS), .val (.int (x1 &&& (1073741823 : Int32))), .val (.int ((x2 &&& (2147483647 : Int32)) % ((x1 &&& (1073741823 : Int32)) + (1 : Int32)))), .val (.long ((((x1 &&& (1073741823 : Int32)) / (2 : Int32)) + (1 : Int32)).toInt64)), .second, .val (.long ((x1 &&& (1073741823 : Int32)).toInt64)), .second, .val (.int (1 : Int32)), .val (.int (1 : Int32)), .val (.int (1 : Int32))] [(.int (1 : Int32))])) t → Steps p.tables e below (s₁.setTop (entryFrame m #[(.int x0), (.int x1), (.int x2)] maxLocals)) t := fun t kk => pre30 t (by
        show Steps p.tables e below (T29.setTop (mkF m 180 #[.val (.int x0), .val (.int x1), .val (.int x2), .val (.int (2 : Int32)), .val (.ref w_CONSENSUS), .val (.int (x1 &&& (1073741823 : Int32))), .val (.int ((x2 &&& (2147483647 : Int32)) % ((x1 &&& (1073741823 : Int32)) + (1 : Int32)))), .val (.long ((((x1 &&& (1073741823 : Int32)) / (2 : Int32)) + (1 : Int32)).toInt64)), .second, .val (.long ((x1 &&& (1073741823 : Int32)).toInt64)), .second, .val (.int (1 : Int32)), .unset, .unset] [(.int ((x1 &&& (1073741823 : Int32)) - ((x2 &&& (2147483647 : Int32)) % ((x1 &&& (1073741823 : Int32)) + (1 : Int32))))), (.int ((x2 &&& (2147483647 : Int32)) % ((x1 &&& (1073741823 : Int32)) + (1 : Int32))))])) _
        refine XS.icmpNo X29.here hx rfl (hb hby at_180) rfl (tlt (hc31 : ((x1 &&& (1073741823 : Int32)) - ((x2 &&& (2147483647 : Int32)) % ((x1 &&& (1073741823 : Int32)) + (1 : Int32)))) < ((x2 &&& (2147483647 : Int32)) % ((x1 &&& (1073741823 : Int32)) + (1 : Int32))))).2.2.2 ?_
        show Steps p.tables e below (T29.setTop (mkF m 183 #[.val (.int x0), .val (.int x1), .val (.int x2), .val (.int (2 : Int32)), .val (.ref w_CONSENSUS), .val (.int (x1 &&& (1073741823 : Int32))), .val (.int ((x2 &&& (2147483647 : Int32)) % ((x1 &&& (1073741823 : Int32)) + (1 : Int32)))), .val (.long ((((x1 &&& (1073741823 : Int32)) / (2 : Int32)) + (1 : Int32)).toInt64)), .second, .val (.long ((x1 &&& (1073741823 : Int32)).toInt64)), .second, .val (.int (1 : Int32)), .unset, .unset] [])) _
        refine XS.iconst X29.here hx rfl (hb hby at_183) ?_
        show Steps p.tables e below (T29.setTop (mkF m 184 #[.val (.int x0), .val (.int x1), .val (.int x2), .val (.int (2 : Int32)), .val (.ref w_CONSENSUS), .val (.int (x1 &&& (1073741823 : Int32))), .val (.int ((x2 &&& (2147483647 : Int32)) % ((x1 &&& (1073741823 : Int32)) + (1 : Int32)))), .val (.long ((((x1 &&& (1073741823 : Int32)) / (2 : Int32)) + (1 : Int32)).toInt64)), .second, .val (.long ((x1 &&& (1073741823 : Int32)).toInt64)), .second, .val (.int (1 : Int32)), .unset, .unset] [(.int (1 : Int32))])) _
        refine XS.goto X29.here hx rfl (pc0 := 184) (pc' := 188) rfl (hb hby at_184) (by decide) (by decide) ?_
        show Steps p.tables e below (T29.setTop (mkF m 188 #[.val (.int x0), .val (.int x1), .val (.int x2), .val (.int (2 : Int32)), .val (.ref w_CONSENSUS), .val (.int (x1 &&& (1073741823 : Int32))), .val (.int ((x2 &&& (2147483647 : Int32)) % ((x1 &&& (1073741823 : Int32)) + (1 : Int32)))), .val (.long ((((x1 &&& (1073741823 : Int32)) / (2 : Int32)) + (1 : Int32)).toInt64)), .second, .val (.long ((x1 &&& (1073741823 : Int32)).toInt64)), .second, .val (.int (1 : Int32)), .unset, .unset] [(.int (1 : Int32))])) _
        refine XS.istore X29.here hx rfl (hb hby at_188) rfl (l' := #[.val (.int x0), .val (.int x1), .val (.int x2), .val (.int (2 : Int32)), .val (.ref w_CONSENSUS), .val (.int (x1 &&& (1073741823 : Int32))), .val (.int ((x2 &&& (2147483647 : Int32)) % ((x1 &&& (1073741823 : Int32)) + (1 : Int32)))), .val (.long ((((x1 &&& (1073741823 : Int32)) / (2 : Int32)) + (1 : Int32)).toInt64)), .second, .val (.long ((x1 &&& (1073741823 : Int32)).toInt64)), .second, .val (.int (1 : Int32)), .val (.int (1 : Int32)), .unset]) rfl ?_
        show Steps p.tables e below (T29.setTop (mkF m 190 #[.val (.int x0), .val (.int x1), .val (.int x2), .val (.int (2 : Int32)), .val (.ref w_CONSENSUS), .val (.int (x1 &&& (1073741823 : Int32))), .val (.int ((x2 &&& (2147483647 : Int32)) % ((x1 &&& (1073741823 : Int32)) + (1 : Int32)))), .val (.long ((((x1 &&& (1073741823 : Int32)) / (2 : Int32)) + (1 : Int32)).toInt64)), .second, .val (.long ((x1 &&& (1073741823 : Int32)).toInt64)), .second, .val (.int (1 : Int32)), .val (.int (1 : Int32)), .unset] [])) _
        refine XS.iload X29.here hx rfl (hb hby at_190) rfl ?_
        show Steps p.tables e below (T29.setTop (mkF m 192 #[.val (.int x0), .val (.int x1), .val (.int x2), .val (.int (2 : Int32)), .val (.ref w_CONSENSUS), .val (.int (x1 &&& (1073741823 : Int32))), .val (.int ((x2 &&& (2147483647 : Int32)) % ((x1 &&& (1073741823 : Int32)) + (1 : Int32)))), .val (.long ((((x1 &&& (1073741823 : Int32)) / (2 : Int32)) + (1 : Int32)).toInt64)), .second, .val (.long ((x1 &&& (1073741823 : Int32)).toInt64)), .second, .val (.int (1 : Int32)), .val (.int (1 : Int32)), .unset] [(.int ((x2 &&& (2147483647 : Int32)) % ((x1 &&& (1073741823 : Int32)) + (1 : Int32))))])) _
        refine XS.i2l X29.here hx rfl (hb hby at_192) rfl ?_
        show Steps p.tables e below (T29.setTop (mkF m 193 #[.val (.int x0), .val (.int x1), .val (.int x2), .val (.int (2 : Int32)), .val (.ref w_CONSENSUS), .val (.int (x1 &&& (1073741823 : Int32))), .val (.int ((x2 &&& (2147483647 : Int32)) % ((x1 &&& (1073741823 : Int32)) + (1 : Int32)))), .val (.long ((((x1 &&& (1073741823 : Int32)) / (2 : Int32)) + (1 : Int32)).toInt64)), .second, .val (.long ((x1 &&& (1073741823 : Int32)).toInt64)), .second, .val (.int (1 : Int32)), .val (.int (1 : Int32)), .unset] [(.long (((x2 &&& (2147483647 : Int32)) % ((x1 &&& (1073741823 : Int32)) + (1 : Int32))).toInt64))])) _
        refine XS.lload X29.here hx rfl (hb hby at_193) rfl ?_
        show Steps p.tables e below (T29.setTop (mkF m 195 #[.val (.int x0), .val (.int x1), .val (.int x2), .val (.int (2 : Int32)), .val (.ref w_CONSENSUS), .val (.int (x1 &&& (1073741823 : Int32))), .val (.int ((x2 &&& (2147483647 : Int32)) % ((x1 &&& (1073741823 : Int32)) + (1 : Int32)))), .val (.long ((((x1 &&& (1073741823 : Int32)) / (2 : Int32)) + (1 : Int32)).toInt64)), .second, .val (.long ((x1 &&& (1073741823 : Int32)).toInt64)), .second, .val (.int (1 : Int32)), .val (.int (1 : Int32)), .unset] [(.long ((((x1 &&& (1073741823 : Int32)) / (2 : Int32)) + (1 : Int32)).toInt64)), (.long (((x2 &&& (2147483647 : Int32)) % ((x1 &&& (1073741823 : Int32)) + (1 : Int32))).toInt64))])) _
        refine XS.lcmp X29.here hx rfl (hb hby at_195) rfl ?_
        show Steps p.tables e below (T29.setTop (mkF m 196 #[.val (.int x0), .val (.int x1), .val (.int x2), .val (.int (2 : Int32)), .val (.ref w_CONSENSUS), .val (.int (x1 &&& (1073741823 : Int32))), .val (.int ((x2 &&& (2147483647 : Int32)) % ((x1 &&& (1073741823 : Int32)) + (1 : Int32)))), .val (.long ((((x1 &&& (1073741823 : Int32)) / (2 : Int32)) + (1 : Int32)).toInt64)), .second, .val (.long ((x1 &&& (1073741823 : Int32)).toInt64)), .second, .val (.int (1 : Int32)), .val (.int (1 : Int32)), .unset] [(.int (lcmpW (((x2 &&& (2147483647 : Int32)) % ((x1 &&& (1073741823 : Int32)) + (1 : Int32))).toInt64) ((((x1 &&& (1073741823 : Int32)) / (2 : Int32)) + (1 : Int32)).toInt64)))])) _
        refine XS.ifNo X29.here hx rfl (hb hby at_196) rfl ((if0 _ _).trans (flt ((own_ar8 x1 x2 hc31) : ¬ ((lcmpW (((x2 &&& (2147483647 : Int32)) % ((x1 &&& (1073741823 : Int32)) + (1 : Int32))).toInt64) ((((x1 &&& (1073741823 : Int32)) / (2 : Int32)) + (1 : Int32)).toInt64)) < (0 : Int32)))).1) ?_
        show Steps p.tables e below (T29.setTop (mkF m 199 #[.val (.int x0), .val (.int x1), .val (.int x2), .val (.int (2 : Int32)), .val (.ref w_CONSENSUS), .val (.int (x1 &&& (1073741823 : Int32))), .val (.int ((x2 &&& (2147483647 : Int32)) % ((x1 &&& (1073741823 : Int32)) + (1 : Int32)))), .val (.long ((((x1 &&& (1073741823 : Int32)) / (2 : Int32)) + (1 : Int32)).toInt64)), .second, .val (.long ((x1 &&& (1073741823 : Int32)).toInt64)), .second, .val (.int (1 : Int32)), .val (.int (1 : Int32)), .unset] [])) _
        refine XS.iconst X29.here hx rfl (hb hby at_199) ?_
        show Steps p.tables e below (T29.setTop (mkF m 200 #[.val (.int x0), .val (.int x1), .val (.int x2), .val (.int (2 : Int32)), .val (.ref w_CONSENSUS), .val (.int (x1 &&& (1073741823 : Int32))), .val (.int ((x2 &&& (2147483647 : Int32)) % ((x1 &&& (1073741823 : Int32)) + (1 : Int32)))), .val (.long ((((x1 &&& (1073741823 : Int32)) / (2 : Int32)) + (1 : Int32)).toInt64)), .second, .val (.long ((x1 &&& (1073741823 : Int32)).toInt64)), .second, .val (.int (1 : Int32)), .val (.int (1 : Int32)), .unset] [(.int (1 : Int32))])) _
        refine XS.goto X29.here hx rfl (pc0 := 200) (pc' := 204) rfl (hb hby at_200) (by decide) (by decide) ?_
        show Steps p.tables e below (T29.setTop (mkF m 204 #[.val (.int x0), .val (.int x1), .val (.int x2), .val (.int (2 : Int32)), .val (.ref w_CONSENSUS), .val (.int (x1 &&& (1073741823 : Int32))), .val (.int ((x2 &&& (2147483647 : Int32)) % ((x1 &&& (1073741823 : Int32)) + (1 : Int32)))), .val (.long ((((x1 &&& (1073741823 : Int32)) / (2 : Int32)) + (1 : Int32)).toInt64)), .second, .val (.long ((x1 &&& (1073741823 : Int32)).toInt64)), .second, .val (.int (1 : Int32)), .val (.int (1 : Int32)), .unset] [(.int (1 : Int32))])) _
        refine XS.istore X29.here hx rfl (hb hby at_204) rfl (l' := #[.val (.int x0), .val (.int x1), .val (.int x2), .val (.int (2 : Int32)), .val (.ref w_CONSENSUS), .val (.int (x1 &&& (1073741823 : Int32))), .val (.int ((x2 &&& (2147483647 : Int32)) % ((x1 &&& (1073741823 : Int32)) + (1 : Int32)))), .val (.long ((((x1 &&& (1073741823 : Int32)) / (2 : Int32)) + (1 : Int32)).toInt64)), .second, .val (.long ((x1 &&& (1073741823 : Int32)).toInt64)), .second, .val (.int (1 : Int32)), .val (.int (1 : Int32)), .val (.int (1 : Int32))]) rfl ?_
        show Steps p.tables e below (T29.setTop (mkF m 206 #[.val (.int x0), .val (.int x1), .val (.int x2), .val (.int (2 : Int32)), .val (.ref w_CONSENSUS), .val (.int (x1 &&& (1073741823 : Int32))), .val (.int ((x2 &&& (2147483647 : Int32)) % ((x1 &&& (1073741823 : Int32)) + (1 : Int32)))), .val (.long ((((x1 &&& (1073741823 : Int32)) / (2 : Int32)) + (1 : Int32)).toInt64)), .second, .val (.long ((x1 &&& (1073741823 : Int32)).toInt64)), .second, .val (.int (1 : Int32)), .val (.int (1 : Int32)), .val (.int (1 : Int32))] [])) _
        refine XS.iload X29.here hx rfl (hb hby at_206) rfl ?_
        show Steps p.tables e below (T29.setTop (mkF m 208 #[.val (.int x0), .val (.int x1), .val (.int x2), .val (.int (2 : Int32)), .val (.ref w_CONSENSUS), .val (.int (x1 &&& (1073741823 : Int32))), .val (.int ((x2 &&& (2147483647 : Int32)) % ((x1 &&& (1073741823 : Int32)) + (1 : Int32)))), .val (.long ((((x1 &&& (1073741823 : Int32)) / (2 : Int32)) + (1 : Int32)).toInt64)), .second, .val (.long ((x1 &&& (1073741823 : Int32)).toInt64)), .second, .val (.int (1 : Int32)), .val (.int (1 : Int32)), .val (.int (1 : Int32))] [(.int (1 : Int32))])) _
        refine XS.ifNo X29.here hx rfl (hb hby at_208) rfl ((if0 _ _).trans (feq ((by decide) : ¬ ((1 : Int32) = (0 : Int32)))).1) ?_
        show Steps p.tables e below (T29.setTop (mkF m 211 #[.val (.int x0), .val (.int x1), .val (.int x2), .val (.int (2 : Int32)), .val (.ref w_CONSENSUS), .val (.int (x1 &&& (1073741823 : Int32))), .val (.int ((x2 &&& (2147483647 : Int32)) % ((x1 &&& (1073741823 : Int32)) + (1 : Int32)))), .val (.long ((((x1 &&& (1073741823 : Int32)) / (2 : Int32)) + (1 : Int32)).toInt64)), .second, .val (.long ((x1 &&& (1073741823 : Int32)).toInt64)), .second, .val (.int (1 : Int32)), .val (.int (1 : Int32)), .val (.int (1 : Int32))] [])) _
        refine XS.iload X29.here hx rfl (hb hby at_211) rfl ?_
        show Steps p.tables e below (T29.setTop (mkF m 213 #[.val (.int x0), .val (.int x1), .val (.int x2), .val (.int (2 : Int32)), .val (.ref w_CONSENSUS), .val (.int (x1 &&& (1073741823 : Int32))), .val (.int ((x2 &&& (2147483647 : Int32)) % ((x1 &&& (1073741823 : Int32)) + (1 : Int32)))), .val (.long ((((x1 &&& (1073741823 : Int32)) / (2 : Int32)) + (1 : Int32)).toInt64)), .second, .val (.long ((x1 &&& (1073741823 : Int32)).toInt64)), .second, .val (.int (1 : Int32)), .val (.int (1 : Int32)), .val (.int (1 : Int32))] [(.int (1 : Int32))])) _
        refine XS.iload X29.here hx rfl (hb hby at_213) rfl ?_
        show Steps p.tables e below (T29.setTop (mkF m 215 #[.val (.int x0), .val (.int x1), .val (.int x2), .val (.int (2 : Int32)), .val (.ref w_CONSENSUS), .val (.int (x1 &&& (1073741823 : Int32))), .val (.int ((x2 &&& (2147483647 : Int32)) % ((x1 &&& (1073741823 : Int32)) + (1 : Int32)))), .val (.long ((((x1 &&& (1073741823 : Int32)) / (2 : Int32)) + (1 : Int32)).toInt64)), .second, .val (.long ((x1 &&& (1073741823 : Int32)).toInt64)), .second, .val (.int (1 : Int32)), .val (.int (1 : Int32)), .val (.int (1 : Int32))] [(.int (1 : Int32)), (.int (1 : Int32))])) _
        refine XS.icmpNo X29.here hx rfl (hb hby at_215) rfl (teq ((by decide) : (1 : Int32) = (1 : Int32))).2 ?_
        show Steps p.tables e below (T29.setTop (mkF m 218 #[.val (.int x0), .val (.int x1), .val (.int x2), .val (.int (2 : Int32)), .val (.ref w_CONSENSUS), .val (.int (x1 &&& (1073741823 : Int32))), .val (.int ((x2 &&& (2147483647 : Int32)) % ((x1 &&& (1073741823 : Int32)) + (1 : Int32)))), .val (.long ((((x1 &&& (1073741823 : Int32)) / (2 : Int32)) + (1 : Int32)).toInt64)), .second, .val (.long ((x1 &&& (1073741823 : Int32)).toInt64)), .second, .val (.int (1 : Int32)), .val (.int (1 : Int32)), .val (.int (1 : Int32))] [])) _
        refine XS.iconst X29.here hx rfl (hb hby at_218) ?_
        show Steps p.tables e below (T29.setTop (mkF m 219 #[.val (.int x0), .val (.int x1), .val (.int x2), .val (.int (2 : Int32)), .val (.ref w_CONSENSUS), .val (.int (x1 &&& (1073741823 : Int32))), .val (.int ((x2 &&& (2147483647 : Int32)) % ((x1 &&& (1073741823 : Int32)) + (1 : Int32)))), .val (.long ((((x1 &&& (1073741823 : Int32)) / (2 : Int32)) + (1 : Int32)).toInt64)), .second, .val (.long ((x1 &&& (1073741823 : Int32)).toInt64)), .second, .val (.int (1 : Int32)), .val (.int (1 : Int32)), .val (.int (1 : Int32))] [(.int (1 : Int32))])) _
        refine XS.goto X29.here hx rfl (pc0 := 219) (pc' := 223) rfl (hb hby at_219) (by decide) (by decide) ?_
        exact kk)
      obtain ⟨fs, hr, hrun, hended, hW, hsame⟩ := X29.leave (v := some (.int (1 : Int32))) (fun h => by rw [Bd.returns] at h; cases h)
      refine ⟨_, _, pre32 _ ?_, hrun, hended, _, _, rfl, ?_, ⟨_, rfl⟩, hW, hsame.mono (by decide) (by decide)⟩
      · exact retN X29 hx (t := .boolean) Bd.returns (by simp) (hb hby at_223) hr
      · exact ⟨rfl, N29⟩
    ·
      have pre33 : ∀ t, Steps p.tables e below (T29.setTop (mkF m 223 #[.val (.int x0), .val (.int x1), .val (.int x2), .val (.int (2 : Int32)), .val (.ref w_CONSENSUS), .val (.int (x1 &&& (1073741823 : Int32))), .val (.int ((x2 &&& (2147483647 : Int32)) % ((x1 &&& (1073741823 : Int32)) + (1 : Int32)))), .val (.long ((((x1 &&& (1073741823 : Int32)) / (2 : Int32)) + (1 : Int32)).toInt64)), .second, .val (.long ((x1 &&& (1073741823 : Int32)).toInt64)), .second, .val (.int (1 : Int32)), .val (.int (0 : Int32)), .val (.int (0 : Int32))] [(.int (1 : Int32))])) t → Steps p.tables e below (s₁.setTop (entryFrame m #[(.int x0), (.int x1), (.int x2)] maxLocals)) t := fun t kk => pre30 t (by
        show Steps p.tables e below (T29.setTop (mkF m 180 #[.val (.int x0), .val (.int x1), .val (.int x2), .val (.int (2 : Int32)), .val (.ref w_CONSENSUS), .val (.int (x1 &&& (1073741823 : Int32))), .val (.int ((x2 &&& (2147483647 : Int32)) % ((x1 &&& (1073741823 : Int32)) + (1 : Int32)))), .val (.long ((((x1 &&& (1073741823 : Int32)) / (2 : Int32)) + (1 : Int32)).toInt64)), .second, .val (.long ((x1 &&& (1073741823 : Int32)).toInt64)), .second, .val (.int (1 : Int32)), .unset, .unset] [(.int ((x1 &&& (1073741823 : Int32)) - ((x2 &&& (2147483647 : Int32)) % ((x1 &&& (1073741823 : Int32)) + (1 : Int32))))), (.int ((x2 &&& (2147483647 : Int32)) % ((x1 &&& (1073741823 : Int32)) + (1 : Int32))))])) _
        refine XS.icmpYes X29.here hx rfl (pc0 := 180) (pc' := 187) rfl (hb hby at_180) rfl (flt (hc31 : ¬ (((x1 &&& (1073741823 : Int32)) - ((x2 &&& (2147483647 : Int32)) % ((x1 &&& (1073741823 : Int32)) + (1 : Int32)))) < ((x2 &&& (2147483647 : Int32)) % ((x1 &&& (1073741823 : Int32)) + (1 : Int32)))))).2.2.2 (by decide) (by decide) ?_
        show Steps p.tables e below (T29.setTop (mkF m 187 #[.val (.int x0), .val (.int x1), .val (.int x2), .val (.int (2 : Int32)), .val (.ref w_CONSENSUS), .val (.int (x1 &&& (1073741823 : Int32))), .val (.int ((x2 &&& (2147483647 : Int32)) % ((x1 &&& (1073741823 : Int32)) + (1 : Int32)))), .val (.long ((((x1 &&& (1073741823 : Int32)) / (2 : Int32)) + (1 : Int32)).toInt64)), .second, .val (.long ((x1 &&& (1073741823 : Int32)).toInt64)), .second, .val (.int (1 : Int32)), .unset, .unset] [])) _
        refine XS.iconst X29.here hx rfl (hb hby at_187) ?_
        show Steps p.tables e below (T29.setTop (mkF m 188 #[.val (.int x0), .val (.int x1), .val (.int x2), .val (.int (2 : Int32)), .val (.ref w_CONSENSUS), .val (.int (x1 &&& (1073741823 : Int32))), .val (.int ((x2 &&& (2147483647 : Int32)) % ((x1 &&& (1073741823 : Int32)) + (1 : Int32)))), .val (.long ((((x1 &&& (1073741823 : Int32)) / (2 : Int32)) + (1 : Int32)).toInt64)), .second, .val (.long ((x1 &&& (1073741823 : Int32)).toInt64)), .second, .val (.int (1 : Int32)), .unset, .unset] [(.int (0 : Int32))])) _
        refine XS.istore X29.here hx rfl (hb hby at_188) rfl (l' := #[.val (.int x0), .val (.int x1), .val (.int x2), .val (.int (2 : Int32)), .val (.ref w_CONSENSUS), .val (.int (x1 &&& (1073741823 : Int32))), .val (.int ((x2 &&& (2147483647 : Int32)) % ((x1 &&& (1073741823 : Int32)) + (1 : Int32)))), .val (.long ((((x1 &&& (1073741823 : Int32)) / (2 : Int32)) + (1 : Int32)).toInt64)), .second, .val (.long ((x1 &&& (1073741823 : Int32)).toInt64)), .second, .val (.int (1 : Int32)), .val (.int (0 : Int32)), .unset]) rfl ?_
        show Steps p.tables e below (T29.setTop (mkF m 190 #[.val (.int x0), .val (.int x1), .val (.int x2), .val (.int (2 : Int32)), .val (.ref w_CONSENSUS), .val (.int (x1 &&& (1073741823 : Int32))), .val (.int ((x2 &&& (2147483647 : Int32)) % ((x1 &&& (1073741823 : Int32)) + (1 : Int32)))), .val (.long ((((x1 &&& (1073741823 : Int32)) / (2 : Int32)) + (1 : Int32)).toInt64)), .second, .val (.long ((x1 &&& (1073741823 : Int32)).toInt64)), .second, .val (.int (1 : Int32)), .val (.int (0 : Int32)), .unset] [])) _
        refine XS.iload X29.here hx rfl (hb hby at_190) rfl ?_
        show Steps p.tables e below (T29.setTop (mkF m 192 #[.val (.int x0), .val (.int x1), .val (.int x2), .val (.int (2 : Int32)), .val (.ref w_CONSENSUS), .val (.int (x1 &&& (1073741823 : Int32))), .val (.int ((x2 &&& (2147483647 : Int32)) % ((x1 &&& (1073741823 : Int32)) + (1 : Int32)))), .val (.long ((((x1 &&& (1073741823 : Int32)) / (2 : Int32)) + (1 : Int32)).toInt64)), .second, .val (.long ((x1 &&& (1073741823 : Int32)).toInt64)), .second, .val (.int (1 : Int32)), .val (.int (0 : Int32)), .unset] [(.int ((x2 &&& (2147483647 : Int32)) % ((x1 &&& (1073741823 : Int32)) + (1 : Int32))))])) _
        refine XS.i2l X29.here hx rfl (hb hby at_192) rfl ?_
        show Steps p.tables e below (T29.setTop (mkF m 193 #[.val (.int x0), .val (.int x1), .val (.int x2), .val (.int (2 : Int32)), .val (.ref w_CONSENSUS), .val (.int (x1 &&& (1073741823 : Int32))), .val (.int ((x2 &&& (2147483647 : Int32)) % ((x1 &&& (1073741823 : Int32)) + (1 : Int32)))), .val (.long ((((x1 &&& (1073741823 : Int32)) / (2 : Int32)) + (1 : Int32)).toInt64)), .second, .val (.long ((x1 &&& (1073741823 : Int32)).toInt64)), .second, .val (.int (1 : Int32)), .val (.int (0 : Int32)), .unset] [(.long (((x2 &&& (2147483647 : Int32)) % ((x1 &&& (1073741823 : Int32)) + (1 : Int32))).toInt64))])) _
        refine XS.lload X29.here hx rfl (hb hby at_193) rfl ?_
        show Steps p.tables e below (T29.setTop (mkF m 195 #[.val (.int x0), .val (.int x1), .val (.int x2), .val (.int (2 : Int32)), .val (.ref w_CONSENSUS), .val (.int (x1 &&& (1073741823 : Int32))), .val (.int ((x2 &&& (2147483647 : Int32)) % ((x1 &&& (1073741823 : Int32)) + (1 : Int32)))), .val (.long ((((x1 &&& (1073741823 : Int32)) / (2 : Int32)) + (1 : Int32)).toInt64)), .second, .val (.long ((x1 &&& (1073741823 : Int32)).toInt64)), .second, .val (.int (1 : Int32)), .val (.int (0 : Int32)), .unset] [(.long ((((x1 &&& (1073741823 : Int32)) / (2 : Int32)) + (1 : Int32)).toInt64)), (.long (((x2 &&& (2147483647 : Int32)) % ((x1 &&& (1073741823 : Int32)) + (1 : Int32))).toInt64))])) _
        refine XS.lcmp X29.here hx rfl (hb hby at_195) rfl ?_
        show Steps p.tables e below (T29.setTop (mkF m 196 #[.val (.int x0), .val (.int x1), .val (.int x2), .val (.int (2 : Int32)), .val (.ref w_CONSENSUS), .val (.int (x1 &&& (1073741823 : Int32))), .val (.int ((x2 &&& (2147483647 : Int32)) % ((x1 &&& (1073741823 : Int32)) + (1 : Int32)))), .val (.long ((((x1 &&& (1073741823 : Int32)) / (2 : Int32)) + (1 : Int32)).toInt64)), .second, .val (.long ((x1 &&& (1073741823 : Int32)).toInt64)), .second, .val (.int (1 : Int32)), .val (.int (0 : Int32)), .unset] [(.int (lcmpW (((x2 &&& (2147483647 : Int32)) % ((x1 &&& (1073741823 : Int32)) + (1 : Int32))).toInt64) ((((x1 &&& (1073741823 : Int32)) / (2 : Int32)) + (1 : Int32)).toInt64)))])) _
        refine XS.ifYes X29.here hx rfl (pc0 := 196) (pc' := 203) rfl (hb hby at_196) rfl ((if0 _ _).trans (tlt ((own_ar9 x1 x2 hc31) : (lcmpW (((x2 &&& (2147483647 : Int32)) % ((x1 &&& (1073741823 : Int32)) + (1 : Int32))).toInt64) ((((x1 &&& (1073741823 : Int32)) / (2 : Int32)) + (1 : Int32)).toInt64)) < (0 : Int32))).1) (by decide) (by decide) ?_
        show Steps p.tables e below (T29.setTop (mkF m 203 #[.val (.int x0), .val (.int x1), .val (.int x2), .val (.int (2 : Int32)), .val (.ref w_CONSENSUS), .val (.int (x1 &&& (1073741823 : Int32))), .val (.int ((x2 &&& (2147483647 : Int32)) % ((x1 &&& (1073741823 : Int32)) + (1 : Int32)))), .val (.long ((((x1 &&& (1073741823 : Int32)) / (2 : Int32)) + (1 : Int32)).toInt64)), .second, .val (.long ((x1 &&& (1073741823 : Int32)).toInt64)), .second, .val (.int (1 : Int32)), .val (.int (0 : Int32)), .unset] [])) _
        refine XS.iconst X29.here hx rfl (hb hby at_203) ?_
        show Steps p.tables e below (T29.setTop (mkF m 204 #[.val (.int x0), .val (.int x1), .val (.int x2), .val (.int (2 : Int32)), .val (.ref w_CONSENSUS), .val (.int (x1 &&& (1073741823 : Int32))), .val (.int ((x2 &&& (2147483647 : Int32)) % ((x1 &&& (1073741823 : Int32)) + (1 : Int32)))), .val (.long ((((x1 &&& (1073741823 : Int32)) / (2 : Int32)) + (1 : Int32)).toInt64)), .second, .val (.long ((x1 &&& (1073741823 : Int32)).toInt64)), .second, .val (.int (1 : Int32)), .val (.int (0 : Int32)), .unset] [(.int (0 : Int32))])) _
        refine XS.istore X29.here hx rfl (hb hby at_204) rfl (l' := #[.val (.int x0), .val (.int x1), .val (.int x2), .val (.int (2 : Int32)), .val (.ref w_CONSENSUS), .val (.int (x1 &&& (1073741823 : Int32))), .val (.int ((x2 &&& (2147483647 : Int32)) % ((x1 &&& (1073741823 : Int32)) + (1 : Int32)))), .val (.long ((((x1 &&& (1073741823 : Int32)) / (2 : Int32)) + (1 : Int32)).toInt64)), .second, .val (.long ((x1 &&& (1073741823 : Int32)).toInt64)), .second, .val (.int (1 : Int32)), .val (.int (0 : Int32)), .val (.int (0 : Int32))]) rfl ?_
        show Steps p.tables e below (T29.setTop (mkF m 206 #[.val (.int x0), .val (.int x1), .val (.int x2), .val (.int (2 : Int32)), .val (.ref w_CONSENSUS), .val (.int (x1 &&& (1073741823 : Int32))), .val (.int ((x2 &&& (2147483647 : Int32)) % ((x1 &&& (1073741823 : Int32)) + (1 : Int32)))), .val (.long ((((x1 &&& (1073741823 : Int32)) / (2 : Int32)) + (1 : Int32)).toInt64)), .second, .val (.long ((x1 &&& (1073741823 : Int32)).toInt64)), .second, .val (.int (1 : Int32)), .val (.int (0 : Int32)), .val (.int (0 : Int32))] [])) _
        refine XS.iload X29.here hx rfl (hb hby at_206) rfl ?_
        show Steps p.tables e below (T29.setTop (mkF m 208 #[.val (.int x0), .val (.int x1), .val (.int x2), .val (.int (2 : Int32)), .val (.ref w_CONSENSUS), .val (.int (x1 &&& (1073741823 : Int32))), .val (.int ((x2 &&& (2147483647 : Int32)) % ((x1 &&& (1073741823 : Int32)) + (1 : Int32)))), .val (.long ((((x1 &&& (1073741823 : Int32)) / (2 : Int32)) + (1 : Int32)).toInt64)), .second, .val (.long ((x1 &&& (1073741823 : Int32)).toInt64)), .second, .val (.int (1 : Int32)), .val (.int (0 : Int32)), .val (.int (0 : Int32))] [(.int (1 : Int32))])) _
        refine XS.ifNo X29.here hx rfl (hb hby at_208) rfl ((if0 _ _).trans (feq ((by decide) : ¬ ((1 : Int32) = (0 : Int32)))).1) ?_
        show Steps p.tables e below (T29.setTop (mkF m 211 #[.val (.int x0), .val (.int x1), .val (.int x2), .val (.int (2 : Int32)), .val (.ref w_CONSENSUS), .val (.int (x1 &&& (1073741823 : Int32))), .val (.int ((x2 &&& (2147483647 : Int32)) % ((x1 &&& (1073741823 : Int32)) + (1 : Int32)))), .val (.long ((((x1 &&& (1073741823 : Int32)) / (2 : Int32)) + (1 : Int32)).toInt64)), .second, .val (.long ((x1 &&& (1073741823 : Int32)).toInt64)), .second, .val (.int (1 : Int32)), .val (.int (0 : Int32)), .val (.int (0 : Int32))] [])) _
        refine XS.iload X29.here hx rfl (hb hby at_211) rfl ?_
        show Steps p.tables e below (T29.setTop (mkF m 213 #[.val (.int x0), .val (.int x1), .val (.int x2), .val (.int (2 : Int32)), .val (.ref w_CONSENSUS), .val (.int (x1 &&& (1073741823 : Int32))), .val (.int ((x2 &&& (2147483647 : Int32)) % ((x1 &&& (1073741823 : Int32)) + (1 : Int32)))), .val (.long ((((x1 &&& (1073741823 : Int32)) / (2 : Int32)) + (1 : Int32)).toInt64)), .second, .val (.long ((x1 &&& (1073741823 : Int32)).toInt64)), .second, .val (.int (1 : Int32)), .val (.int (0 : Int32)), .val (.int (0 : Int32))] [(.int (0 : Int32))])) _
        refine XS.iload X29.here hx rfl (hb hby at_213) rfl ?_
        show Steps p.tables e below (T29.setTop (mkF m 215 #[.val (.int x0), .val (.int x1), .val (.int x2), .val (.int (2 : Int32)), .val (.ref w_CONSENSUS), .val (.int (x1 &&& (1073741823 : Int32))), .val (.int ((x2 &&& (2147483647 : Int32)) % ((x1 &&& (1073741823 : Int32)) + (1 : Int32)))), .val (.long ((((x1 &&& (1073741823 : Int32)) / (2 : Int32)) + (1 : Int32)).toInt64)), .second, .val (.long ((x1 &&& (1073741823 : Int32)).toInt64)), .second, .val (.int (1 : Int32)), .val (.int (0 : Int32)), .val (.int (0 : Int32))] [(.int (0 : Int32)), (.int (0 : Int32))])) _
        refine XS.icmpNo X29.here hx rfl (hb hby at_215) rfl (teq ((by decide) : (0 : Int32) = (0 : Int32))).2 ?_
        show Steps p.tables e below (T29.setTop (mkF m 218 #[.val (.int x0), .val (.int x1), .val (.int x2), .val (.int (2 : Int32)), .val (.ref w_CONSENSUS), .val (.int (x1 &&& (1073741823 : Int32))), .val (.int ((x2 &&& (2147483647 : Int32)) % ((x1 &&& (1073741823 : Int32)) + (1 : Int32)))), .val (.long ((((x1 &&& (1073741823 : Int32)) / (2 : Int32)) + (1 : Int32)).toInt64)), .second, .val (.long ((x1 &&& (1073741823 : Int32)).toInt64)), .second, .val (.int (1 : Int32)), .val (.int (0 : Int32)), .val (.int (0 : Int32))] [])) _
        refine XS.iconst X29.here hx rfl (hb hby at_218) ?_
        show Steps p.tables e below (T29.setTop (mkF m 219 #[.val (.int x0), .val (.int x1), .val (.int x2), .val (.int (2 : Int32)), .val (.ref w_CONSENSUS), .val (.int (x1 &&& (1073741823 : Int32))), .val (.int ((x2 &&& (2147483647 : Int32)) % ((x1 &&& (1073741823 : Int32)) + (1 : Int32)))), .val (.long ((((x1 &&& (1073741823 : Int32)) / (2 : Int32)) + (1 : Int32)).toInt64)), .second, .val (.long ((x1 &&& (1073741823 : Int32)).toInt64)), .second, .val (.int (1 : Int32)), .val (.int (0 : Int32)), .val (.int (0 : Int32))] [(.int (1 : Int32))])) _
        refine XS.goto X29.here hx rfl (pc0 := 219) (pc' := 223) rfl (hb hby at_219) (by decide) (by decide) ?_
        exact kk)
      obtain ⟨fs, hr, hrun, hended, hW, hsame⟩ := X29.leave (v := some (.int (1 : Int32))) (fun h => by rw [Bd.returns] at h; cases h)
      refine ⟨_, _, pre33 _ ?_, hrun, hended, _, _, rfl, ?_, ⟨_, rfl⟩, hW, hsame.mono (by decide) (by decide)⟩
      · exact retN X29 hx (t := .boolean) Bd.returns (by simp) (hb hby at_223) hr
      · exact ⟨rfl, N29⟩
set_option maxRecDepth 65536 in
set_option maxHeartbeats 40000000 in
theorem comes_1 {Post : Tables → Env → Array Value → State → Outcome → State → Prop} (hpost : ∀ tb e args s v u, (limb_1_1.after args s (.returned v) u = true ∧ limb_1_2.after args s (.returned v) u = true ∧ True) → FrameEnd s (.returned v) u (Jvm.fieldLocs frame_1_writes args s ++ Jvm.arrayLocs frame_1_arrays args s ++ Jvm.staticLocs frame_1_statics s) 0 0 → Post tb e args s (.returned v) u) :
    ArmFor flags0 classFile x code maxLocals ret World_1 tables_1 room_1 Calls_1 rest_1 Pre_1 Post := by
  intro l hfl _ _ p e ha hc hk s m args below hf hA hF happ hP
  obtain ⟨hcalls, hrest, hpre⟩ := hP
  obtain ⟨-, -, -, hnamed, -, -, -, hat⟩ := (Spec.applies_iff hf).mp happ
  obtain ⟨hg, hn⟩ := and_e (Cond.before_iff.mp (show (Jvm.Cond.and given_1 narrow_1).before args s = true from hpre))
  obtain ⟨hcount, hgs⟩ := and_e hg
  obtain ⟨hk0, hr0⟩ := and_e hgs
  obtain ⟨hk1, hr1⟩ := and_e hr0
  obtain ⟨v0, v1, v2, rfl⟩ : ∃ v0 v1 v2 : Value, args = #[v0, v1, v2] := by
    have hs : args.size = 3 := by simpa [Cond.value, given_1] using hcount
    obtain ⟨L⟩ := args
    match L, hs with
    | [v0, v1, v2], _ => exact ⟨v0, v1, v2, rfl⟩
  have hw := fun d (hd : d ∈ tables_1) => atoms_spec (ws := Jvm.Cond.code x code maxLocals ret :: tables_1) hat d (List.mem_cons_of_mem _ hd)
  have hfit : Fit s := fun {y c} hc i hi => by
    obtain ⟨ha, rfl⟩ := Array.getElem?_eq_some_iff.mp hc
    have q := List.all_eq_true.mp ((Array.all_eq_true_iff_forall_mem.mp hF) _ (Array.getElem_mem ha)) i (List.mem_range.mpr hi)
    simpa [Array.getElem?_eq_getElem hi] using q
  obtain ⟨i0, ei0⟩ := is_v hk0
  obtain rfl : v0 = (.int i0) := Option.some.inj ei0
  obtain ⟨i1, ei1⟩ := is_v hk1
  obtain rfl : v1 = (.int i1) := Option.some.inj ei1
  obtain ⟨i2, ei2⟩ := is_v hr1
  obtain rfl : v2 = (.int i2) := Option.some.inj ei2
  obtain ⟨n1, n2⟩ := and_e hn
  obtain ⟨n3, n4⟩ := and_e n2
  obtain ⟨n5, n6⟩ := and_e n4
  obtain ⟨n7, n8⟩ := and_e n6
  obtain ⟨n9, n10⟩ := and_e n8
  obtain ⟨w_UNANIMOUS, e_w_UNANIMOUS⟩ := exa_v n1
  obtain ⟨w_AFFIRMATIVE, e_w_AFFIRMATIVE⟩ := exa_v n3
  obtain ⟨w_CONSENSUS, e_w_CONSENSUS⟩ := exa_v n9
  have h_S_w_UNANIMOUS := Sta.start e_w_UNANIMOUS (Or.inr ⟨(hw _ (List.mem_of_getElem? (i := 2) rfl)), (hw _ (List.mem_of_getElem? (i := 3) rfl))⟩)
  have h_E_w_UNANIMOUS := Exa.start e_w_UNANIMOUS n1
  have h_S_w_AFFIRMATIVE := Sta.start e_w_AFFIRMATIVE (Or.inr ⟨(hw _ (List.mem_of_getElem? (i := 2) rfl)), (hw _ (List.mem_of_getElem? (i := 11) rfl))⟩)
  have h_E_w_AFFIRMATIVE := Exa.start e_w_AFFIRMATIVE n3
  have h_S_w_CONSENSUS := Sta.start e_w_CONSENSUS (Or.inr ⟨(hw _ (List.mem_of_getElem? (i := 2) rfl)), (hw _ (List.mem_of_getElem? (i := 15) rfl))⟩)
  have h_E_w_CONSENSUS := Exa.start e_w_CONSENSUS n9
  have h_F_ordinal_w_UNANIMOUS := own_fld e_w_UNANIMOUS n5
  have h_F_ordinal_w_AFFIRMATIVE := own_fld e_w_AFFIRMATIVE n7
  have h_F_ordinal_w_CONSENSUS := own_fld e_w_CONSENSUS n10
  obtain ⟨n, o, h1, h2, h3, _, L, rfl, ⟨rfl, N⟩, hq⟩ := rm0 l s _ hw tables_1 i0 i1 i2 w_UNANIMOUS w_AFFIRMATIVE w_CONSENSUS s.heap s.heap.size (Nat.le_refl _) h_S_w_UNANIMOUS h_E_w_UNANIMOUS h_S_w_AFFIRMATIVE h_E_w_AFFIRMATIVE h_S_w_CONSENSUS h_E_w_CONSENSUS h_F_ordinal_w_UNANIMOUS h_F_ordinal_w_AFFIRMATIVE h_F_ordinal_w_CONSENSUS p e ha hc hk s m _ below hf ((Spec.applies_iff_loose hf).mp happ).1 ⟨rfl, State.Warmed39.refl s, rfl⟩ trivial
  exact ⟨n, _, h1, h2, h3, hpost _ _ _ _ _ _ ⟨Cond.after_iff.mpr rfl, Cond.after_iff.mpr (eq_i res_at (Term.int_eval (1)) rfl), trivial⟩ ⟨hq.1, hq.2.1, (hq.2.2.sift fun y hy => Or.inr (N y hy)).mono (by decide) (by decide)⟩⟩
theorem main_1_1 : Claimed_1_1 := comes_1 fun _ _ _ _ _ _ h hF => ⟨h.1, hF⟩
theorem main_1_2 : Claimed_1_2 := comes_1 fun _ _ _ _ _ _ h hF => ⟨h.2.1, hF⟩
end Jvm.Pilot.@@N@@
namespace Jvm.Pilot.@@N@@
open Jvm Jvm.ClassFile Sem Op Lib Jvm.Free Jvm.Stand Jvm.Pilot.@@N@@.Jvm.D
/-! MADE BY PROGRAM (witnessworld.py) out of the Statement's table words and the real class files: 12 classes; the members and pool entries that the words name. The judged class is class 1, her method 1. -/
namespace start1
open Jvm.ClassFile
def u (s : String) : CpInfo := .utf8 (stringToUtf16 s)
/-- a pool by its gaps: so many unusable entries, then the entry; so many at the end -/
def gap : Nat → List CpInfo → List CpInfo
  | 0, r => r
  | n + 1, r => .unusable :: gap n r
def poolList (es : List (Nat × CpInfo)) (last : Nat) : List CpInfo := es.foldr (fun e r => gap e.1 (e.2 :: r)) (gap last [])
def pool (es : List (Nat × CpInfo)) (last : Nat) : Array CpInfo := ⟨poolList es last⟩
def fileOf (pool : Array CpInfo) (this : Nat) (attrs : Array Attribute := #[]) (ms : Array MethodInfo := #[]) (fl : Nat := 33) (sup : Nat := 0) (ifs : Array Nat := #[]) (fds : Array FieldInfo := #[]) : ClassFile where
  minorVersion := 0
  majorVersion := 65
  constantPool := pool
  accessFlags := fl
  thisClass := this
  superClass := sup
  interfaces := ifs
  fields := fds
  methods := ms
  attributes := attrs
def plain (name : String) (sup : Option ClassId) : Class where
  name := name
  kind := .ordinary
  loader := none
  accessFlags := 33
  super := sup
  interfaces := #[]
  cf := none
  fields := #[]
  methods := #[]
  instanceTypes := #[]
  staticTypes := #[]
  resolved := #[]
  callSites := []
  init := .initialized
  statics := none
  mirror := none

def pool0 : Array CpInfo := pool [(5, u "<init>"), (0, u "()V"), (1, .class_ 10), (1, u "java/lang/Object")] 113

def k0m0 : Method := { name := "<init>", desc := "()V", sig := { parameters := [], returnType := none }, accessFlags := 1, code := none }
/-- java/lang/Object -/
def k0 : Class := { plain "java/lang/Object" none with
  accessFlags := 33
  interfaces := #[]
  cf := some (fileOf pool0 8 #[] #[{ accessFlags := 1, nameIndex := 5, descriptorIndex := 6, attributes := #[] }] 33 0 #[] #[])
  fields := #[]
  methods := #[k0m0]
  instanceTypes := #[]
  staticTypes := #[]
  resolved := Array.replicate 124 none
  statics := none }

def pool1 : Array CpInfo := pool [(2, .class_ 4), (1, u "java/lang/Object"), (0, u "<init>"), (0, u "()V"), (0, .integer 2147483647), (0, .fieldref 9 10), (0, .class_ 11), (0, .nameAndType 12 13), (0, u "com/example/svratka/svratka/authz/DecisionStrategy"), (0, u "UNANIMOUS"), (0, u "Lcom/example/svratka/svratka/authz/DecisionStrategy;"), (0, .fieldref 9 15), (0, .nameAndType 16 13), (0, u "AFFIRMATIVE"), (0, .fieldref 9 18), (0, .nameAndType 19 13), (0, u "CONSENSUS"), (0, .integer 1073741823), (0, .methodref 9 22), (0, .nameAndType 23 24), (0, u "grantsNeeded"), (0, u "(I)I"), (0, .long 2), (1, .class_ 28), (0, u "com/example/svratka/svratka/authz/DecisionStrategyGrantsNeededPinLaw"), (2, u "law"), (0, u "(III)Z")] 3

def k1m0 : Method := { name := "<init>", desc := "()V", sig := { parameters := [], returnType := none }, accessFlags := 1, code := none }
def k1c1 : Code := { maxStack := 6, maxLocals := 14, code := code, exceptionTable := #[], attributes := #[] }
def k1m1 : Method := { name := "law", desc := "(III)Z", sig := { parameters := [.int, .int, .int], returnType := some .boolean }, accessFlags := 9, code := some k1c1 }
/-- com/example/svratka/svratka/authz/DecisionStrategyGrantsNeededPinLaw -/
def k1 : Class := { plain "com/example/svratka/svratka/authz/DecisionStrategyGrantsNeededPinLaw" (some 0) with
  accessFlags := 49
  interfaces := #[]
  cf := some (fileOf pool1 27 #[] #[{ accessFlags := 1, nameIndex := 5, descriptorIndex := 6, attributes := #[] }, { accessFlags := 9, nameIndex := 31, descriptorIndex := 32, attributes := #[] }] 49 2 #[] #[])
  fields := #[]
  methods := #[k1m0, k1m1]
  instanceTypes := #[]
  staticTypes := #[]
  resolved := Array.replicate 36 none
  statics := none }

def pool2 : Array CpInfo := pool [(1, .class_ 2), (0, u "java/lang/constant/Constable"), (0, .class_ 4), (0, u "java/lang/Object")] 6

/-- java/lang/constant/Constable -/
def k2 : Class := { plain "java/lang/constant/Constable" (some 0) with
  accessFlags := 1537
  interfaces := #[]
  cf := some (fileOf pool2 1 #[] #[] 1537 3 #[] #[])
  fields := #[]
  methods := #[]
  instanceTypes := #[]
  staticTypes := #[]
  resolved := Array.replicate 11 none
  statics := none }

def pool3 : Array CpInfo := pool [(1, .class_ 2), (0, u "java/lang/Comparable"), (0, .class_ 4), (0, u "java/lang/Object")] 7

/-- java/lang/Comparable -/
def k3 : Class := { plain "java/lang/Comparable" (some 0) with
  accessFlags := 1537
  interfaces := #[]
  cf := some (fileOf pool3 1 #[] #[] 1537 3 #[] #[])
  fields := #[]
  methods := #[]
  instanceTypes := #[]
  staticTypes := #[]
  resolved := Array.replicate 12 none
  statics := none }

def pool4 : Array CpInfo := pool [(1, .class_ 2), (0, u "java/io/Serializable"), (0, .class_ 4), (0, u "java/lang/Object")] 2

/-- java/io/Serializable -/
def k4 : Class := { plain "java/io/Serializable" (some 0) with
  accessFlags := 1537
  interfaces := #[]
  cf := some (fileOf pool4 1 #[] #[] 1537 3 #[] #[])
  fields := #[]
  methods := #[]
  instanceTypes := #[]
  staticTypes := #[]
  resolved := Array.replicate 7 none
  statics := none }

def pool5 : Array CpInfo := pool [(2, .class_ 4), (1, u "java/lang/Enum"), (0, u "name"), (0, u "Ljava/lang/String;"), (2, u "ordinal"), (0, u "I"), (1, .class_ 14), (1, u "java/lang/Object"), (4, u "hash"), (86, .class_ 108), (1, u "java/lang/Enum$EnumDesc"), (2, .class_ 112), (0, u "java/lang/constant/Constable"), (0, .class_ 114), (0, u "java/lang/Comparable"), (0, .class_ 116), (0, u "java/io/Serializable")] 87

/-- java/lang/Enum -/
def k5 : Class := { plain "java/lang/Enum" (some 0) with
  accessFlags := 1057
  interfaces := #[2, 3, 4]
  cf := some (fileOf pool5 2 #[.nestMembers #[106]] #[] 1057 12 #[111, 113, 115] #[{ accessFlags := 18, nameIndex := 5, descriptorIndex := 6, attributes := #[] }, { accessFlags := 18, nameIndex := 9, descriptorIndex := 10, attributes := #[] }, { accessFlags := 2, nameIndex := 19, descriptorIndex := 10, attributes := #[] }])
  fields := #[{ name := "name", type := (.object "java/lang/String"), accessFlags := 18, slot := 0, constantValue := 0 }, { name := "ordinal", type := .int, accessFlags := 18, slot := 1, constantValue := 0 }, { name := "hash", type := .int, accessFlags := 2, slot := 2, constantValue := 0 }]
  methods := #[]
  instanceTypes := #[(.object "java/lang/String"), .int, .int]
  staticTypes := #[]
  resolved := Array.replicate 204 none
  statics := none }

def pool6 : Array CpInfo := pool [(1, .class_ 2), (0, u "com/example/svratka/svratka/authz/DecisionStrategy"), (0, .fieldref 1 4), (0, .nameAndType 5 6), (0, u "UNANIMOUS"), (0, u "Lcom/example/svratka/svratka/authz/DecisionStrategy;"), (0, .fieldref 1 8), (0, .nameAndType 9 6), (0, u "AFFIRMATIVE"), (2, u "CONSENSUS"), (2, u "$VALUES"), (0, u "[Lcom/example/svratka/svratka/authz/DecisionStrategy;"), (6, .class_ 25), (1, u "java/lang/Enum"), (44, u "grantsNeeded"), (0, u "(I)I")] 19

def k6c0 : Code := { maxStack := 2, maxLocals := 3, code := prog_10_method_5_code, exceptionTable := #[], attributes := #[] }
def k6m0 : Method := { name := "grantsNeeded", desc := "(I)I", sig := { parameters := [.int], returnType := some .int }, accessFlags := 0, code := some k6c0 }
/-- com/example/svratka/svratka/authz/DecisionStrategy -/
def k6 : Class := { plain "com/example/svratka/svratka/authz/DecisionStrategy" (some 5) with
  accessFlags := 16433
  interfaces := #[]
  cf := some (fileOf pool6 1 #[] #[{ accessFlags := 0, nameIndex := 70, descriptorIndex := 71, attributes := #[] }] 16433 23 #[] #[{ accessFlags := 16409, nameIndex := 5, descriptorIndex := 6, attributes := #[] }, { accessFlags := 16409, nameIndex := 9, descriptorIndex := 6, attributes := #[] }, { accessFlags := 16409, nameIndex := 12, descriptorIndex := 6, attributes := #[] }, { accessFlags := 4122, nameIndex := 15, descriptorIndex := 16, attributes := #[] }])
  fields := #[{ name := "UNANIMOUS", type := (.object "com/example/svratka/svratka/authz/DecisionStrategy"), accessFlags := 16409, slot := 0, constantValue := 0 }, { name := "AFFIRMATIVE", type := (.object "com/example/svratka/svratka/authz/DecisionStrategy"), accessFlags := 16409, slot := 1, constantValue := 0 }, { name := "CONSENSUS", type := (.object "com/example/svratka/svratka/authz/DecisionStrategy"), accessFlags := 16409, slot := 2, constantValue := 0 }, { name := "$VALUES", type := (.array (.object "com/example/svratka/svratka/authz/DecisionStrategy")), accessFlags := 4122, slot := 3, constantValue := 0 }]
  methods := #[k6m0]
  instanceTypes := #[(.object "java/lang/String"), .int, .int]
  staticTypes := #[(.object "com/example/svratka/svratka/authz/DecisionStrategy"), (.object "com/example/svratka/svratka/authz/DecisionStrategy"), (.object "com/example/svratka/svratka/authz/DecisionStrategy"), (.array (.object "com/example/svratka/svratka/authz/DecisionStrategy"))]
  resolved := Array.replicate 91 none
  statics := some 0 }

def pool7 : Array CpInfo := pool [(1, u "java/lang/Cloneable"), (0, .class_ 1), (0, u "java/lang/Object"), (0, .class_ 3)] 3

/-- java/lang/Cloneable -/
def k7 : Class := { plain "java/lang/Cloneable" (some 0) with
  accessFlags := 1537
  interfaces := #[]
  cf := some (fileOf pool7 2 #[] #[] 1537 4 #[] #[])
  fields := #[]
  methods := #[]
  instanceTypes := #[]
  staticTypes := #[]
  resolved := Array.replicate 8 none
  statics := none }

/-- the primitive byte -/
def k8 : Class := { plain "byte" none with kind := .primitive 'B', accessFlags := 0x411 }
/-- [B -/
def k9 : Class := { plain "[B" (some 0) with kind := .array 8 .byte, interfaces := #[7, 4], accessFlags := 1041 }

/-- the primitive int -/
def k10 : Class := { plain "int" none with kind := .primitive 'I', accessFlags := 0x411 }
/-- [I -/
def k11 : Class := { plain "[I" (some 0) with kind := .array 10 .int, interfaces := #[7, 4], accessFlags := 1041 }

def heap : Heap := #[{ cls := 6, slots := #[.ref 1, .ref 2, .ref 3, .null], vm := .statics 6 },
  { cls := 6, slots := #[.null, .int 0, .int 0], vm := .none },
  { cls := 6, slots := #[.null, .int 1, .int 0], vm := .none },
  { cls := 6, slots := #[.null, .int 2, .int 0], vm := .none }]
def classes : Array Class := #[k0, k1, k2, k3, k4, k5, k6, k7, k8, k9, k10, k11]
def interned : List (Array UInt16 × Addr) := []
def slotsUsed : Nat := 13
def theMethod : MethodId := ⟨1, 1⟩
def args0 : Array Value := #[.int 5, .int 6, .int 7]
def aboutOver (below : List Frame) : State where
  vm := { classes := classes, interned := interned.toArray }
  heap := heap
  slotsUsed := slotsUsed
  threads := #[{ frames := .invoking theMethod args0 :: below }]
def below0 : List Frame := [.native { method := ⟨0, 0⟩, args := #[] }]
def about1 : State := aboutOver below0
def p0 : Program := .bare "" "" ""
def e0 : Env := launch0.env 0 0 0
theorem w_frames : about1.frames = Frame.invoking theMethod args0 :: below0 := rfl
set_option maxRecDepth 65536 in
theorem w_args : argsFit about1.vm theMethod args0 = true := by decide +kernel
set_option maxRecDepth 65536 in
theorem w_heap : heapFits about1 = true := by decide +kernel
set_option maxRecDepth 65536 in
theorem w_runnable : about1.curStatus? = some .runnable := by decide +kernel
set_option maxRecDepth 65536 in
theorem w_alone : about1.alone = true := by decide +kernel
set_option maxRecDepth 65536 in
theorem w_named : about1.methodNamed? x = some theMethod := by decide +kernel
set_option maxRecDepth 65536 in
theorem w_hears : about1.hears theMethod below0 = true := by decide +kernel
set_option maxRecDepth 65536 in
theorem w_ripe : about1.ripe theMethod args0 below0 = true := by decide +kernel
theorem w_running : about1.status = .running := rfl
set_option maxRecDepth 65536 in
theorem w_room : about1.hasRoom e0.platform room_1 = true :=
  launch0.hasRoom_least _ room_1 (by decide +kernel) (by decide +kernel) (by decide +kernel) (by decide +kernel) (by decide +kernel) (by decide +kernel)
theorem allAtoms_all (ts : List Jvm.Cond) (a : Array Jvm.Value) (st : Jvm.State) : (allAtoms ts).before a st = ts.all (fun c => c.before a st) := by
  induction ts with
  | nil => rfl
  | cons c t ih =>
    show (Jvm.Cond.and c (allAtoms t)).before a st = _
    rw [Jvm.Cond.before_and, ih, List.all_cons]
def words1 : List Jvm.Cond := Jvm.Cond.code x code maxLocals ret :: tables_1
/-- a 'code' word, met by the world's own term for the bytes: nothing is compared byte by byte -/
theorem code_word {y : MethodName} {bytes : ByteArray} {mx : Nat} {rt : Option FieldType} {a : Array Value} {s : State} {m : MethodId} {meth : Method} {c : Code} (h1 : s.methodNamed? y = some m) (h2 : s.vm.method? m = some meth) (h3 : meth.code = some c) (h4 : c.code = bytes)
    (h5 : (c.maxLocals == mx && c.exceptionTable.isEmpty && decide (c.maxStack ≤ mostOperands) && decide (meth.sig.returnType = rt) && !meth.locks && decide (parseMethodDescriptor y.desc = some meth.sig)) = true) : (Jvm.Cond.code y bytes mx rt).before a s = true := by
  simp only [Bool.and_eq_true, beq_iff_eq, Bool.not_eq_true', decide_eq_true_eq] at h5
  obtain ⟨⟨⟨⟨⟨g1, g2⟩, g3⟩, g4⟩, g5⟩, g6⟩ := h5
  simp [Cond.before, Cond.holds, Cond.value, h1, h2, h3, h4, g1, g2, g3, g4, g5, g6]
def isCode : Jvm.Cond → Bool
  | .code _ _ _ _ => true
  | _ => false
theorem all_split {L : List Jvm.Cond} {P : Jvm.Cond → Bool} (h1 : L.all (fun c => isCode c || P c) = true) (h2 : ∀ c ∈ L.filter isCode, P c = true) : L.all P = true := by
  refine List.all_eq_true.mpr fun c hc => ?_
  have h := List.all_eq_true.mp h1 c hc
  rcases Bool.eq_false_or_eq_true (isCode c) with hi | hi
  · exact h2 c (List.mem_filter.mpr ⟨hc, hi⟩)
  · simpa [hi] using h
set_option maxRecDepth 65536 in
theorem w_c0 : (Jvm.Cond.code x code maxLocals ret).before args0 about1 = true := code_word (m := ⟨1, 1⟩) (meth := k1m1) (c := k1c1) (by decide +kernel) rfl rfl rfl (by decide +kernel)
set_option maxRecDepth 65536 in
theorem w_c1 : (Jvm.Cond.code ({ cls := "com/example/svratka/svratka/authz/DecisionStrategy", name := "grantsNeeded", desc := "(I)I" } : Jvm.MethodName) prog_10_method_5_code (3 : Nat) (Option.some Jvm.ClassFile.FieldType.int)).before args0 about1 = true := code_word (m := ⟨6, 0⟩) (meth := k6m0) (c := k6c0) (by decide +kernel) rfl rfl rfl (by decide +kernel)
def codes1 : List Jvm.Cond := [Jvm.Cond.code x code maxLocals ret, Jvm.Cond.code ({ cls := "com/example/svratka/svratka/authz/DecisionStrategy", name := "grantsNeeded", desc := "(I)I" } : Jvm.MethodName) prog_10_method_5_code (3 : Nat) (Option.some Jvm.ClassFile.FieldType.int)]
set_option maxRecDepth 65536 in
theorem codes_eq : words1.filter isCode = codes1 := rfl
theorem w_codes : ∀ c ∈ words1.filter isCode, c.before args0 about1 = true := by
  rw [codes_eq]
  intro c hc
  simp only [codes1, List.mem_cons, List.not_mem_nil, or_false] at hc
  rcases hc with rfl | rfl
  · exact w_c0
  · exact w_c1
set_option maxRecDepth 65536 in
theorem w_t1 : words1.all (fun c => isCode c || c.before args0 about1) = true := by decide +kernel
theorem w_tables : (allAtoms (Jvm.Cond.code x code maxLocals ret :: tables_1)).before args0 about1 = true := by
  rw [allAtoms_all]
  show words1.all (fun c => c.before args0 about1) = true
  refine all_split ?_ w_codes
  rw [w_t1]
set_option maxRecDepth 65536 in
theorem w_case : (Jvm.Cond.and given_1 narrow_1).before args0 about1 = true := by decide +kernel
theorem w_applies : (headSpec (Jvm.Cond.code x code maxLocals ret :: tables_1) room_1).applies x e0.platform about1 = true :=
  (Spec.applies_iff w_frames).mpr ⟨w_running, w_runnable, w_alone, w_named, w_hears, w_ripe, w_room, w_tables⟩
theorem atStart : AtStart classFile x code maxLocals ret World_1 tables_1 room_1 Calls_1 rest_1 Pre_1 launch0 p0 e0 about1 theMethod args0 below0 :=
  ⟨lists_1, trivial, launch0.admits_env _ _ _, launch0.least_env, fairChoices_fair.cas, fairChoices_fair.clock, w_frames, w_args, w_heap, w_applies, trivial, trivial, w_case⟩
end start1
theorem witness_1 : WitnessClaimed_1 := ⟨start1.p0, start1.e0, start1.about1, start1.theMethod, start1.args0, start1.below0, start1.atStart⟩
end Jvm.Pilot.@@N@@
