import JvmDerived
import JvmDerived.Pilot.@@N@@Statement
import JvmDerived.Pilot.@@N@@Code
set_option linter.unusedVariables false
set_option linter.unusedSimpArgs false
namespace Jvm.RoadKit
open Sem ClassFile Op Lib Jvm.Stand Jvm.Free Jvm.LawKit
section New
variable {p : Program} {l : Launch} {e : Env} {R : Room} {s : State} {m : MethodId} {args : Array Value} {below : List Frame} {meth : Method} {c : Code} {T : State} {locs : List Loc} {cells slots : Nat}
theorem retI (X : Stand p l e R s m args below meth c T locs cells slots) (hx : p.tables.exec = Jvm.exec) {pc : Nat} {Ls : Array Slot} {z : Int32} {rest : List Value} (hret : meth.sig.returnType = some .int) (hd : decode c.code pc = .ok (.ireturn, 1)) {fs : List Frame}
    (hl : ∀ (f : JFrame) (acts : List Action), f.method = m → f.locked = none → f.entered = [] → (doReturn e (T.setTop f) acts (some (.int z))).1 = T.setFrames fs) : Steps p.tables e below (T.setTop (mkF m pc Ls (.int z :: rest))) (T.setFrames fs) := by
  have hm' : T.vm.method? m = some meth := X.method'
  have hn : narrow .int (.int z) = .int z := rfl
  show Steps p.tables e below (T.setTop { method := m, pc := pc, locals := Ls, stack := _ :: rest, locked := none }) _
  jvm_step X.here [X.here.top, hx, hd, hm', hret, hn]
  first | (intro acts; rw [hl _ acts rfl rfl rfl]) | rw [hl _ _ rfl rfl rfl]
  exact Steps.refl _
end New
end Jvm.RoadKit
namespace Jvm.Pilot.@@N@@
open Jvm Jvm.ClassFile Sem Op Lib Jvm.Free Jvm.Stand Jvm.LawKit Jvm.RoadKit Bundle Jvm.Pilot.@@N@@.Jvm.D
theorem own_fld {Z : State} {args : Array Value} {t : Term} {C n d : String} {k : Int32} {x : Addr} (ht : t.eval args Z none [] Z = some (.ref x)) (h : (Jvm.Cond.eq (Term.field t C n d) (Term.int k)).value args Z none Z [] = some true) : Fld Z Z.heap x C n d (.int k) := by
  refine Fld.start ?_
  have e := fld_at (C := C) (n := n) (dd := d) ht
  obtain ⟨u, w, e1, e2, -, -⟩ := cmp_v (Or.inl h)
  rw [e] at e1
  have e3 : (Term.int k).eval args Z none [] Z = some (.int k) := Term.int_eval k
  cases e3.symm.trans e2
  have e4 : (Term.field t C n d).eval args Z none [] Z = some u := e.trans e1
  have h' := h
  cases u <;> simp [Jvm.Cond.value, e4, e3] at h'
  subst h'
  exact e1
theorem own_NSroot {Z : State} {a0 : Array Value} {O K : String} {n : Nat} (w : (Jvm.Cond.noSuperclass O).before a0 Z = true) (wk : (Jvm.Cond.instantiable K n).before a0 Z = true) (hn : O ≠ K) : NS Z O K := by
  obtain ⟨c, k, h1, h2, h3, -, -⟩ := Cond.noSuperclass_spec w
  obtain ⟨t, k', g1, -⟩ := Cond.instantiable_spec wk
  have ne := ids_ne h1 g1 hn
  refine ⟨c, t, h1, g1, fun fuel => ?_⟩
  cases fuel with
  | zero => rfl
  | succ f => simp [Vm.isSubclassAux, ne, h2, h3]
theorem own_NSno {Z : State} {a0 : Array Value} {C S K : String} {n : Nat} (w : (Jvm.Cond.superclass C S).before a0 Z = true) (wk : (Jvm.Cond.instantiable K n).before a0 Z = true) (ns : NS Z C K) (hn : C ≠ K) : ∃ c t, Z.vm.findClass C = some c ∧ Z.vm.findClass K = some t ∧ Z.vm.assignable c t = false := by
  obtain ⟨c, t, h0, g0, n3⟩ := ns
  obtain ⟨p, k, kp, h1, h2, h3, h4, h5, -, h7⟩ := Cond.superclass_spec h0 w
  obtain ⟨t', k', g1, g2, g5, g6, -⟩ := Cond.instantiable_spec wk
  cases g0.symm.trans g1
  have g7 : k'.isInterface = false := by cases q : k'.isInterface <;> simp [q] at g6 ⊢
  have ne := ids_ne h0 g0 hn
  refine ⟨c, t, h0, g0, ?_⟩
  show Z.vm.assignableAux (255 + 1) c t = false
  simp [Vm.assignableAux, ne, h2, g2, h5, g5, g7, Vm.isSubclass, n3]
theorem own_eqI {Z : State} {args : Array Value} {t : Term} {k : Int32} (h : (Jvm.Cond.eq t (Term.int k)).value args Z none Z [] = some true) : t.eval args Z none [] Z = some (.int k) := by
  obtain ⟨u, w, e1, e2, -, -⟩ := cmp_v (Or.inl h)
  have e3 : (Term.int k).eval args Z none [] Z = some (.int k) := Term.int_eval k
  cases e3.symm.trans e2
  have h' := h
  cases u <;> simp [Jvm.Cond.value, e1, e3] at h'
  subst h'
  exact e1
theorem own_maskHi (x m : Int32) (k : Nat) (hk : k ≤ 31) (hm : m.toBitVec.toNat = 2 ^ k - 1) : (x &&& m).toInt < ((2 ^ k : Nat) : Int) := by
  rw [c_mask x m k hk hm]; exact Int.emod_lt_of_pos _ (Int.natCast_pos.mpr (Nat.two_pow_pos k))
theorem own_maskLo (x m : Int32) (k : Nat) (hk : k ≤ 31) (hm : m.toBitVec.toNat = 2 ^ k - 1) : 0 ≤ (x &&& m).toInt := by
  rw [c_mask x m k hk hm]; exact Int.emod_nonneg _ (Int.natCast_ne_zero.mpr (Nat.ne_of_gt (Nat.two_pow_pos k)))
theorem own_remLo (x y : Int32) (hx : 0 ≤ x.toInt) (hy : 0 < y.toInt) : 0 ≤ (x % y).toInt := ((c_iremV x y).1 hx hy).1
theorem own_remHi (x y : Int32) (hx : 0 ≤ x.toInt) (hy : 0 < y.toInt) : (x % y).toInt < y.toInt := ((c_iremV x y).1 hx hy).2.1
theorem own_nf {s : State} {args : Array Value} {C : String} {z y : MethodName} (hsel : (Jvm.Cond.selects C z z).before args s = true) (e : z.cls = y.cls) : NotFace s y := fun r0 h0 => by
  obtain ⟨c2, r2, m2, -, -, q3, -, kP, hkP, hkPi⟩ := Cond.selects_spec hsel
  have a := findClass_of_methodNamed q3
  rw [e] at a
  have b : m2.cls = r0.cls := Option.some.inj (a.symm.trans (findClass_of_methodNamed h0))
  exact ⟨kP, b ▸ hkP, hkPi⟩
theorem own_privateBack {p : Program} {l : Launch} {e : Env} {R : Room} {s : State} {m : MethodId} {args : Array Value} {below : List Frame} {meth : Method} {c : Code} {T : State} {locs : List Loc} {cells slots : Nat} (X : Stand p l e R s m args below meth c T locs cells slots) (hexec : p.tables.exec = Jvm.exec) {own : String} {index : Nat} {y : MethodName} {bytes : ByteArray} {maxL : Nat} {ret : Option FieldType}
    (hown : s.vm.findClass own = some m.cls) (hlink : (Jvm.Cond.methodLink own index y).before args s = true) (hinst : (Jvm.Cond.instanceMethod y).before args s = true) (hnf : NotFace s y)
    (hpriv : s.PrivateAt y) (hcode : (Jvm.Cond.code y bytes maxL ret).before args s = true) (hy : y.cls ≠ "java/lang/invoke/MethodHandle" ∧ y.cls ≠ "java/lang/invoke/VarHandle")
    {W : Nat} {Pre : Pt → Array Value → Prop} {Post : Pt → Array Value → Option Value → Pt → Prop} (hK : Back l R p e below s args y 3 W Pre Post)
    {g : JFrame} (hg : g.method = m) (hsize : g.locals.size = c.maxLocals) {s₀ : State} (hcome : Steps p.tables e below s₀ (T.setTop g)) {a : Addr} {cell : Cell} (hcell : T.heap[a]? = some cell) (hobj : ∀ q, cell.vm ≠ .statics q)
    {argsL rest : List Value} (hlen : ∀ sig, parseMethodDescriptor y.desc = some sig → argsL.length = sig.parameters.length)
    (hstack : g.stack = argsL.reverse ++ .ref a :: rest) (hW : 2 * g.monitorRoom + (rest.map fun v => v.category).sum ≤ W) (hdg : decode c.code g.pc = .ok (.invokevirtual index, 3))
    (hpre : ∀ vm₁, s.WarmedH vm₁ → Pre ⟨T.setVm vm₁, locs, cells, slots⟩ (.ref a :: argsL).toArray) :
    ∃ (v : Option Value) (vm₁ : Vm) (B : Pt), s.WarmedH vm₁ ∧ Stand p l e R s m args below meth c B.U B.locs B.cells B.slots ∧ Post ⟨T.setVm vm₁, locs, cells, slots⟩ (.ref a :: argsL).toArray v B ∧
      Steps p.tables e below s₀ (B.U.setTop { g with pc := g.pc + 3, stack := v.toList ++ rest }) := by
  obtain ⟨mk, methM, hnamed, hmethM, hstM, habM⟩ := Cond.instanceMethod_spec hinst
  obtain ⟨_, _, hmeth2, -, -, -, -, -, -, hsigM⟩ := Cond.code_spec hnamed hcode
  cases hmethM.symm.trans hmeth2
  obtain ⟨kP, hkP, hkPi⟩ := hnf mk hnamed
  have hselP : selectMethod e.platform s.vm cell.cls mk = .method mk := selectMethod_private hmethM (hpriv mk methM hnamed hmethM)
  obtain ⟨vm₁, X₁, hstep₁⟩ := X.invokevirtual hexec hown hlink hnamed hmethM hstM hkP hkPi hy (a := a) (cell := cell) hcell hobj hselP hmethM habM hkP hkPi (g := g) hg (argsL := argsL) (rest := rest) (hlen _ hsigM) hstack hdg
  obtain ⟨v, B, X2, hpost, hsteps⟩ := hK m meth c ⟨T.setVm vm₁, locs, cells, slots⟩ { g with stack := rest } (.invokevirtual index) mk (.ref a :: argsL).toArray X₁ hg hsize hdg hW (X₁.named hnamed) (hpre vm₁ X₁.warmed)
  exact ⟨v, vm₁, B, X₁.warmed, X2, hpost, (hcome.trans (hstep₁ _ fun acts => by rw [doInvoke_state]; exact Steps.refl _)).trans hsteps⟩
theorem own_staKeep {Z : State} {h h' : Heap} {C n d : String} {v : Value} {ws : List Addr} (F : Sta Z h C n d v) (K : Keep h h' ws) (hn : ∀ x ∈ ws, ∀ cell : Cell, h[x]? = some cell → cell.vm.isStatics = false) : Sta Z h' C n d v := by
  obtain ⟨cf, i, k, f, st, cell, h1, h2, h3, h4, h5, h6, h7⟩ := F
  exact ⟨cf, i, k, f, st, cell, h1, h2, h3, h4, K.2.1 _ _ h5 (fun q => by rw [hn st q cell h5] at h6; cases h6), h6, h7⟩
/-! call sites -/
def opI (op i : Nat) : Instr := match op with
  | 0 => .invokestatic i
  | 1 => .invokespecial i
  | _ => .invokevirtual i
/-- what a call site gives: the callee's contract, carried back to the caller -/
def SiteG (Z : State) (own : String) (op i : Nat) (y : MethodName) (np : Nat) (C : String) : Prop := ∀ ⦃p : Program⦄ ⦃l : Launch⦄ ⦃e : Env⦄ ⦃R : Room⦄ ⦃s : State⦄ ⦃m : MethodId⦄ ⦃args : Array Value⦄ ⦃below : List Frame⦄ ⦃meth : Method⦄ ⦃c : Code⦄ ⦃T : State⦄ ⦃locs : List Loc⦄ ⦃cells slots : Nat⦄, Stand p l e R s m args below meth c T locs cells slots → p.tables.exec = Jvm.exec → Z.Warmed39 s.vm → s.vm.findClass own = some m.cls →
  ∀ ⦃W : Nat⦄ ⦃Pre : Pt → Array Value → Prop⦄ ⦃Post : Pt → Array Value → Option Value → Pt → Prop⦄, Back l R p e below s args y 3 W Pre Post → ∀ ⦃g : JFrame⦄, g.method = m → g.locals.size = c.maxLocals → ∀ ⦃av rest : List Value⦄, av.length = np → g.stack = av.reverse ++ rest → 2 * g.monitorRoom + (rest.map fun v => v.category).sum ≤ W →
    decode c.code g.pc = .ok (opI op i, 3) → (op ≠ 0 → ∃ a av', av = .ref a :: av' ∧ Exa Z T.heap a C) → (∀ vm₁, s.WarmedH vm₁ → Pre ⟨T.setVm vm₁, locs, cells, slots⟩ av.toArray) →
    ∃ (v : Option Value) (vm₁ : Vm) (B : Pt), s.WarmedH vm₁ ∧ Stand p l e R s m args below meth c B.U B.locs B.cells B.slots ∧ Post ⟨T.setVm vm₁, locs, cells, slots⟩ av.toArray v B ∧
      ∀ target, Steps p.tables e below (B.U.setTop { g with pc := g.pc + 3, stack := v.toList ++ rest }) target → Steps p.tables e below (T.setTop g) target
theorem siteS {Z : State} {a0 : Array Value} {own C : String} {i np maxL : Nat} {y : MethodName} {bytes : ByteArray} {ret : Option FieldType} {ps : List FieldType} {rt : Option FieldType} (w1 : (Jvm.Cond.methodLink own i y).before a0 Z = true) (w2 : (Jvm.Cond.static y).before a0 Z = true) (w3 : (Jvm.Cond.initialized y.cls).before a0 Z = true) (w4 : (Jvm.Cond.code y bytes maxL ret).before a0 Z = true)
    (hy : y.cls ≠ "java/lang/invoke/MethodHandle" ∧ y.cls ≠ "java/lang/invoke/VarHandle") (hp : parseMethodDescriptor y.desc = some ⟨ps, rt⟩) (hn : np = ps.length) : SiteG Z own 0 i y np C := by
  intro p l e R s m args below meth c T locs cells slots X hx hZ hown W Pre Post hK g hg hsize av rest hav hst hW hd _ hpre
  exact Jvm.LawKit.callS X hx (y := y) hown (mvT hZ w1) (mvT hZ w2) (mvT hZ w3) (mvT hZ w4) hy hK hg hsize (argsL := av) (rest := rest) (lenOf hp (hav.trans hn)) hst hW hd hpre
theorem siteI {Z : State} {a0 : Array Value} {own C : String} {i np maxL : Nat} {y : MethodName} {bytes : ByteArray} {ps : List FieldType} {rt : Option FieldType} (hi : y.name = "<init>") (w1 : (Jvm.Cond.methodLink own i y).before a0 Z = true) (w2 : (Jvm.Cond.instanceMethod y).before a0 Z = true) (w4 : (Jvm.Cond.code y bytes maxL none).before a0 Z = true)
    (hy : y.cls ≠ "java/lang/invoke/MethodHandle" ∧ y.cls ≠ "java/lang/invoke/VarHandle") (hp : parseMethodDescriptor y.desc = some ⟨ps, rt⟩) (hn : np = ps.length + 1) : SiteG Z own 1 i y np C := by
  intro p l e R s m args below meth c T locs cells slots X hx hZ hown W Pre Post hK g hg hsize av rest hav hst hW hd hrc hpre
  obtain ⟨a, av', rfl, -⟩ := hrc (by decide)
  obtain ⟨v, vm₁, B, h1, h2, h3, h4⟩ := X.specialBack hx (y := y) hi hown (mvT hZ w1) (mvT hZ w2) (mvT hZ w4) hy hK hg hsize (Steps.refl _) (a := a) (argsL := av') (rest := rest) (lenOf hp (by simp at hav; omega)) (by rw [hst]; simp) hW hd hpre
  exact ⟨v, vm₁, B, h1, h2, h3, fun t k => h4.trans k⟩
theorem siteV {Z : State} {a0 : Array Value} {own C : String} {i np : Nat} {x y : MethodName} {ps : List FieldType} {rt : Option FieldType} (w1 : (Jvm.Cond.methodLink own i x).before a0 Z = true) (w2 : (Jvm.Cond.declares x).before a0 Z = true) (nf : ∀ s : State, Z.Warmed39 s.vm → NotFace s x) (w3 : (Jvm.Cond.selects C x y).before a0 Z = true) (w4 : (Jvm.Cond.instanceMethod y).before a0 Z = true)
    (hy : x.cls ≠ "java/lang/invoke/MethodHandle" ∧ x.cls ≠ "java/lang/invoke/VarHandle") (hp : parseMethodDescriptor x.desc = some ⟨ps, rt⟩) (hn : np = ps.length + 1) : SiteG Z own 2 i y np C := by
  intro p l e R s m args below meth c T locs cells slots X hx hZ hown W Pre Post hK g hg hsize av rest hav hst hW hd hrc hpre
  obtain ⟨a, av', rfl, E⟩ := hrc (by decide)
  obtain ⟨cq, kq, qa, -, qc⟩ := isOf hZ (T := T) rfl E
  obtain ⟨v, vm₁, B, h1, h2, h3, h4⟩ := X.virtualBack hx (y := x) (z := y) hown (mvT hZ w1) (mvT hZ w2) (nf s hZ) (mvT hZ w3) (mvT hZ w4) hy hK qa qc hg hsize (Steps.refl _) (argsL := av') (rest := rest) (lenOf hp (by simp at hav; omega)) (by rw [hst]; simp) hW hd hpre
  exact ⟨v, vm₁, B, h1, h2, h3, fun t k => h4.trans k⟩
theorem siteP {Z : State} {a0 : Array Value} {own C : String} {i np maxL : Nat} {y : MethodName} {bytes : ByteArray} {ret : Option FieldType} {ps : List FieldType} {rt : Option FieldType} (w1 : (Jvm.Cond.methodLink own i y).before a0 Z = true) (w2 : (Jvm.Cond.instanceMethod y).before a0 Z = true) (nf : ∀ s : State, Z.Warmed39 s.vm → NotFace s y) (w3 : (Jvm.Cond.privateMethod y).before a0 Z = true) (w4 : (Jvm.Cond.code y bytes maxL ret).before a0 Z = true)
    (hy : y.cls ≠ "java/lang/invoke/MethodHandle" ∧ y.cls ≠ "java/lang/invoke/VarHandle") (hp : parseMethodDescriptor y.desc = some ⟨ps, rt⟩) (hn : np = ps.length + 1) : SiteG Z own 2 i y np C := by
  intro p l e R s m args below meth c T locs cells slots X hx hZ hown W Pre Post hK g hg hsize av rest hav hst hW hd hrc hpre
  obtain ⟨a, av', rfl, E⟩ := hrc (by decide)
  obtain ⟨cq, q, q'⟩ := E.cell
  obtain ⟨v, vm₁, B, h1, h2, h3, h4⟩ := own_privateBack X hx (y := y) hown (mvT hZ w1) (mvT hZ w2) (nf s hZ) (Cond.privateMethod_at (mvP hZ w3 (args := #[]))) (mvT hZ w4) hy hK hg hsize (Steps.refl _) (a := a) q q' (argsL := av') (rest := rest) (lenOf hp (by simp at hav; omega)) (by rw [hst]; simp) hW hd hpre
  exact ⟨v, vm₁, B, h1, h2, h3, fun t k => h4.trans k⟩
theorem siteR {Z : State} {a0 : Array Value} {own C : String} {i np maxL : Nat} {y : MethodName} {bytes : ByteArray} {ps : List FieldType} {rt : Option FieldType} (hi : y.name = "<init>") (w1 : (Jvm.Cond.methodRef own i y).before a0 Z = true) (w2 : (Jvm.Cond.instanceMethod y).before a0 Z = true) (w4 : (Jvm.Cond.code y bytes maxL none).before a0 Z = true)
    (hy : y.cls ≠ "java/lang/invoke/MethodHandle" ∧ y.cls ≠ "java/lang/invoke/VarHandle") (hp : parseMethodDescriptor y.desc = some ⟨ps, rt⟩) (hn : np = ps.length + 1) : SiteG Z own 1 i y np C := by
  intro p l e R s m args below meth c T locs cells slots X hx hZ hown W Pre Post hK g hg hsize av rest hav hst hW hd hrc hpre
  obtain ⟨a, av', rfl, -⟩ := hrc (by decide)
  have w2' : (Jvm.Cond.instanceMethod y).before args s = true := mvT hZ w2
  have w4' : (Jvm.Cond.code y bytes maxL none).before args s = true := mvT hZ w4
  have hr : ∀ (U : State) (r : MethodId), s.WarmedH U.vm → s.methodNamed? y = some r → namesResolved U.vm m.cls i r.cls ∧ U.vm.methodReady m.cls i r := by
    intro U r hU hnr
    have k0 : (Jvm.Cond.methodRef own i y).before args s = true := by
      obtain ⟨obj, methO, hnO, -⟩ := Cond.instanceMethod_spec w2
      have h1 := Cond.methodRef_warmed39 hZ hnO hy w1
      simp only [Cond.before, Cond.holds, Cond.value] at h1 ⊢
      exact h1
    have k1 := Cond.methodRef_warmed hU hnr hy k0
    obtain ⟨m', c', f1, f2, f3, f4⟩ := Cond.methodRef_named e (s := s.setVm U.vm) (cur := m.cls) (by rw [State.vm_setVm, hU.alike.findClass]; exact hown) k1
    rw [State.methodFound?_setVm_of_named hU.alike hnr hy, State.methodFound?_of_named hnr hy] at f1
    cases f1
    rw [State.vm_setVm, hU.alike.findClass, findClass_of_methodNamed hnr] at f3
    cases f3
    exact ⟨f4, f2⟩
  obtain ⟨v, vm₁, B, h1, h2, h3, h4⟩ := SCall.of_ready (p := p) (l := l) (e := e) (R := R) (s := s) (m := m) (args := args) (below := below) (meth := meth) (c := c) hx (index := i) hi w2' w4' hr X hK hg hsize (Steps.refl _) (a := a) (argsL := av') (rest := rest) (lenOf hp (by simp at hav; omega)) (by rw [hst]; simp) hW hd hpre
  exact ⟨v, vm₁, B, h1, h2, h3, fun t k => h4.trans k⟩

/-! A symbolic run of the law and of its callees, in Lean itself: terms for ints, numbers for the objects that the law makes. -/
/-- a table of eight bytes -/
def tab8 (x : Int32) : Int32 := if x = 0 then 32 else if x = 1 then 9 else if x = 2 then 13 else if x = 3 then 10 else if x = 4 then 123 else if x = 5 then 125 else if x = 6 then 11 else -30
theorem tab8_cases (x : Int32) : tab8 x = 32 ∨ tab8 x = 9 ∨ tab8 x = 13 ∨ tab8 x = 10 ∨ tab8 x = 123 ∨ tab8 x = 125 ∨ tab8 x = 11 ∨ tab8 x = -30 := by
  unfold tab8
  by_cases h0 : x = 0
  · simp [h0]
  by_cases h1 : x = 1
  · simp [h1]
  by_cases h2 : x = 2
  · simp [h2]
  by_cases h3 : x = 3
  · simp [h3]
  by_cases h4 : x = 4
  · simp [h4]
  by_cases h5 : x = 5
  · simp [h5]
  by_cases h6 : x = 6
  · simp [h6]
  simp [h0, h1, h2, h3, h4, h5, h6]
theorem tab8_byte (x : Int32) : (tab8 x).toInt8.toInt32 = tab8 x := by
  rcases tab8_cases x with h | h | h | h | h | h | h | h <;> rw [h] <;> decide
/-- a blank, a tab or a return -/
def blk (x : Int32) : Int32 := if x = 32 ∨ x = 9 ∨ x = 13 then 1 else 0
def b2 : Binary → Int32 → Int32 → Int32
  | .frem, x, _ => tab8 x
  | .lcmp, x, _ => blk x
  | .iand, x, y => x &&& y
  | .ior, x, y => x ||| y
  | .ixor, x, y => x ^^^ y
  | .ishl, x, y => x <<< (y &&& 31)
  | .ishr, x, y => x >>> (y &&& 31)
  | .iushr, x, y => (x.toUInt32 >>> (y &&& 31).toUInt32).toInt32
  | .fcmpl, x, y => if x = y then 1 else 0
  | .fcmpg, x, y => if x < y then 1 else 0
  | .dcmpl, x, y => if x = y then 0 else 1
  | .dcmpg, x, y => if x < y then 0 else 1
  | _, _, _ => 0
def u1 : Unary → Int32 → Int32
  | .ineg, x => -x
  | .i2b, x => x.toInt8.toInt32
  | .i2s, x => x.toInt16.toInt32
  | .i2c, x => x.toUInt32.toUInt16.toUInt32.toInt32
  | _, _ => 0
/-- the unknowns: ints by number, and one long -/
abbrev Un := (Nat → Int32) × Int64
/-- a long: the unknown one, or one shifted to the right (without its sign) -/
def tl (σ : Un) : Term → Int64
  | .result => σ.2
  | .long k => k
  | .old t => match t with
    | .sub a (.int k) => ((tl σ a).toUInt64 >>> (k &&& 0x3f).toInt64.toUInt64).toInt64
    | _ => 0
  | _ => 0
def isL : Term → Bool
  | .result | .old _ | .long _ => true
  | _ => false
def tv (σ : Un) : Term → Int32
  | .int k => k
  | .arg i => σ.1 i
  | .add a b => tv σ a + tv σ b
  | .sub a b => tv σ a - tv σ b
  | .mul a b => tv σ a * tv σ b
  | .div a b => tv σ a / tv σ b
  | .rem a b => tv σ a % tv σ b
  | .op2 o a b => b2 o (tv σ a) (tv σ b)
  | .op1 o a => match o with
    | .l2i => (tl σ a).toInt32
    | o => u1 o (tv σ a)
  | _ => 0
def isI : Term → Bool
  | .int _ | .arg _ | .add _ _ | .sub _ _ | .mul _ _ | .div _ _ | .rem _ _ | .op2 _ _ _ | .op1 _ _ => true
  | _ => false
/-- the world of a run: the first cell that the law makes, the unknown ints, the old objects, the components of old arrays -/
abbrev Wl := Nat × Un × (Nat → Addr) × (Nat → Int32 → Value)
def isR : Term → Bool
  | .null | .index _ | .string _ _ | .elem _ _ => true
  | _ => false
/-- a term's value: an int, null, the object of that number (numbers count from the first cell that the law makes), an old object, a component of an old array -/
def cv (w : Wl) : Term → Value
  | .null => .null
  | .index i => .ref (w.1 + i)
  | .string _ k => .ref (w.2.2.1 k)
  | .elem t i => match t with
    | .string _ k => w.2.2.2 k (tv w.2.1 i)
    | _ => .null
  | .result => .long w.2.1.2
  | .long k => .long k
  | .old t => .long (tl w.2.1 (.old t))
  | t => .int (tv w.2.1 t)
def Wok (w : Wl) : Prop := ∀ k i, (w.2.2.2 k i).isRef = true
theorem cv_I {w : Wl} {t : Term} (h : isI t = true) : cv w t = .int (tv w.2.1 t) := by cases t <;> first | rfl | cases h
theorem cv_R {w : Wl} (hw : Wok w) {t : Term} (h : isR t = true) : (cv w t).isRef = true := by
  cases t with
  | elem t i => cases t <;> first | rfl | exact hw _ _
  | _ => first | rfl | cases h
theorem ref_cat {v : Value} (h : v.isRef = true) : v.category = 1 := by cases v <;> first | rfl | cases h
theorem cv_cat {w : Wl} (hw : Wok w) {t : Term} (h : isL t = false) : (cv w t).category = 1 := by
  cases t with
  | elem t i => cases t <;> first | rfl | exact ref_cat (hw _ _)
  | _ => first | rfl | cases h
theorem nl_I {t : Term} (h : isI t = true) : isL t = false := by cases t <;> first | rfl | cases h
theorem nl_R {t : Term} (h : isR t = true) : isL t = false := by cases t <;> first | rfl | cases h
theorem cv_L {w : Wl} {t : Term} (h : isL t = true) : cv w t = .long (tl w.2.1 t) := by cases t <;> first | rfl | cases h
/-- a local: unset, a value, or (thrown) the second half of a long -/
def cs (w : Wl) : Option Term → Slot
  | none => .unset
  | some t => match t with
    | .thrown => .second
    | t => .val (cv w t)
/-- a local that a store of one word may write over -/
def ow : Option Term → Bool
  | none => true
  | some t => match t with
    | .thrown => false
    | t => !isL t
theorem cs_val {w : Wl} {t : Term} (h : isI t = true ∨ isR t = true ∨ isL t = true) : cs w (some t) = .val (cv w t) := by
  cases t <;> first | rfl | (rcases h with h | h | h <;> cases h)
/-- the locals -/
def cL (w : Wl) (Ls : List (Option Term)) : Array Slot := (Ls.map (cs w)).toArray
theorem cL_get {w : Wl} {Ls : List (Option Term)} {k : Nat} {o : Option Term} (h : Ls[k]? = some o) : (cL w Ls)[k]? = some (cs w o) := by
  simp [cL, h]
theorem cL_set {w : Wl} {Ls : List (Option Term)} {k : Nat} {t : Term} (h : isI t = true ∨ isR t = true ∨ isL t = true) : (cL w Ls).setIfInBounds k (.val (cv w t)) = cL w (Ls.set k (some t)) := by
  simp [cL, cs_val h, List.map_set]
theorem cL_size {w : Wl} {Ls : List (Option Term)} : (cL w Ls).size = Ls.length := by simp [cL]
theorem cs_ok {w : Wl} (hw : Wok w) {o : Option Term} (h : ow o = true) : cs w o = .unset ∨ ∃ v, cs w o = .val v ∧ v.category = 1 := by
  cases o with
  | none => exact Or.inl rfl
  | some t =>
    refine Or.inr ⟨cv w t, ?_, cv_cat hw ?_⟩
    · cases t <;> first | rfl | cases h
    · cases t <;> first | rfl | cases h
/-! what is assumed of the unknown ints -/
abbrev Asm := Bool × Term × Term × Bool
def rel (σ : Un) (q : Bool) (a b : Term) : Bool := bif q then decide (tv σ a < tv σ b) else decide (tv σ a = tv σ b)
def holds (σ : Un) (A : List Asm) : Prop := ∀ e ∈ A, rel σ e.1 e.2.1 e.2.2.1 = e.2.2.2
def teqL : Term → Term → Bool
  | .result, .result => true
  | .old a, .old b => match a, b with
    | .sub x (.int i), .sub y (.int j) => teqL x y && decide (i = j)
    | _, _ => false
  | _, _ => false
theorem teqL_ok {σ : Un} : ∀ {a b : Term}, teqL a b = true → tl σ a = tl σ b
  | .result, b, h => by cases b <;> first | rfl | cases h
  | .old a, b, h => by
    cases b <;> first | (simp [teqL] at h; done) | skip
    rename_i b
    unfold teqL at h
    split at h
    · simp only [Bool.and_eq_true, decide_eq_true_eq] at h
      unfold tl
      simp only [teqL_ok h.1, h.2]
    · cases h
def tEq : Term → Term → Bool
  | .int a, .int b => decide (a = b)
  | .arg i, .arg j => Nat.beq i j
  | .add a b, .add c d => tEq a c && tEq b d
  | .sub a b, .sub c d => tEq a c && tEq b d
  | .mul a b, .mul c d => tEq a c && tEq b d
  | .div a b, .div c d => tEq a c && tEq b d
  | .rem a b, .rem c d => tEq a c && tEq b d
  | .op2 o a b, .op2 o' c d => decide (o = o') && tEq a c && tEq b d
  | .op1 o a, .op1 o' c => match o with
    | .l2i => decide (o' = .l2i) && teqL a c
    | o => decide (o = o') && tEq a c
  | _, _ => false
theorem tEq_ok {σ : Un} : ∀ {a b : Term}, tEq a b = true → tv σ a = tv σ b := by
  intro a
  induction a with
  | int v => intro b h; cases b <;> simp [tEq] at h; subst h; rfl
  | arg i => intro b h; cases b <;> simp [tEq] at h; subst h; rfl
  | add x y ih1 ih2 => intro b h; cases b <;> simp [tEq] at h; simp [tv, ih1 h.1, ih2 h.2]
  | sub x y ih1 ih2 => intro b h; cases b <;> simp [tEq] at h; simp [tv, ih1 h.1, ih2 h.2]
  | mul x y ih1 ih2 => intro b h; cases b <;> simp [tEq] at h; simp [tv, ih1 h.1, ih2 h.2]
  | div x y ih1 ih2 => intro b h; cases b <;> simp [tEq] at h; simp [tv, ih1 h.1, ih2 h.2]
  | rem x y ih1 ih2 => intro b h; cases b <;> simp [tEq] at h; simp [tv, ih1 h.1, ih2 h.2]
  | op2 o x y ih1 ih2 => intro b h; cases b <;> simp [tEq] at h; simp [tv, h.1.1, ih1 h.1.2, ih2 h.2]
  | op1 o x ih =>
    intro b h
    cases b <;> first | (simp only [tEq] at h; cases h; done) | skip
    rename_i o' c
    by_cases q : o = .l2i
    · subst q
      simp only [tEq, Bool.and_eq_true, decide_eq_true_eq] at h
      rw [h.1]
      simp only [tv, teqL_ok h.2]
    · have h' : (decide (o = o') && tEq x c) = true := by cases o <;> first | exact h | exact absurd rfl q
      simp only [Bool.and_eq_true, decide_eq_true_eq] at h'
      rw [← h'.1]
      have e : ∀ t, tv σ (.op1 o t) = u1 o (tv σ t) := fun t => by cases o <;> first | rfl | exact absurd rfl q
      rw [e, e, ih h'.2]
  | _ => intro b h; cases b <;> simp [tEq] at h
def look : List Asm → Bool → Term → Term → Option Bool
  | [], _, _, _ => none
  | e :: A, q, a, b => bif (e.1 == q) && (tEq e.2.1 a && tEq e.2.2.1 b) then some e.2.2.2 else look A q a b
theorem look_ok {σ : Un} : ∀ {A : List Asm} {q : Bool} {a b : Term} {r : Bool}, holds σ A → look A q a b = some r → rel σ q a b = r
  | [], _, _, _, _, _, h => by cases h
  | e :: A, q, a, b, r, hA, h => by
    simp only [look] at h
    cases hc : ((e.1 == q) && (tEq e.2.1 a && tEq e.2.2.1 b)) with
    | false => rw [hc] at h; exact look_ok (fun e he => hA e (List.mem_cons_of_mem _ he)) h
    | true =>
      rw [hc] at h
      simp only [Bool.and_eq_true, beq_iff_eq] at hc
      have h1 := hA e (List.mem_cons_self ..)
      rw [← Option.some.inj h, ← h1, hc.1]
      simp only [rel, tEq_ok hc.2.1, tEq_ok hc.2.2]
/-- a term whose value is assumed is that value -/
def nrm : List Asm → Term → Term
  | [], t => t
  | e :: A, t => match e with
    | (false, a, .int k, true) => bif tEq a t then .int k else nrm A t
    | _ => nrm A t
def nr (A : List Asm) (t : Term) : Term := match t with
  | .int k => .int k
  | t => nrm A t
theorem nrm_ok {σ : Un} : ∀ {A : List Asm} {t : Term}, holds σ A → tv σ (nrm A t) = tv σ t ∧ (isI t = true → isI (nrm A t) = true)
  | [], _, _ => ⟨rfl, id⟩
  | e :: A, t, hA => by
    have ih := nrm_ok (A := A) (t := t) (fun e he => hA e (List.mem_cons_of_mem _ he))
    have h1 := hA e (List.mem_cons_self ..)
    unfold nrm
    split
    · rename_i a k
      cases hc : tEq a t with
      | false => exact ih
      | true =>
        refine ⟨?_, fun _ => rfl⟩
        have h2 : rel σ false a (.int k) = true := h1
        simp only [rel, cond_false, decide_eq_true_eq] at h2
        show k = _
        rw [← tEq_ok hc, h2]; rfl
    · exact ih
theorem nr_ok {σ : Un} {A : List Asm} {t : Term} (hA : holds σ A) : tv σ (nr A t) = tv σ t ∧ (isI t = true → isI (nr A t) = true) := by
  unfold nr; split
  · exact ⟨rfl, fun _ => rfl⟩
  · exact nrm_ok hA
theorem nr_cv {w : Wl} {A : List Asm} {t : Term} (hA : holds w.2.1 A) (h : isI t = true) : cv w (nr A t) = .int (tv w.2.1 t) := by
  rw [cv_I ((nr_ok hA).2 h), (nr_ok hA).1]
/-- 0 ≤ the term ≤ this -/
def rg : Term → Option Nat
  | .int k => bif decide (k < 0) then none else some k.toNatClampNeg
  | .op2 o a b => match o with
    | .iand => match b with
      | .int k => bif decide (k < 0) then none else some k.toNatClampNeg
      | _ => none
    | .fcmpl | .fcmpg | .dcmpl | .dcmpg => some 1
    | .ixor => match b with
      | .int k => match rg a with
        | some u => bif !decide (k < 0) && (Nat.ble u 255 && Nat.ble k.toNatClampNeg 255) then some 255 else none
        | none => none
      | _ => none
    | .iushr => match b with
      | .int k => match rg a with
        | some u => bif decide (0 < k) && decide (k < 32) then some (u / 2 ^ k.toNatClampNeg) else none
        | none => none
      | _ => none
    | _ => none
  | .rem a b => match b with
    | .int k => match rg a with
      | some _ => bif decide (0 < k) then some (k.toNatClampNeg - 1) else none
      | none => none
    | _ => none
  | .add a b => match rg a, rg b with
    | some u, some w => bif Nat.blt (u + w) 2147483648 then some (u + w) else none
    | _, _ => none
  | _ => none
theorem rg_int {k : Int32} {u : Nat} (h : (bif decide (k < 0) then none else some k.toNatClampNeg) = some u) : 0 ≤ k.toInt ∧ k.toInt ≤ u := by
  by_cases q : k < 0
  · simp [q] at h
  · simp [q] at h
    rw [Int32.lt_iff_toInt_lt] at q
    have e0 : (0 : Int32).toInt = 0 := rfl
    subst h
    simp only [Int32.toNatClampNeg]
    omega
theorem nat_of_int {x : Int32} (h : 0 ≤ x.toInt) : (x.toBitVec.toNat : Int) = x.toInt := by
  have e : x.toInt = x.toBitVec.toInt := rfl
  rw [BitVec.toInt_eq_toNat_cond] at e
  have := x.toBitVec.isLt
  split at e <;> omega
theorem xor_rg {x k : Int32} (h0 : 0 ≤ x.toInt) (h1 : x.toInt ≤ 255) (k0 : 0 ≤ k.toInt) (k1 : k.toInt ≤ 255) : 0 ≤ (x ^^^ k).toInt ∧ (x ^^^ k).toInt ≤ 255 := by
  have a := nat_of_int h0; have b := nat_of_int k0
  have e : (x ^^^ k).toBitVec.toNat = x.toBitVec.toNat ^^^ k.toBitVec.toNat := by show (x.toBitVec ^^^ k.toBitVec).toNat = _; rw [BitVec.toNat_xor]
  have c : (x ^^^ k).toBitVec.toNat < 2 ^ 8 := by rw [e]; exact Nat.xor_lt_two_pow (by omega) (by omega)
  have e2 : (x ^^^ k).toInt = (x ^^^ k).toBitVec.toInt := rfl
  rw [BitVec.toInt_eq_toNat_cond] at e2
  split at e2 <;> omega
theorem rg_ok {σ : Un} : ∀ {t : Term} {u : Nat}, rg t = some u → 0 ≤ (tv σ t).toInt ∧ (tv σ t).toInt ≤ u := by
  intro t
  induction t with
  | int k => intro u h; exact rg_int h
  | op2 o a b iha ihb =>
    intro u h
    clear ihb
    cases o <;> simp only [rg] at h <;> first | cases h | skip
    case ixor =>
      cases b <;> simp only at h <;> first | cases h | skip
      rename_i k
      cases ha : rg a with
      | none => simp [ha] at h
      | some x =>
        simp only [ha] at h
        cases q : (!decide (k < 0) && (Nat.ble x 255 && Nat.ble k.toNatClampNeg 255)) <;> simp only [q, cond_true, cond_false] at h <;> first | cases h | skip
        simp only [Bool.and_eq_true, Bool.not_eq_true', decide_eq_false_iff_not] at q
        have h1 := iha ha
        have q2 := Nat.le_of_ble_eq_true q.2.1
        have q3 := Nat.le_of_ble_eq_true q.2.2
        have q1 := q.1
        rw [Int32.lt_iff_toInt_lt] at q1
        have e0 : (0 : Int32).toInt = 0 := rfl
        simp only [Int32.toNatClampNeg] at q3
        exact xor_rg (k := k) h1.1 (by omega) (by omega) (by omega)
    case iushr =>
      cases b <;> simp only at h <;> first | cases h | skip
      rename_i k
      cases ha : rg a with
      | none => simp [ha] at h
      | some x =>
        simp only [ha] at h
        cases q : (decide (0 < k) && decide (k < 32)) <;> simp only [q, cond_true, cond_false, Option.some.injEq] at h <;> first | cases h | skip
        simp only [Bool.and_eq_true, decide_eq_true_eq, Int32.lt_iff_toInt_lt] at q
        have h1 := iha ha
        have e0 : (0 : Int32).toInt = 0 := rfl
        have e1 : (32 : Int32).toInt = 32 := rfl
        have kn : (k.toBitVec.toNat : Int) = k.toInt := nat_of_int (by omega)
        have kk : k.toNatClampNeg = k.toBitVec.toNat := by simp only [Int32.toNatClampNeg]; omega
        have r := c_iushr (tv σ a) k k.toBitVec.toNat (by omega) (by omega)
        have r0 := rng32 (tv σ a)
        show 0 ≤ (b2 .iushr (tv σ a) k).toInt ∧ (b2 .iushr (tv σ a) k).toInt ≤ ((x / 2 ^ k.toNatClampNeg : Nat) : Int)
        simp only [b2]
        rw [r, kk.symm]
        have e3 : (tv σ a).toInt % 4294967296 = (tv σ a).toInt := by omega
        rw [e3]
        refine ⟨Int.ediv_nonneg h1.1 (Int.natCast_nonneg _), ?_⟩
        have := Int.ediv_le_ediv (c := ((2 ^ k.toNatClampNeg : Nat) : Int)) (Int.natCast_pos.mpr (Nat.two_pow_pos _)) h1.2
        simpa using this
    case iand =>
      cases b <;> simp only at h <;> first | cases h | skip
      rename_i k
      have hk := rg_int h
      have := c_and (tv σ a) k hk.1
      show 0 ≤ (tv σ a &&& k).toInt ∧ (tv σ a &&& k).toInt ≤ u
      omega
    all_goals (simp only [tv, b2]; split <;> decide)
  | rem a b iha ihb =>
    intro u h
    clear ihb
    simp only [rg] at h
    cases b <;> simp only at h <;> first | cases h | skip
    rename_i k
    cases ha : rg a with
    | none => simp [ha] at h
    | some w =>
      simp only [ha] at h
      by_cases q : 0 < k
      · simp [q] at h
        have h0 := iha ha
        rw [Int32.lt_iff_toInt_lt] at q
        have e0 : (0 : Int32).toInt = 0 := rfl
        have r := (c_iremV (tv σ a) k).1 h0.1 (by omega)
        subst h
        simp only [tv, Int32.toNatClampNeg]
        omega
      · simp [q] at h
  | add a b iha ihb =>
    intro u h
    simp only [rg] at h
    cases ha : rg a with
    | none => simp [ha] at h
    | some x =>
      cases hb' : rg b with
      | none => simp [ha, hb'] at h
      | some y =>
        simp only [ha, hb'] at h
        by_cases q : Nat.blt (x + y) 2147483648 = true
        · simp only [q, cond_true, Option.some.injEq] at h
          have q' : x + y < 2147483648 := by simpa [Nat.blt_eq] using q
          have h1 := iha ha; have h2 := ihb hb'
          have h3 := c_iadd (tv σ a) (tv σ b); have h4 := rng32 (tv σ a + tv σ b)
          subst h
          simp only [tv]
          omega
        · simp only [Bool.not_eq_true] at q; simp [q] at h
  | _ => intro u h; cases h
/-- what the ranges say of a condition -/
def rgd (q : Bool) (a b : Term) : Option Bool := bif q then
    match a, b with
    | .int k, b => match rg b with
      | some u => bif decide (k < 0) then some true else bif Nat.ble u k.toNatClampNeg then some false else none
      | none => none
    | a, .int k => match rg a with
      | some u => bif decide (0 < k) then (bif Nat.blt u k.toNatClampNeg then some true else none) else some false
      | none => none
    | _, _ => none
  else match a, b with
    | .int _, _ => none
    | a, .int k => match rg a with
      | some u => bif decide (k < 0) then some false else bif Nat.blt u k.toNatClampNeg then some false else none
      | none => none
    | _, _ => none
theorem clampI {k : Int32} : (k.toNatClampNeg : Int) = max k.toInt 0 := by simp only [Int32.toNatClampNeg]; omega
theorem rgd_ok {σ : Un} {q : Bool} {a b : Term} {r : Bool} (h : rgd q a b = some r) : rel σ q a b = r := by
  have e0 : (0 : Int32).toInt = 0 := rfl
  cases q with
  | true =>
    simp only [rgd, cond_true] at h
    split at h
    · rename_i k
      cases hb' : rg b with
      | none => simp [hb'] at h
      | some u =>
        have hr := rg_ok (σ := σ) hb'
        simp only [hb'] at h
        by_cases q1 : k < 0
        · simp [q1] at h; subst h
          simp only [rel, cond_true, decide_eq_true_eq, Int32.lt_iff_toInt_lt, tv] at q1 ⊢; omega
        · simp only [q1, decide_false, cond_false] at h
          by_cases q2 : Nat.ble u k.toNatClampNeg = true
          · simp [q2] at h; subst h
            have q3 := Nat.le_of_ble_eq_true q2
            have := @clampI k
            simp only [rel, cond_true, decide_eq_false_iff_not, Int32.lt_iff_toInt_lt, tv] at q1 ⊢; omega
          · simp only [Bool.not_eq_true] at q2; simp [q2] at h
    · rename_i k _
      cases ha : rg a with
      | none => simp [ha] at h
      | some u =>
        have hr := rg_ok (σ := σ) ha
        simp only [ha] at h
        by_cases q1 : 0 < k
        · simp only [q1, decide_true, cond_true] at h
          by_cases q2 : Nat.blt u k.toNatClampNeg = true
          · simp [q2] at h; subst h
            have q3 : u < k.toNatClampNeg := by simpa [Nat.blt_eq] using q2
            have := @clampI k
            simp only [rel, cond_true, decide_eq_true_eq, Int32.lt_iff_toInt_lt, tv] at q1 ⊢; omega
          · simp only [Bool.not_eq_true] at q2; simp [q2] at h
        · simp [q1] at h; subst h
          simp only [rel, cond_true, decide_eq_false_iff_not, Int32.lt_iff_toInt_lt, tv] at q1 ⊢; omega
    · cases h
  | false =>
    simp only [rgd, cond_false] at h
    split at h
    · cases h
    · rename_i k _
      cases ha : rg a with
      | none => simp [ha] at h
      | some u =>
        have hr := rg_ok (σ := σ) ha
        simp only [ha] at h
        by_cases q1 : k < 0
        · simp [q1] at h; subst h
          simp only [rel, cond_false, decide_eq_false_iff_not, ← Int32.toInt_inj, Int32.lt_iff_toInt_lt, tv] at q1 ⊢; omega
        · simp only [q1, decide_false, cond_false] at h
          by_cases q2 : Nat.blt u k.toNatClampNeg = true
          · simp [q2] at h; subst h
            have q3 : u < k.toNatClampNeg := by simpa [Nat.blt_eq] using q2
            have := @clampI k
            simp only [rel, cond_false, decide_eq_false_iff_not, ← Int32.toInt_inj, Int32.lt_iff_toInt_lt, tv] at q1 ⊢; omega
          · simp only [Bool.not_eq_true] at q2; simp [q2] at h
    · cases h
def even : Term → Bool
  | .int k => decide (k &&& 1 = 0)
  | .op2 o a b => match o with
    | .iand => even a || even b
    | _ => false
  | .op1 o a => match o with
    | .i2b => even a
    | _ => false
  | _ => false
theorem i2b_and (x k : Int32) (hk : k.toBitVec.toNat < 256) : x.toInt8.toInt32 &&& k = x &&& k := by
  refine Int32.toBitVec_inj.mp ?_
  rw [Int32.toBitVec_and, Int32.toBitVec_and, Int8.toBitVec_toInt32, Int32.toBitVec_toInt8]
  refine BitVec.eq_of_getLsbD_eq fun i hi => ?_
  simp only [BitVec.getLsbD_and, BitVec.getLsbD_signExtend]
  by_cases q : i < 8
  · simp [q, hi]
  · have : k.toBitVec.getLsbD i = false := Nat.testBit_lt_two_pow (Nat.lt_of_lt_of_le hk (Nat.pow_le_pow_right (n := 2) (by decide) (by omega : 8 ≤ i)))
    simp [this]
theorem even_ok {σ : Un} : ∀ {t : Term}, even t = true → tv σ t &&& 1 = 0 := by
  intro t
  induction t with
  | int k => intro h; show k &&& 1 = 0; simpa [even] using h
  | op2 o a b iha ihb =>
    intro h
    cases o <;> simp only [even] at h <;> first | cases h | skip
    show (tv σ a &&& tv σ b) &&& 1 = 0
    simp only [Bool.or_eq_true] at h
    rcases h with h | h
    · rw [Int32.and_assoc, Int32.and_comm (tv σ b) 1, ← Int32.and_assoc, iha h]; exact Int32.zero_and
    · rw [Int32.and_assoc, ihb h]; exact Int32.and_zero
  | op1 o a iha =>
    intro h
    cases o <;> simp only [even] at h <;> first | cases h | skip
    show (tv σ a).toInt8.toInt32 &&& 1 = 0
    rw [i2b_and _ _ (by decide)]
    exact iha h
  | _ => intro h; cases h
def evd (q : Bool) (a b : Term) : Option Bool := bif q then none else match b with
  | .int k => bif even a && !decide (k &&& 1 = 0) then some false else none
  | _ => none
theorem evd_ok {σ : Un} {q : Bool} {a b : Term} {r : Bool} (h : evd q a b = some r) : rel σ q a b = r := by
  cases q with
  | true => cases h
  | false =>
    simp only [evd, cond_false] at h
    split at h
    · rename_i k
      cases z : (even a && !decide (k &&& 1 = 0)) <;> simp only [z, cond_true, cond_false, Option.some.injEq] at h <;> first | cases h | skip
      simp only [Bool.and_eq_true, Bool.not_eq_true', decide_eq_false_iff_not] at z
      simp only [rel, cond_false, decide_eq_false_iff_not]
      intro y
      have := even_ok (σ := σ) z.1
      rw [y] at this
      exact z.2 this
    · cases h
/-- a byte of the table that is known to be blank is at most 32 -/
def bld (A : List Asm) (q : Bool) (a b : Term) : Option Bool := bif q then (match a, b with
  | .int k, .op2 .frem x y => bif decide (k = 32) then (match look A false (.op2 .lcmp (.op2 .frem x y) (.int 0)) (.int 1) with
    | some true => some false
    | _ => none) else none
  | _, _ => none) else none
theorem bld_ok {σ : Un} {A : List Asm} {q : Bool} {a b : Term} {r : Bool} (hA : holds σ A) (h : bld A q a b = some r) : rel σ q a b = r := by
  cases q with
  | false => cases h
  | true =>
    simp only [bld, cond_true] at h
    split at h
    · rename_i k x y
      by_cases hk : k = 32
      · subst hk
        simp only [decide_true, cond_true] at h
        split at h
        · rename_i hl
          have z := look_ok hA hl
          simp only [rel, cond_false, decide_eq_true_eq] at z
          have : r = false := (Option.some.inj h).symm
          subst this
          simp only [rel, cond_true, decide_eq_false_iff_not]
          have z' : blk (tv σ (.op2 .frem x y)) = 1 := z
          show ¬ (32 : Int32) < tv σ (.op2 .frem x y)
          revert z'
          generalize tv σ (.op2 .frem x y) = v
          intro z'
          unfold blk at z'
          by_cases c : v = 32 ∨ v = 9 ∨ v = 13
          · rcases c with rfl | rfl | rfl <;> decide
          · rw [if_neg c] at z'; exact absurd z' (by decide)
        · cases h
      · simp [hk] at h
    · cases h
/-- a condition, decided or not -/
def dcd (A : List Asm) (q : Bool) (a b : Term) : Option Bool := match a, b with
  | .int x, .int y => some (bif q then decide (x < y) else decide (x = y))
  | a, b => bif tEq a b then some (!q) else match look A q a b with
    | some r => some r
    | none => match rgd q a b with
      | some r => some r
      | none => match evd q a b with
        | some r => some r
        | none => match bld A q a b with
          | some r => some r
          | none => bif q then (match look A true b a with
            | some true => some false
            | _ => none) else none
theorem dcd_ok {σ : Un} {A : List Asm} {q : Bool} {a b : Term} {r : Bool} (hA : holds σ A) (h : dcd A q a b = some r) : rel σ q a b = r := by
  unfold dcd at h
  split at h
  · exact Option.some.inj h
  · cases hc : tEq a b with
    | true =>
      simp only [hc, cond_true, Option.some.injEq] at h
      rw [← h]
      have := tEq_ok (σ := σ) hc
      cases q <;> simp [rel, this, Int32.lt_irrefl]
    | false =>
      simp only [hc, cond_false] at h
      cases hl : look A q a b with
      | some r' => simp [hl] at h; subst h; exact look_ok hA hl
      | none =>
        simp only [hl] at h
        cases hg : rgd q a b with
        | some r' => simp [hg] at h; subst h; exact rgd_ok hg
        | none =>
          simp only [hg] at h
          cases he : evd q a b with
          | some r' => simp [he] at h; subst h; exact evd_ok he
          | none =>
           simp only [he] at h
           cases hbl : bld A q a b with
           | some r' => simp [hbl] at h; subst h; exact bld_ok hA hbl
           | none =>
            simp only [hbl] at h
            cases q with
            | false => cases h
            | true =>
              simp only [cond_true] at h
              split at h
              · rename_i hb'
                have y := look_ok hA hb'
                simp only [rel, cond_true, decide_eq_true_eq, Int32.lt_iff_toInt_lt] at y
                have : r = false := (Option.some.inj h).symm
                subst this
                simp only [rel, cond_true, decide_eq_false_iff_not, Int32.lt_iff_toInt_lt]
                omega
              · cases h
/-! arithmetic, folded -/
/-- a &&& k -/
def andL (A : List Asm) : Term → Int32 → Term
  | .int x, k => .int (x &&& k)
  | .op2 o a b, k => match o with
    | .iand => match b with
      | .int j => andL A a (j &&& k)
      | b => nr A (.op2 .iand (.op2 .iand a b) (.int k))
    | .ixor => match b with
      | .int j => match andL A a k with
        | .int x => .int (x ^^^ (j &&& k))
        | t => .op2 .ixor t (.int (j &&& k))
      | b => nr A (.op2 .iand (.op2 .ixor a b) (.int k))
    | o => nr A (.op2 .iand (.op2 o a b) (.int k))
  | .op1 o a, k => match o with
    | .i2b => bif !decide (k < 0) && decide (k < 256) then andL A a k else nr A (.op2 .iand (.op1 .i2b a) (.int k))
    | o => nr A (.op2 .iand (.op1 o a) (.int k))
  | t, k => nr A (.op2 .iand t (.int k))
theorem xor_and (x j k : Int32) : (x &&& k) ^^^ (j &&& k) = (x ^^^ j) &&& k := by
  refine Int32.toBitVec_inj.mp ?_
  show (x.toBitVec &&& k.toBitVec) ^^^ (j.toBitVec &&& k.toBitVec) = (x.toBitVec ^^^ j.toBitVec) &&& k.toBitVec
  refine BitVec.eq_of_getLsbD_eq fun i hi => ?_
  simp only [BitVec.getLsbD_and, BitVec.getLsbD_xor]
  cases x.toBitVec.getLsbD i <;> cases j.toBitVec.getLsbD i <;> cases k.toBitVec.getLsbD i <;> rfl
theorem andL_ok {σ : Un} {A : List Asm} (hA : holds σ A) : ∀ {t : Term} {k : Int32}, tv σ (andL A t k) = tv σ t &&& k ∧ isI (andL A t k) = true := by
  have base : ∀ {t : Term} {k : Int32}, tv σ (nr A (.op2 .iand t (.int k))) = tv σ t &&& k ∧ isI (nr A (.op2 .iand t (.int k))) = true := fun {t k} => ⟨(nr_ok hA).1, (nr_ok hA).2 rfl⟩
  intro t
  induction t with
  | int x => intro k; exact ⟨rfl, rfl⟩
  | op2 o a b iha ihb =>
    intro k
    clear ihb
    cases o <;> first | exact base | skip
    · cases b <;> first | exact base | skip
      rename_i j
      simp only [andL]
      refine ⟨?_, iha.2⟩
      rw [iha.1]
      show _ = (tv σ a &&& j) &&& k
      rw [Int32.and_assoc]
    · cases b <;> first | exact base | skip
      rename_i j
      simp only [andL]
      have h := @iha k
      have e : tv σ (.op2 .ixor a (.int j)) &&& k = (tv σ a &&& k) ^^^ (j &&& k) := (xor_and (tv σ a) j k).symm
      rw [e, ← h.1]
      split
      · rename_i x hx
        rw [hx]; exact ⟨rfl, rfl⟩
      · exact ⟨rfl, rfl⟩
  | op1 o a iha =>
    intro k
    cases o <;> first | exact base | skip
    simp only [andL]
    cases q : (!decide (k < 0) && decide (k < 256)) with
    | false => exact base
    | true =>
      simp only [Bool.and_eq_true, Bool.not_eq_true', decide_eq_false_iff_not, decide_eq_true_eq, Int32.lt_iff_toInt_lt] at q
      have e0 : (0 : Int32).toInt = 0 := rfl
      have e1 : (256 : Int32).toInt = 256 := rfl
      have := nat_of_int (x := k) (by omega)
      refine ⟨?_, iha.2⟩
      show tv σ (andL A a k) = (tv σ a).toInt8.toInt32 &&& k
      rw [i2b_and _ _ (by omega)]
      exact iha.1
  | _ => intro k; exact base
def m2' (o : Binary) (a b : Term) : Term := match a, b with
  | .int x, .int y => .int (b2 o x y)
  | a, b => .op2 o a b
def mAnd (A : List Asm) (a b : Term) : Term := match b with
  | .int k => andL A a k
  | b => m2' .iand a b
theorem mAnd_ok {σ : Un} {A : List Asm} (hA : holds σ A) {a b : Term} : tv σ (mAnd A a b) = tv σ a &&& tv σ b ∧ isI (mAnd A a b) = true := by
  unfold mAnd
  split
  · exact andL_ok hA
  · unfold m2'; split <;> exact ⟨rfl, rfl⟩
def m2 (o : Binary) (a b : Term) : Term := match a, b with
  | .int x, .int y => .int (b2 o x y)
  | a, b => .op2 o a b
def m1 (o : Unary) (a : Term) : Term := match a with
  | .int x => .int (u1 o x)
  | a => .op1 o a
/-- i2b -/
def mB (a : Term) : Term := match a with
  | .op1 .i2b b => .op1 .i2b b
  | .op2 .frem a b => .op2 .frem a b
  | .int x => .int x.toInt8.toInt32
  | a => .op1 .i2b a
theorem mB_ok {σ : Un} {a : Term} : tv σ (mB a) = (tv σ a).toInt8.toInt32 ∧ isI (mB a) = true := by
  unfold mB; split
  · rename_i b
    refine ⟨?_, rfl⟩
    show (tv σ b).toInt8.toInt32 = (tv σ b).toInt8.toInt32.toInt8.toInt32
    rw [Int8.toInt8_toInt32]
  · exact ⟨(tab8_byte _).symm, rfl⟩
  · exact ⟨rfl, rfl⟩
  · exact ⟨rfl, rfl⟩
def mAdd (a b : Term) : Term := match a, b with
  | .int x, .int y => .int (x + y)
  | a, b => .add a b
def mSub (a b : Term) : Term := match a, b with
  | .int x, .int y => .int (x - y)
  | a, b => .sub a b
def mMul (a b : Term) : Term := match a, b with
  | .int x, .int y => .int (x * y)
  | a, b => .mul a b
def mRem (a b : Term) : Term := match a, b with
  | .int x, .int y => .int (x % y)
  | a, b => .rem a b
def mDiv (a b : Term) : Term := match a, b with
  | .int x, .int y => .int (x / y)
  | a, b => .div a b
theorem m2_ok {σ : Un} {o : Binary} {a b : Term} : tv σ (m2 o a b) = b2 o (tv σ a) (tv σ b) ∧ isI (m2 o a b) = true := by unfold m2; split <;> exact ⟨rfl, rfl⟩
theorem m1_ok {σ : Un} {o : Unary} {a : Term} (h : o ≠ .l2i) : tv σ (m1 o a) = u1 o (tv σ a) ∧ isI (m1 o a) = true := by
  unfold m1; split
  · exact ⟨rfl, rfl⟩
  · exact ⟨by cases o <;> first | rfl | exact absurd rfl h, rfl⟩
theorem mAdd_ok {σ : Un} {a b : Term} : tv σ (mAdd a b) = tv σ a + tv σ b ∧ isI (mAdd a b) = true := by unfold mAdd; split <;> exact ⟨rfl, rfl⟩
theorem mSub_ok {σ : Un} {a b : Term} : tv σ (mSub a b) = tv σ a - tv σ b ∧ isI (mSub a b) = true := by unfold mSub; split <;> exact ⟨rfl, rfl⟩
theorem mMul_ok {σ : Un} {a b : Term} : tv σ (mMul a b) = tv σ a * tv σ b ∧ isI (mMul a b) = true := by unfold mMul; split <;> exact ⟨rfl, rfl⟩
theorem mRem_ok {σ : Un} {a b : Term} : tv σ (mRem a b) = tv σ a % tv σ b ∧ isI (mRem a b) = true := by unfold mRem; split <;> exact ⟨rfl, rfl⟩
theorem mDiv_ok {σ : Un} {a b : Term} : tv σ (mDiv a b) = tv σ a / tv σ b ∧ isI (mDiv a b) = true := by unfold mDiv; split <;> exact ⟨rfl, rfl⟩

def kls (r : Nat) : String := bif Nat.blt r 6 then (bif Nat.blt r 3 then (bif Nat.blt r 1 then (bif Nat.beq r 0 then "com/example/latticut/latticut/io/PlainTokensStartPinLaw" else "") else (bif Nat.blt r 2 then (bif Nat.beq r 1 then "com/example/latticut/latticut/io/PlainTokens" else "") else (bif Nat.beq r 2 then "com/example/latticut/latticut/io/PlainTokens$Names" else ""))) else (bif Nat.blt r 4 then (bif Nat.beq r 3 then "java/lang/Integer" else "") else (bif Nat.blt r 5 then (bif Nat.beq r 4 then "com/example/latticut/latticut/io/Texts" else "") else (bif Nat.beq r 5 then "java/lang/Math" else "")))) else ""
def mK (r : Nat) : Nat := bif Nat.blt r 20 then (bif Nat.blt r 10 then (bif Nat.blt r 5 then (bif Nat.blt r 2 then (bif Nat.blt r 1 then (bif Nat.beq r 0 then 0 else 0) else (bif Nat.beq r 1 then 0 else 0)) else (bif Nat.blt r 3 then (bif Nat.beq r 2 then 1 else 0) else (bif Nat.blt r 4 then (bif Nat.beq r 3 then 2 else 0) else (bif Nat.beq r 4 then 2 else 0)))) else (bif Nat.blt r 7 then (bif Nat.blt r 6 then (bif Nat.beq r 5 then 3 else 0) else (bif Nat.beq r 6 then 4 else 0)) else (bif Nat.blt r 8 then (bif Nat.beq r 7 then 1 else 0) else (bif Nat.blt r 9 then (bif Nat.beq r 8 then 1 else 0) else (bif Nat.beq r 9 then 0 else 0))))) else (bif Nat.blt r 15 then (bif Nat.blt r 12 then (bif Nat.blt r 11 then (bif Nat.beq r 10 then 0 else 0) else (bif Nat.beq r 11 then 1 else 0)) else (bif Nat.blt r 13 then (bif Nat.beq r 12 then 1 else 0) else (bif Nat.blt r 14 then (bif Nat.beq r 13 then 1 else 0) else (bif Nat.beq r 14 then 5 else 0)))) else (bif Nat.blt r 17 then (bif Nat.blt r 16 then (bif Nat.beq r 15 then 1 else 0) else (bif Nat.beq r 16 then 1 else 0)) else (bif Nat.blt r 18 then (bif Nat.beq r 17 then 1 else 0) else (bif Nat.blt r 19 then (bif Nat.beq r 18 then 1 else 0) else (bif Nat.beq r 19 then 1 else 0)))))) else 0
def mMax (r : Nat) : Nat := bif Nat.blt r 20 then (bif Nat.blt r 10 then (bif Nat.blt r 5 then (bif Nat.blt r 2 then (bif Nat.blt r 1 then (bif Nat.beq r 0 then 14 else 0) else (bif Nat.beq r 1 then 2 else 0)) else (bif Nat.blt r 3 then (bif Nat.beq r 2 then 1 else 0) else (bif Nat.blt r 4 then (bif Nat.beq r 3 then 1 else 0) else (bif Nat.beq r 4 then 1 else 0)))) else (bif Nat.blt r 7 then (bif Nat.blt r 6 then (bif Nat.beq r 5 then 2 else 0) else (bif Nat.beq r 6 then 1 else 0)) else (bif Nat.blt r 8 then (bif Nat.beq r 7 then 5 else 0) else (bif Nat.blt r 9 then (bif Nat.beq r 8 then 1 else 0) else (bif Nat.beq r 9 then 3 else 0))))) else (bif Nat.blt r 15 then (bif Nat.blt r 12 then (bif Nat.blt r 11 then (bif Nat.beq r 10 then 1 else 0) else (bif Nat.beq r 11 then 1 else 0)) else (bif Nat.blt r 13 then (bif Nat.beq r 12 then 2 else 0) else (bif Nat.blt r 14 then (bif Nat.beq r 13 then 1 else 0) else (bif Nat.beq r 14 then 2 else 0)))) else (bif Nat.blt r 17 then (bif Nat.blt r 16 then (bif Nat.beq r 15 then 1 else 0) else (bif Nat.beq r 16 then 2 else 0)) else (bif Nat.blt r 18 then (bif Nat.beq r 17 then 3 else 0) else (bif Nat.blt r 19 then (bif Nat.beq r 18 then 2 else 0) else (bif Nat.beq r 19 then 2 else 0)))))) else 0
def mNm (r : Nat) : String := bif Nat.blt r 20 then (bif Nat.blt r 10 then (bif Nat.blt r 5 then (bif Nat.blt r 2 then (bif Nat.blt r 1 then (bif Nat.beq r 0 then "law" else "") else (bif Nat.beq r 1 then "pick" else "")) else (bif Nat.blt r 3 then (bif Nat.beq r 2 then "<init>" else "") else (bif Nat.blt r 4 then (bif Nat.beq r 3 then "<init>" else "") else (bif Nat.beq r 4 then "shift" else "")))) else (bif Nat.blt r 7 then (bif Nat.blt r 6 then (bif Nat.beq r 5 then "numberOfLeadingZeros" else "") else (bif Nat.beq r 6 then "<init>" else "")) else (bif Nat.blt r 8 then (bif Nat.beq r 7 then "start" else "") else (bif Nat.blt r 9 then (bif Nat.beq r 8 then "currentToken" else "") else (bif Nat.beq r 9 then "skip" else ""))))) else (bif Nat.blt r 15 then (bif Nat.blt r 12 then (bif Nat.blt r 11 then (bif Nat.beq r 10 then "isSpace" else "") else (bif Nat.beq r 11 then "blank" else "")) else (bif Nat.blt r 13 then (bif Nat.beq r 12 then "skipSpace" else "") else (bif Nat.blt r 14 then (bif Nat.beq r 13 then "peek" else "") else (bif Nat.beq r 14 then "min" else "")))) else (bif Nat.blt r 17 then (bif Nat.blt r 16 then (bif Nat.beq r 15 then "end" else "") else (bif Nat.beq r 16 then "nextToken" else "")) else (bif Nat.blt r 18 then (bif Nat.beq r 17 then "value" else "") else (bif Nat.blt r 19 then (bif Nat.beq r 18 then "open" else "") else (bif Nat.beq r 19 then "close" else "")))))) else ""
def mDs (r : Nat) : String := bif Nat.blt r 20 then (bif Nat.blt r 10 then (bif Nat.blt r 5 then (bif Nat.blt r 2 then (bif Nat.blt r 1 then (bif Nat.beq r 0 then "(IIII)Z" else "") else (bif Nat.beq r 1 then "(I)B" else "")) else (bif Nat.blt r 3 then (bif Nat.beq r 2 then "()V" else "") else (bif Nat.blt r 4 then (bif Nat.beq r 3 then "()V" else "") else (bif Nat.beq r 4 then "([Lcom/example/latticut/latticut/io/PlainTokens$Name;)I" else "")))) else (bif Nat.blt r 7 then (bif Nat.blt r 6 then (bif Nat.beq r 5 then "(I)I" else "") else (bif Nat.beq r 6 then "()V" else "")) else (bif Nat.blt r 8 then (bif Nat.beq r 7 then "([BIIZ)V" else "") else (bif Nat.blt r 9 then (bif Nat.beq r 8 then "()Lcom/example/latticut/latticut/io/Token;" else "") else (bif Nat.beq r 9 then "([BII)I" else ""))))) else (bif Nat.blt r 15 then (bif Nat.blt r 12 then (bif Nat.blt r 11 then (bif Nat.beq r 10 then "(B)Z" else "") else (bif Nat.beq r 11 then "()Z" else "")) else (bif Nat.blt r 13 then (bif Nat.beq r 12 then "()V" else "") else (bif Nat.blt r 14 then (bif Nat.beq r 13 then "()B" else "") else (bif Nat.beq r 14 then "(II)I" else "")))) else (bif Nat.blt r 17 then (bif Nat.blt r 16 then (bif Nat.beq r 15 then "()I" else "") else (bif Nat.beq r 16 then "()Lcom/example/latticut/latticut/io/Token;" else "")) else (bif Nat.blt r 18 then (bif Nat.beq r 17 then "()Lcom/example/latticut/latticut/io/Token;" else "") else (bif Nat.blt r 19 then (bif Nat.beq r 18 then "(Z)V" else "") else (bif Nat.beq r 19 then "(Lcom/example/latticut/latticut/io/Token;)Lcom/example/latticut/latticut/io/Token;" else "")))))) else ""
def mCode (r : Nat) : ByteArray := bif Nat.blt r 20 then (bif Nat.blt r 10 then (bif Nat.blt r 5 then (bif Nat.blt r 2 then (bif Nat.blt r 1 then (bif Nat.beq r 0 then code else code) else (bif Nat.beq r 1 then method_2_code else code)) else (bif Nat.blt r 3 then (bif Nat.beq r 2 then prog_126_method_1_code else code) else (bif Nat.blt r 4 then (bif Nat.beq r 3 then prog_131_method_1_code else code) else (bif Nat.beq r 4 then prog_131_method_9_code else code)))) else (bif Nat.blt r 7 then (bif Nat.blt r 6 then (bif Nat.beq r 5 then jdk_33_method_47_code else code) else (bif Nat.beq r 6 then prog_135_method_1_code else code)) else (bif Nat.blt r 8 then (bif Nat.beq r 7 then prog_126_method_2_code else code) else (bif Nat.blt r 9 then (bif Nat.beq r 8 then prog_126_method_10_code else code) else (bif Nat.beq r 9 then method_4_code else code))))) else (bif Nat.blt r 15 then (bif Nat.blt r 12 then (bif Nat.blt r 11 then (bif Nat.beq r 10 then method_3_code else code) else (bif Nat.beq r 11 then prog_126_method_5_code else code)) else (bif Nat.blt r 13 then (bif Nat.beq r 12 then prog_126_method_66_code else code) else (bif Nat.blt r 14 then (bif Nat.beq r 13 then prog_126_method_65_code else code) else (bif Nat.beq r 14 then jdk_29_method_69_code else code)))) else (bif Nat.blt r 17 then (bif Nat.blt r 16 then (bif Nat.beq r 15 then prog_126_method_6_code else code) else (bif Nat.beq r 16 then prog_126_method_7_code else code)) else (bif Nat.blt r 18 then (bif Nat.beq r 17 then prog_126_method_51_code else code) else (bif Nat.blt r 19 then (bif Nat.beq r 18 then prog_126_method_52_code else code) else (bif Nat.beq r 19 then prog_126_method_53_code else code)))))) else code
def mRet (r : Nat) : Option FieldType := bif Nat.blt r 20 then (bif Nat.blt r 10 then (bif Nat.blt r 5 then (bif Nat.blt r 2 then (bif Nat.blt r 1 then (bif Nat.beq r 0 then (some .boolean) else none) else (bif Nat.beq r 1 then (some .byte) else none)) else (bif Nat.blt r 3 then (bif Nat.beq r 2 then none else none) else (bif Nat.blt r 4 then (bif Nat.beq r 3 then none else none) else (bif Nat.beq r 4 then (some .int) else none)))) else (bif Nat.blt r 7 then (bif Nat.blt r 6 then (bif Nat.beq r 5 then (some .int) else none) else (bif Nat.beq r 6 then none else none)) else (bif Nat.blt r 8 then (bif Nat.beq r 7 then none else none) else (bif Nat.blt r 9 then (bif Nat.beq r 8 then (some (.object "com/example/latticut/latticut/io/Token")) else none) else (bif Nat.beq r 9 then (some .int) else none))))) else (bif Nat.blt r 15 then (bif Nat.blt r 12 then (bif Nat.blt r 11 then (bif Nat.beq r 10 then (some .boolean) else none) else (bif Nat.beq r 11 then (some .boolean) else none)) else (bif Nat.blt r 13 then (bif Nat.beq r 12 then none else none) else (bif Nat.blt r 14 then (bif Nat.beq r 13 then (some .byte) else none) else (bif Nat.beq r 14 then (some .int) else none)))) else (bif Nat.blt r 17 then (bif Nat.blt r 16 then (bif Nat.beq r 15 then (some .int) else none) else (bif Nat.beq r 16 then (some (.object "com/example/latticut/latticut/io/Token")) else none)) else (bif Nat.blt r 18 then (bif Nat.beq r 17 then (some (.object "com/example/latticut/latticut/io/Token")) else none) else (bif Nat.blt r 19 then (bif Nat.beq r 18 then none else none) else (bif Nat.beq r 19 then (some (.object "com/example/latticut/latticut/io/Token")) else none)))))) else none
def mRk (r : Nat) : Nat := bif Nat.blt r 20 then (bif Nat.blt r 10 then (bif Nat.blt r 5 then (bif Nat.blt r 2 then (bif Nat.blt r 1 then (bif Nat.beq r 0 then 2 else 0) else (bif Nat.beq r 1 then 4 else 0)) else (bif Nat.blt r 3 then (bif Nat.beq r 2 then 0 else 0) else (bif Nat.blt r 4 then (bif Nat.beq r 3 then 0 else 0) else (bif Nat.beq r 4 then 1 else 0)))) else (bif Nat.blt r 7 then (bif Nat.blt r 6 then (bif Nat.beq r 5 then 1 else 0) else (bif Nat.beq r 6 then 0 else 0)) else (bif Nat.blt r 8 then (bif Nat.beq r 7 then 0 else 0) else (bif Nat.blt r 9 then (bif Nat.beq r 8 then 3 else 0) else (bif Nat.beq r 9 then 1 else 0))))) else (bif Nat.blt r 15 then (bif Nat.blt r 12 then (bif Nat.blt r 11 then (bif Nat.beq r 10 then 2 else 0) else (bif Nat.beq r 11 then 2 else 0)) else (bif Nat.blt r 13 then (bif Nat.beq r 12 then 0 else 0) else (bif Nat.blt r 14 then (bif Nat.beq r 13 then 4 else 0) else (bif Nat.beq r 14 then 1 else 0)))) else (bif Nat.blt r 17 then (bif Nat.blt r 16 then (bif Nat.beq r 15 then 1 else 0) else (bif Nat.beq r 16 then 3 else 0)) else (bif Nat.blt r 18 then (bif Nat.beq r 17 then 3 else 0) else (bif Nat.blt r 19 then (bif Nat.beq r 18 then 0 else 0) else (bif Nat.beq r 19 then 3 else 0)))))) else 0
def mPar (r : Nat) : Nat := bif Nat.blt r 20 then (bif Nat.blt r 10 then (bif Nat.blt r 5 then (bif Nat.blt r 2 then (bif Nat.blt r 1 then (bif Nat.beq r 0 then 4 else 0) else (bif Nat.beq r 1 then 1 else 0)) else (bif Nat.blt r 3 then (bif Nat.beq r 2 then 1 else 0) else (bif Nat.blt r 4 then (bif Nat.beq r 3 then 1 else 0) else (bif Nat.beq r 4 then 1 else 0)))) else (bif Nat.blt r 7 then (bif Nat.blt r 6 then (bif Nat.beq r 5 then 1 else 0) else (bif Nat.beq r 6 then 1 else 0)) else (bif Nat.blt r 8 then (bif Nat.beq r 7 then 5 else 0) else (bif Nat.blt r 9 then (bif Nat.beq r 8 then 1 else 0) else (bif Nat.beq r 9 then 3 else 0))))) else (bif Nat.blt r 15 then (bif Nat.blt r 12 then (bif Nat.blt r 11 then (bif Nat.beq r 10 then 1 else 0) else (bif Nat.beq r 11 then 1 else 0)) else (bif Nat.blt r 13 then (bif Nat.beq r 12 then 1 else 0) else (bif Nat.blt r 14 then (bif Nat.beq r 13 then 1 else 0) else (bif Nat.beq r 14 then 2 else 0)))) else (bif Nat.blt r 17 then (bif Nat.blt r 16 then (bif Nat.beq r 15 then 1 else 0) else (bif Nat.beq r 16 then 1 else 0)) else (bif Nat.blt r 18 then (bif Nat.beq r 17 then 1 else 0) else (bif Nat.blt r 19 then (bif Nat.beq r 18 then 2 else 0) else (bif Nat.beq r 19 then 2 else 0)))))) else 0
def mInit (r : Nat) : Bool := bif Nat.blt r 20 then (bif Nat.blt r 10 then (bif Nat.blt r 5 then (bif Nat.blt r 2 then (bif Nat.blt r 1 then (bif Nat.beq r 0 then false else false) else (bif Nat.beq r 1 then false else false)) else (bif Nat.blt r 3 then (bif Nat.beq r 2 then true else false) else (bif Nat.blt r 4 then (bif Nat.beq r 3 then true else false) else (bif Nat.beq r 4 then false else false)))) else (bif Nat.blt r 7 then (bif Nat.blt r 6 then (bif Nat.beq r 5 then false else false) else (bif Nat.beq r 6 then true else false)) else (bif Nat.blt r 8 then (bif Nat.beq r 7 then false else false) else (bif Nat.blt r 9 then (bif Nat.beq r 8 then false else false) else (bif Nat.beq r 9 then false else false))))) else (bif Nat.blt r 15 then (bif Nat.blt r 12 then (bif Nat.blt r 11 then (bif Nat.beq r 10 then false else false) else (bif Nat.beq r 11 then false else false)) else (bif Nat.blt r 13 then (bif Nat.beq r 12 then false else false) else (bif Nat.blt r 14 then (bif Nat.beq r 13 then false else false) else (bif Nat.beq r 14 then false else false)))) else (bif Nat.blt r 17 then (bif Nat.blt r 16 then (bif Nat.beq r 15 then false else false) else (bif Nat.beq r 16 then false else false)) else (bif Nat.blt r 18 then (bif Nat.beq r 17 then false else false) else (bif Nat.blt r 19 then (bif Nat.beq r 18 then false else false) else (bif Nat.beq r 19 then false else false)))))) else false
def mName (i : Nat) : MethodName := ⟨kls (mK i), mNm i, mDs i⟩
def nM : Nat := 20
def ins_0 (pc : Nat) : Option (Instr × Nat × Nat) := bif Nat.blt pc 379 then (bif Nat.blt pc 160 then (bif Nat.blt pc 77 then (bif Nat.blt pc 38 then (bif Nat.blt pc 18 then (bif Nat.blt pc 9 then (bif Nat.blt pc 5 then (bif Nat.blt pc 1 then (bif Nat.beq pc 0 then some (.iconst 5, 1, 0) else none) else (bif Nat.blt pc 3 then (bif Nat.beq pc 1 then some (.newarray .byte, 2, 3) else none) else (bif Nat.beq pc 3 then some (.astore 4, 2, 0) else none))) else (bif Nat.blt pc 7 then (bif Nat.beq pc 5 then some (.aload 4, 2, 0) else none) else (bif Nat.blt pc 8 then (bif Nat.beq pc 7 then some (.iconst 0, 1, 0) else none) else (bif Nat.beq pc 8 then some (.iload_n 0, 1, 0) else none)))) else (bif Nat.blt pc 15 then (bif Nat.blt pc 12 then (bif Nat.beq pc 9 then some (.invokestatic 13, 3, 0) else none) else (bif Nat.blt pc 13 then (bif Nat.beq pc 12 then some (.bastore, 1, 0) else none) else (bif Nat.beq pc 13 then some (.aload 4, 2, 0) else none))) else (bif Nat.blt pc 16 then (bif Nat.beq pc 15 then some (.iconst 1, 1, 0) else none) else (bif Nat.blt pc 17 then (bif Nat.beq pc 16 then some (.iload_n 0, 1, 0) else none) else (bif Nat.beq pc 17 then some (.iconst 3, 1, 0) else none))))) else (bif Nat.blt pc 27 then (bif Nat.blt pc 23 then (bif Nat.blt pc 19 then (bif Nat.beq pc 18 then some (.iushr, 1, 0) else none) else (bif Nat.blt pc 22 then (bif Nat.beq pc 19 then some (.invokestatic 13, 3, 0) else none) else (bif Nat.beq pc 22 then some (.bastore, 1, 0) else none))) else (bif Nat.blt pc 25 then (bif Nat.beq pc 23 then some (.aload 4, 2, 0) else none) else (bif Nat.blt pc 26 then (bif Nat.beq pc 25 then some (.iconst 2, 1, 0) else none) else (bif Nat.beq pc 26 then some (.iload_n 0, 1, 0) else none)))) else (bif Nat.blt pc 33 then (bif Nat.blt pc 29 then (bif Nat.beq pc 27 then some (.bipush 6, 2, 0) else none) else (bif Nat.blt pc 30 then (bif Nat.beq pc 29 then some (.iushr, 1, 0) else none) else (bif Nat.beq pc 30 then some (.invokestatic 13, 3, 0) else none))) else (bif Nat.blt pc 36 then (bif Nat.blt pc 34 then (bif Nat.beq pc 33 then some (.bastore, 1, 0) else none) else (bif Nat.beq pc 34 then some (.aload 4, 2, 0) else none)) else (bif Nat.blt pc 37 then (bif Nat.beq pc 36 then some (.iconst 3, 1, 0) else none) else (bif Nat.beq pc 37 then some (.iload_n 0, 1, 0) else none)))))) else (bif Nat.blt pc 57 then (bif Nat.blt pc 48 then (bif Nat.blt pc 44 then (bif Nat.blt pc 40 then (bif Nat.beq pc 38 then some (.bipush 9, 2, 0) else none) else (bif Nat.blt pc 41 then (bif Nat.beq pc 40 then some (.iushr, 1, 0) else none) else (bif Nat.beq pc 41 then some (.invokestatic 13, 3, 0) else none))) else (bif Nat.blt pc 45 then (bif Nat.beq pc 44 then some (.bastore, 1, 0) else none) else (bif Nat.blt pc 47 then (bif Nat.beq pc 45 then some (.aload 4, 2, 0) else none) else (bif Nat.beq pc 47 then some (.iconst 4, 1, 0) else none)))) else (bif Nat.blt pc 52 then (bif Nat.blt pc 49 then (bif Nat.beq pc 48 then some (.iload_n 0, 1, 0) else none) else (bif Nat.blt pc 51 then (bif Nat.beq pc 49 then some (.bipush 12, 2, 0) else none) else (bif Nat.beq pc 51 then some (.iushr, 1, 0) else none))) else (bif Nat.blt pc 55 then (bif Nat.beq pc 52 then some (.invokestatic 13, 3, 0) else none) else (bif Nat.blt pc 56 then (bif Nat.beq pc 55 then some (.bastore, 1, 0) else none) else (bif Nat.beq pc 56 then some (.iload_n 1, 1, 0) else none))))) else (bif Nat.blt pc 67 then (bif Nat.blt pc 62 then (bif Nat.blt pc 59 then (bif Nat.beq pc 57 then some (.ldc 17, 2, 0) else none) else (bif Nat.blt pc 60 then (bif Nat.beq pc 59 then some (.iand, 1, 0) else none) else (bif Nat.beq pc 60 then some (.bipush 6, 2, 0) else none))) else (bif Nat.blt pc 63 then (bif Nat.beq pc 62 then some (.irem, 1, 0) else none) else (bif Nat.blt pc 65 then (bif Nat.beq pc 63 then some (.istore 5, 2, 0) else none) else (bif Nat.beq pc 65 then some (.iload 5, 2, 0) else none)))) else (bif Nat.blt pc 71 then (bif Nat.blt pc 68 then (bif Nat.beq pc 67 then some (.iload_n 2, 1, 0) else none) else (bif Nat.blt pc 70 then (bif Nat.beq pc 68 then some (.ldc 17, 2, 0) else none) else (bif Nat.beq pc 70 then some (.iand, 1, 0) else none))) else (bif Nat.blt pc 75 then (bif Nat.blt pc 73 then (bif Nat.beq pc 71 then some (.bipush 6, 2, 0) else none) else (bif Nat.beq pc 73 then some (.iload 5, 2, 0) else none)) else (bif Nat.blt pc 76 then (bif Nat.beq pc 75 then some (.isub, 1, 0) else none) else (bif Nat.beq pc 76 then some (.irem, 1, 0) else none))))))) else (bif Nat.blt pc 112 then (bif Nat.blt pc 95 then (bif Nat.blt pc 86 then (bif Nat.blt pc 81 then (bif Nat.blt pc 78 then (bif Nat.beq pc 77 then some (.iadd, 1, 0) else none) else (bif Nat.blt pc 80 then (bif Nat.beq pc 78 then some (.istore 6, 2, 0) else none) else (bif Nat.beq pc 80 then some (.iload_n 3, 1, 0) else none))) else (bif Nat.blt pc 82 then (bif Nat.beq pc 81 then some (.iconst 1, 1, 0) else none) else (bif Nat.blt pc 83 then (bif Nat.beq pc 82 then some (.iand, 1, 0) else none) else (bif Nat.beq pc 83 then some (.ifCond .eq 7, 3, 0) else none)))) else (bif Nat.blt pc 91 then (bif Nat.blt pc 87 then (bif Nat.beq pc 86 then some (.iconst 1, 1, 0) else none) else (bif Nat.blt pc 90 then (bif Nat.beq pc 87 then some (.goto 4, 3, 0) else none) else (bif Nat.beq pc 90 then some (.iconst 0, 1, 0) else none))) else (bif Nat.blt pc 93 then (bif Nat.beq pc 91 then some (.istore 7, 2, 0) else none) else (bif Nat.blt pc 94 then (bif Nat.beq pc 93 then some (.iload_n 3, 1, 0) else none) else (bif Nat.beq pc 94 then some (.iconst 1, 1, 0) else none))))) else (bif Nat.blt pc 103 then (bif Nat.blt pc 98 then (bif Nat.blt pc 96 then (bif Nat.beq pc 95 then some (.iushr, 1, 0) else none) else (bif Nat.blt pc 97 then (bif Nat.beq pc 96 then some (.iconst 3, 1, 0) else none) else (bif Nat.beq pc 97 then some (.iand, 1, 0) else none))) else (bif Nat.blt pc 100 then (bif Nat.beq pc 98 then some (.istore 8, 2, 0) else none) else (bif Nat.blt pc 101 then (bif Nat.beq pc 100 then some (.iconst 2, 1, 0) else none) else (bif Nat.beq pc 101 then some (.newarray .byte, 2, 3) else none)))) else (bif Nat.blt pc 107 then (bif Nat.blt pc 104 then (bif Nat.beq pc 103 then some (.dup, 1, 0) else none) else (bif Nat.blt pc 105 then (bif Nat.beq pc 104 then some (.iconst 0, 1, 0) else none) else (bif Nat.beq pc 105 then some (.bipush 123, 2, 0) else none))) else (bif Nat.blt pc 109 then (bif Nat.blt pc 108 then (bif Nat.beq pc 107 then some (.bastore, 1, 0) else none) else (bif Nat.beq pc 108 then some (.dup, 1, 0) else none)) else (bif Nat.blt pc 110 then (bif Nat.beq pc 109 then some (.iconst 1, 1, 0) else none) else (bif Nat.beq pc 110 then some (.bipush 125, 2, 0) else none)))))) else (bif Nat.blt pc 134 then (bif Nat.blt pc 124 then (bif Nat.blt pc 118 then (bif Nat.blt pc 113 then (bif Nat.beq pc 112 then some (.bastore, 1, 0) else none) else (bif Nat.blt pc 115 then (bif Nat.beq pc 113 then some (.astore 9, 2, 0) else none) else (bif Nat.beq pc 115 then some (.new 18, 3, 0) else none))) else (bif Nat.blt pc 119 then (bif Nat.beq pc 118 then some (.dup, 1, 0) else none) else (bif Nat.blt pc 122 then (bif Nat.beq pc 119 then some (.invokespecial 20, 3, 1) else none) else (bif Nat.beq pc 122 then some (.astore 10, 2, 0) else none)))) else (bif Nat.blt pc 129 then (bif Nat.blt pc 126 then (bif Nat.beq pc 124 then some (.aload 10, 2, 0) else none) else (bif Nat.blt pc 128 then (bif Nat.beq pc 126 then some (.aload 9, 2, 0) else none) else (bif Nat.beq pc 128 then some (.iconst 0, 1, 0) else none))) else (bif Nat.blt pc 130 then (bif Nat.beq pc 129 then some (.iconst 2, 1, 0) else none) else (bif Nat.blt pc 131 then (bif Nat.beq pc 130 then some (.iconst 1, 1, 0) else none) else (bif Nat.beq pc 131 then some (.invokevirtual 21, 3, 9) else none))))) else (bif Nat.blt pc 146 then (bif Nat.blt pc 140 then (bif Nat.blt pc 136 then (bif Nat.beq pc 134 then some (.iload 8, 2, 0) else none) else (bif Nat.blt pc 137 then (bif Nat.beq pc 136 then some (.iconst 1, 1, 0) else none) else (bif Nat.beq pc 137 then some (.if_icmp .lt 9, 3, 0) else none))) else (bif Nat.blt pc 142 then (bif Nat.beq pc 140 then some (.aload 10, 2, 0) else none) else (bif Nat.blt pc 145 then (bif Nat.beq pc 142 then some (.invokevirtual 25, 3, 18) else none) else (bif Nat.beq pc 145 then some (.pop, 1, 0) else none)))) else (bif Nat.blt pc 152 then (bif Nat.blt pc 148 then (bif Nat.beq pc 146 then some (.iload 8, 2, 0) else none) else (bif Nat.blt pc 149 then (bif Nat.beq pc 148 then some (.iconst 2, 1, 0) else none) else (bif Nat.beq pc 149 then some (.if_icmp .lt 9, 3, 0) else none))) else (bif Nat.blt pc 157 then (bif Nat.blt pc 154 then (bif Nat.beq pc 152 then some (.aload 10, 2, 0) else none) else (bif Nat.beq pc 154 then some (.invokevirtual 25, 3, 18) else none)) else (bif Nat.blt pc 158 then (bif Nat.beq pc 157 then some (.pop, 1, 0) else none) else (bif Nat.beq pc 158 then some (.iload 8, 2, 0) else none)))))))) else (bif Nat.blt pc 271 then (bif Nat.blt pc 217 then (bif Nat.blt pc 185 then (bif Nat.blt pc 172 then (bif Nat.blt pc 166 then (bif Nat.blt pc 161 then (bif Nat.beq pc 160 then some (.iconst 3, 1, 0) else none) else (bif Nat.blt pc 164 then (bif Nat.beq pc 161 then some (.if_icmp .lt 9, 3, 0) else none) else (bif Nat.beq pc 164 then some (.aload 10, 2, 0) else none))) else (bif Nat.blt pc 169 then (bif Nat.beq pc 166 then some (.invokevirtual 25, 3, 18) else none) else (bif Nat.blt pc 170 then (bif Nat.beq pc 169 then some (.pop, 1, 0) else none) else (bif Nat.beq pc 170 then some (.aload 10, 2, 0) else none)))) else (bif Nat.blt pc 178 then (bif Nat.blt pc 174 then (bif Nat.beq pc 172 then some (.aload 4, 2, 0) else none) else (bif Nat.blt pc 176 then (bif Nat.beq pc 174 then some (.iload 5, 2, 0) else none) else (bif Nat.beq pc 176 then some (.iload 6, 2, 0) else none))) else (bif Nat.blt pc 180 then (bif Nat.beq pc 178 then some (.iload 7, 2, 0) else none) else (bif Nat.blt pc 183 then (bif Nat.beq pc 180 then some (.invokevirtual 21, 3, 9) else none) else (bif Nat.beq pc 183 then some (.aload 10, 2, 0) else none))))) else (bif Nat.blt pc 201 then (bif Nat.blt pc 195 then (bif Nat.blt pc 188 then (bif Nat.beq pc 185 then some (.invokevirtual 29, 3, 10) else none) else (bif Nat.blt pc 193 then (bif Nat.beq pc 188 then some (.ifnull 5, 3, 0) else none) else (bif Nat.beq pc 193 then some (.iload 5, 2, 0) else none))) else (bif Nat.blt pc 197 then (bif Nat.beq pc 195 then some (.istore 11, 2, 0) else none) else (bif Nat.blt pc 199 then (bif Nat.beq pc 197 then some (.aload 4, 2, 0) else none) else (bif Nat.beq pc 199 then some (.iload 11, 2, 0) else none)))) else (bif Nat.blt pc 208 then (bif Nat.blt pc 203 then (bif Nat.beq pc 201 then some (.iload 6, 2, 0) else none) else (bif Nat.blt pc 206 then (bif Nat.beq pc 203 then some (.invokestatic 32, 3, 11) else none) else (bif Nat.beq pc 206 then some (.istore 11, 2, 0) else none))) else (bif Nat.blt pc 212 then (bif Nat.blt pc 210 then (bif Nat.beq pc 208 then some (.aload 4, 2, 0) else none) else (bif Nat.beq pc 210 then some (.iload 11, 2, 0) else none)) else (bif Nat.blt pc 214 then (bif Nat.beq pc 212 then some (.iload 6, 2, 0) else none) else (bif Nat.beq pc 214 then some (.invokestatic 32, 3, 11) else none)))))) else (bif Nat.blt pc 243 then (bif Nat.blt pc 230 then (bif Nat.blt pc 223 then (bif Nat.blt pc 219 then (bif Nat.beq pc 217 then some (.istore 11, 2, 0) else none) else (bif Nat.blt pc 221 then (bif Nat.beq pc 219 then some (.aload 4, 2, 0) else none) else (bif Nat.beq pc 221 then some (.iload 11, 2, 0) else none))) else (bif Nat.blt pc 225 then (bif Nat.beq pc 223 then some (.iload 6, 2, 0) else none) else (bif Nat.blt pc 228 then (bif Nat.beq pc 225 then some (.invokestatic 32, 3, 11) else none) else (bif Nat.beq pc 228 then some (.istore 11, 2, 0) else none)))) else (bif Nat.blt pc 236 then (bif Nat.blt pc 232 then (bif Nat.beq pc 230 then some (.aload 4, 2, 0) else none) else (bif Nat.blt pc 234 then (bif Nat.beq pc 232 then some (.iload 11, 2, 0) else none) else (bif Nat.beq pc 234 then some (.iload 6, 2, 0) else none))) else (bif Nat.blt pc 239 then (bif Nat.beq pc 236 then some (.invokestatic 32, 3, 11) else none) else (bif Nat.blt pc 241 then (bif Nat.beq pc 239 then some (.istore 11, 2, 0) else none) else (bif Nat.beq pc 241 then some (.aload 4, 2, 0) else none))))) else (bif Nat.blt pc 256 then (bif Nat.blt pc 250 then (bif Nat.blt pc 245 then (bif Nat.beq pc 243 then some (.iload 11, 2, 0) else none) else (bif Nat.blt pc 247 then (bif Nat.beq pc 245 then some (.iload 6, 2, 0) else none) else (bif Nat.beq pc 247 then some (.invokestatic 32, 3, 11) else none))) else (bif Nat.blt pc 252 then (bif Nat.beq pc 250 then some (.istore 11, 2, 0) else none) else (bif Nat.blt pc 254 then (bif Nat.beq pc 252 then some (.iload 11, 2, 0) else none) else (bif Nat.beq pc 254 then some (.iload 6, 2, 0) else none)))) else (bif Nat.blt pc 264 then (bif Nat.blt pc 259 then (bif Nat.beq pc 256 then some (.if_icmp .ne 10, 3, 0) else none) else (bif Nat.blt pc 261 then (bif Nat.beq pc 259 then some (.iload 7, 2, 0) else none) else (bif Nat.beq pc 261 then some (.ifCond .ne 5, 3, 0) else none))) else (bif Nat.blt pc 266 then (bif Nat.blt pc 265 then (bif Nat.beq pc 264 then some (.iconst 1, 1, 0) else none) else (bif Nat.beq pc 265 then some (.ireturn, 1, 0) else none)) else (bif Nat.blt pc 268 then (bif Nat.beq pc 266 then some (.aload 10, 2, 0) else none) else (bif Nat.beq pc 268 then some (.invokevirtual 36, 3, 13) else none))))))) else (bif Nat.blt pc 327 then (bif Nat.blt pc 300 then (bif Nat.blt pc 285 then (bif Nat.blt pc 277 then (bif Nat.blt pc 273 then (bif Nat.beq pc 271 then some (.istore 12, 2, 0) else none) else (bif Nat.blt pc 275 then (bif Nat.beq pc 273 then some (.iload 11, 2, 0) else none) else (bif Nat.beq pc 275 then some (.iload 6, 2, 0) else none))) else (bif Nat.blt pc 280 then (bif Nat.beq pc 277 then some (.if_icmp .ne 24, 3, 0) else none) else (bif Nat.blt pc 282 then (bif Nat.beq pc 280 then some (.iload 12, 2, 0) else none) else (bif Nat.beq pc 282 then some (.ifCond .eq 17, 3, 0) else none)))) else (bif Nat.blt pc 292 then (bif Nat.blt pc 287 then (bif Nat.beq pc 285 then some (.aload 10, 2, 0) else none) else (bif Nat.blt pc 290 then (bif Nat.beq pc 287 then some (.invokevirtual 40, 3, 17) else none) else (bif Nat.beq pc 290 then some (.iload 6, 2, 0) else none))) else (bif Nat.blt pc 295 then (bif Nat.beq pc 292 then some (.if_icmp .ne 7, 3, 0) else none) else (bif Nat.blt pc 296 then (bif Nat.beq pc 295 then some (.iconst 1, 1, 0) else none) else (bif Nat.beq pc 296 then some (.goto 4, 3, 0) else none))))) else (bif Nat.blt pc 311 then (bif Nat.blt pc 305 then (bif Nat.blt pc 301 then (bif Nat.beq pc 300 then some (.ireturn, 1, 0) else none) else (bif Nat.blt pc 303 then (bif Nat.beq pc 301 then some (.aload 4, 2, 0) else none) else (bif Nat.beq pc 303 then some (.iload 11, 2, 0) else none))) else (bif Nat.blt pc 306 then (bif Nat.beq pc 305 then some (.baload, 1, 0) else none) else (bif Nat.blt pc 308 then (bif Nat.beq pc 306 then some (.bipush 10, 2, 0) else none) else (bif Nat.beq pc 308 then some (.if_icmp .ne 7, 3, 0) else none)))) else (bif Nat.blt pc 316 then (bif Nat.blt pc 312 then (bif Nat.beq pc 311 then some (.iconst 1, 1, 0) else none) else (bif Nat.blt pc 315 then (bif Nat.beq pc 312 then some (.goto 4, 3, 0) else none) else (bif Nat.beq pc 315 then some (.iconst 0, 1, 0) else none))) else (bif Nat.blt pc 320 then (bif Nat.blt pc 318 then (bif Nat.beq pc 316 then some (.istore 13, 2, 0) else none) else (bif Nat.beq pc 318 then some (.iload 12, 2, 0) else none)) else (bif Nat.blt pc 322 then (bif Nat.beq pc 320 then some (.iload 13, 2, 0) else none) else (bif Nat.beq pc 322 then some (.if_icmp .eq 5, 3, 0) else none)))))) else (bif Nat.blt pc 352 then (bif Nat.blt pc 340 then (bif Nat.blt pc 334 then (bif Nat.blt pc 329 then (bif Nat.beq pc 327 then some (.iload 13, 2, 0) else none) else (bif Nat.blt pc 332 then (bif Nat.beq pc 329 then some (.ifCond .eq 21, 3, 0) else none) else (bif Nat.beq pc 332 then some (.aload 10, 2, 0) else none))) else (bif Nat.blt pc 337 then (bif Nat.beq pc 334 then some (.invokevirtual 40, 3, 17) else none) else (bif Nat.blt pc 339 then (bif Nat.beq pc 337 then some (.iload 11, 2, 0) else none) else (bif Nat.beq pc 339 then some (.iconst 1, 1, 0) else none)))) else (bif Nat.blt pc 345 then (bif Nat.blt pc 341 then (bif Nat.beq pc 340 then some (.iadd, 1, 0) else none) else (bif Nat.blt pc 344 then (bif Nat.beq pc 341 then some (.if_icmp .ne 7, 3, 0) else none) else (bif Nat.beq pc 344 then some (.iconst 1, 1, 0) else none))) else (bif Nat.blt pc 349 then (bif Nat.beq pc 345 then some (.goto 4, 3, 0) else none) else (bif Nat.blt pc 350 then (bif Nat.beq pc 349 then some (.ireturn, 1, 0) else none) else (bif Nat.beq pc 350 then some (.aload 4, 2, 0) else none))))) else (bif Nat.blt pc 362 then (bif Nat.blt pc 357 then (bif Nat.blt pc 354 then (bif Nat.beq pc 352 then some (.iload 11, 2, 0) else none) else (bif Nat.blt pc 355 then (bif Nat.beq pc 354 then some (.baload, 1, 0) else none) else (bif Nat.beq pc 355 then some (.bipush 123, 2, 0) else none))) else (bif Nat.blt pc 360 then (bif Nat.beq pc 357 then some (.if_icmp .eq 5, 3, 0) else none) else (bif Nat.blt pc 361 then (bif Nat.beq pc 360 then some (.iconst 1, 1, 0) else none) else (bif Nat.beq pc 361 then some (.ireturn, 1, 0) else none)))) else (bif Nat.blt pc 370 then (bif Nat.blt pc 364 then (bif Nat.beq pc 362 then some (.aload 10, 2, 0) else none) else (bif Nat.blt pc 367 then (bif Nat.beq pc 364 then some (.invokevirtual 25, 3, 18) else none) else (bif Nat.beq pc 367 then some (.getstatic 44, 3, 3) else none))) else (bif Nat.blt pc 374 then (bif Nat.blt pc 373 then (bif Nat.beq pc 370 then some (.if_acmp .ne 7, 3, 0) else none) else (bif Nat.beq pc 373 then some (.iconst 1, 1, 0) else none)) else (bif Nat.blt pc 378 then (bif Nat.beq pc 374 then some (.goto 4, 3, 0) else none) else (bif Nat.beq pc 378 then some (.ireturn, 1, 0) else none))))))))) else none
def ins_1 (pc : Nat) : Option (Instr × Nat × Nat) := bif Nat.blt pc 54 then (bif Nat.blt pc 26 then (bif Nat.blt pc 14 then (bif Nat.blt pc 8 then (bif Nat.blt pc 4 then (bif Nat.blt pc 2 then (bif Nat.beq pc 0 then some (.bipush 8, 2, 0) else none) else (bif Nat.beq pc 2 then some (.newarray .byte, 2, 3) else none)) else (bif Nat.blt pc 5 then (bif Nat.beq pc 4 then some (.dup, 1, 0) else none) else (bif Nat.blt pc 6 then (bif Nat.beq pc 5 then some (.iconst 0, 1, 0) else none) else (bif Nat.beq pc 6 then some (.bipush 32, 2, 0) else none)))) else (bif Nat.blt pc 10 then (bif Nat.blt pc 9 then (bif Nat.beq pc 8 then some (.bastore, 1, 0) else none) else (bif Nat.beq pc 9 then some (.dup, 1, 0) else none)) else (bif Nat.blt pc 11 then (bif Nat.beq pc 10 then some (.iconst 1, 1, 0) else none) else (bif Nat.blt pc 13 then (bif Nat.beq pc 11 then some (.bipush 9, 2, 0) else none) else (bif Nat.beq pc 13 then some (.bastore, 1, 0) else none))))) else (bif Nat.blt pc 20 then (bif Nat.blt pc 16 then (bif Nat.blt pc 15 then (bif Nat.beq pc 14 then some (.dup, 1, 0) else none) else (bif Nat.beq pc 15 then some (.iconst 2, 1, 0) else none)) else (bif Nat.blt pc 18 then (bif Nat.beq pc 16 then some (.bipush 13, 2, 0) else none) else (bif Nat.blt pc 19 then (bif Nat.beq pc 18 then some (.bastore, 1, 0) else none) else (bif Nat.beq pc 19 then some (.dup, 1, 0) else none)))) else (bif Nat.blt pc 23 then (bif Nat.blt pc 21 then (bif Nat.beq pc 20 then some (.iconst 3, 1, 0) else none) else (bif Nat.beq pc 21 then some (.bipush 10, 2, 0) else none)) else (bif Nat.blt pc 24 then (bif Nat.beq pc 23 then some (.bastore, 1, 0) else none) else (bif Nat.blt pc 25 then (bif Nat.beq pc 24 then some (.dup, 1, 0) else none) else (bif Nat.beq pc 25 then some (.iconst 4, 1, 0) else none)))))) else (bif Nat.blt pc 40 then (bif Nat.blt pc 33 then (bif Nat.blt pc 29 then (bif Nat.blt pc 28 then (bif Nat.beq pc 26 then some (.bipush 123, 2, 0) else none) else (bif Nat.beq pc 28 then some (.bastore, 1, 0) else none)) else (bif Nat.blt pc 30 then (bif Nat.beq pc 29 then some (.dup, 1, 0) else none) else (bif Nat.blt pc 31 then (bif Nat.beq pc 30 then some (.iconst 5, 1, 0) else none) else (bif Nat.beq pc 31 then some (.bipush 125, 2, 0) else none)))) else (bif Nat.blt pc 35 then (bif Nat.blt pc 34 then (bif Nat.beq pc 33 then some (.bastore, 1, 0) else none) else (bif Nat.beq pc 34 then some (.dup, 1, 0) else none)) else (bif Nat.blt pc 37 then (bif Nat.beq pc 35 then some (.bipush 6, 2, 0) else none) else (bif Nat.blt pc 39 then (bif Nat.beq pc 37 then some (.bipush 11, 2, 0) else none) else (bif Nat.beq pc 39 then some (.bastore, 1, 0) else none))))) else (bif Nat.blt pc 47 then (bif Nat.blt pc 43 then (bif Nat.blt pc 41 then (bif Nat.beq pc 40 then some (.dup, 1, 0) else none) else (bif Nat.beq pc 41 then some (.bipush 7, 2, 0) else none)) else (bif Nat.blt pc 45 then (bif Nat.beq pc 43 then some (.bipush (-30), 2, 0) else none) else (bif Nat.blt pc 46 then (bif Nat.beq pc 45 then some (.bastore, 1, 0) else none) else (bif Nat.beq pc 46 then some (.astore_n 1, 1, 0) else none)))) else (bif Nat.blt pc 51 then (bif Nat.blt pc 48 then (bif Nat.beq pc 47 then some (.aload_n 1, 1, 0) else none) else (bif Nat.blt pc 49 then (bif Nat.beq pc 48 then some (.iload_n 0, 1, 0) else none) else (bif Nat.beq pc 49 then some (.bipush 7, 2, 0) else none))) else (bif Nat.blt pc 52 then (bif Nat.beq pc 51 then some (.iand, 1, 0) else none) else (bif Nat.blt pc 53 then (bif Nat.beq pc 52 then some (.baload, 1, 0) else none) else (bif Nat.beq pc 53 then some (.ireturn, 1, 0) else none))))))) else none
def ins_2 (pc : Nat) : Option (Instr × Nat × Nat) := bif Nat.blt pc 107 then (bif Nat.blt pc 55 then (bif Nat.blt pc 27 then (bif Nat.blt pc 12 then (bif Nat.blt pc 5 then (bif Nat.blt pc 1 then (bif Nat.beq pc 0 then some (.aload_n 0, 1, 0) else none) else (bif Nat.blt pc 4 then (bif Nat.beq pc 1 then some (.invokespecial 1, 3, 2) else none) else (bif Nat.beq pc 4 then some (.aload_n 0, 1, 0) else none))) else (bif Nat.blt pc 8 then (bif Nat.beq pc 5 then some (.new 7, 3, 1) else none) else (bif Nat.blt pc 9 then (bif Nat.beq pc 8 then some (.dup, 1, 0) else none) else (bif Nat.beq pc 9 then some (.invokespecial 9, 3, 3) else none)))) else (bif Nat.blt pc 19 then (bif Nat.blt pc 15 then (bif Nat.beq pc 12 then some (.putfield 10, 3, 3) else none) else (bif Nat.blt pc 16 then (bif Nat.beq pc 15 then some (.aload_n 0, 1, 0) else none) else (bif Nat.beq pc 16 then some (.new 16, 3, 3) else none))) else (bif Nat.blt pc 23 then (bif Nat.blt pc 20 then (bif Nat.beq pc 19 then some (.dup, 1, 0) else none) else (bif Nat.beq pc 20 then some (.invokespecial 18, 3, 7) else none)) else (bif Nat.blt pc 26 then (bif Nat.beq pc 23 then some (.putfield 19, 3, 7) else none) else (bif Nat.beq pc 26 then some (.aload_n 0, 1, 0) else none))))) else (bif Nat.blt pc 42 then (bif Nat.blt pc 34 then (bif Nat.blt pc 30 then (bif Nat.beq pc 27 then some (.new 16, 3, 3) else none) else (bif Nat.blt pc 31 then (bif Nat.beq pc 30 then some (.dup, 1, 0) else none) else (bif Nat.beq pc 31 then some (.invokespecial 18, 3, 7) else none))) else (bif Nat.blt pc 38 then (bif Nat.blt pc 37 then (bif Nat.beq pc 34 then some (.putfield 23, 3, 8) else none) else (bif Nat.beq pc 37 then some (.aload_n 0, 1, 0) else none)) else (bif Nat.blt pc 40 then (bif Nat.beq pc 38 then some (.bipush 16, 2, 0) else none) else (bif Nat.beq pc 40 then some (.newarray .boolean, 2, 5) else none)))) else (bif Nat.blt pc 48 then (bif Nat.blt pc 45 then (bif Nat.beq pc 42 then some (.putfield 26, 3, 9) else none) else (bif Nat.blt pc 46 then (bif Nat.beq pc 45 then some (.aload_n 0, 1, 0) else none) else (bif Nat.beq pc 46 then some (.bipush 16, 2, 0) else none))) else (bif Nat.blt pc 53 then (bif Nat.blt pc 50 then (bif Nat.beq pc 48 then some (.newarray .long, 2, 6) else none) else (bif Nat.beq pc 50 then some (.putfield 30, 3, 10) else none)) else (bif Nat.blt pc 54 then (bif Nat.beq pc 53 then some (.aload_n 0, 1, 0) else none) else (bif Nat.beq pc 54 then some (.iconst 0, 1, 0) else none)))))) else (bif Nat.blt pc 81 then (bif Nat.blt pc 69 then (bif Nat.blt pc 62 then (bif Nat.blt pc 58 then (bif Nat.beq pc 55 then some (.anewarray 34, 3, 6) else none) else (bif Nat.blt pc 61 then (bif Nat.beq pc 58 then some (.putfield 36, 3, 11) else none) else (bif Nat.beq pc 61 then some (.aload_n 0, 1, 0) else none))) else (bif Nat.blt pc 63 then (bif Nat.beq pc 62 then some (.iconst 0, 1, 0) else none) else (bif Nat.blt pc 66 then (bif Nat.beq pc 63 then some (.anewarray 40, 3, 7) else none) else (bif Nat.beq pc 66 then some (.putfield 42, 3, 12) else none)))) else (bif Nat.blt pc 74 then (bif Nat.blt pc 70 then (bif Nat.beq pc 69 then some (.aload_n 0, 1, 0) else none) else (bif Nat.blt pc 72 then (bif Nat.beq pc 70 then some (.bipush 64, 2, 0) else none) else (bif Nat.beq pc 72 then some (.newarray .byte, 2, 3) else none))) else (bif Nat.blt pc 78 then (bif Nat.blt pc 77 then (bif Nat.beq pc 74 then some (.putfield 46, 3, 13) else none) else (bif Nat.beq pc 77 then some (.aload_n 0, 1, 0) else none)) else (bif Nat.blt pc 79 then (bif Nat.beq pc 78 then some (.iconst 0, 1, 0) else none) else (bif Nat.beq pc 79 then some (.newarray .int, 2, 4) else none))))) else (bif Nat.blt pc 94 then (bif Nat.blt pc 86 then (bif Nat.blt pc 84 then (bif Nat.beq pc 81 then some (.putfield 50, 3, 14) else none) else (bif Nat.blt pc 85 then (bif Nat.beq pc 84 then some (.aload_n 0, 1, 0) else none) else (bif Nat.beq pc 85 then some (.iconst 0, 1, 0) else none))) else (bif Nat.blt pc 91 then (bif Nat.blt pc 88 then (bif Nat.beq pc 86 then some (.newarray .int, 2, 4) else none) else (bif Nat.beq pc 88 then some (.putfield 54, 3, 15) else none)) else (bif Nat.blt pc 92 then (bif Nat.beq pc 91 then some (.aload_n 0, 1, 0) else none) else (bif Nat.beq pc 92 then some (.bipush 8, 2, 0) else none)))) else (bif Nat.blt pc 100 then (bif Nat.blt pc 96 then (bif Nat.beq pc 94 then some (.newarray .int, 2, 4) else none) else (bif Nat.blt pc 99 then (bif Nat.beq pc 96 then some (.putfield 57, 3, 16) else none) else (bif Nat.beq pc 99 then some (.aload_n 0, 1, 0) else none))) else (bif Nat.blt pc 103 then (bif Nat.blt pc 101 then (bif Nat.beq pc 100 then some (.iconst 4, 1, 0) else none) else (bif Nat.beq pc 101 then some (.newarray .long, 2, 6) else none)) else (bif Nat.blt pc 106 then (bif Nat.beq pc 103 then some (.putfield 60, 3, 17) else none) else (bif Nat.beq pc 106 then some (.return_, 1, 0) else none))))))) else none
def ins_3 (pc : Nat) : Option (Instr × Nat × Nat) := bif Nat.blt pc 33 then (bif Nat.blt pc 15 then (bif Nat.blt pc 7 then (bif Nat.blt pc 4 then (bif Nat.blt pc 1 then (bif Nat.beq pc 0 then some (.aload_n 0, 1, 0) else none) else (bif Nat.beq pc 1 then some (.invokespecial 1, 3, 4) else none)) else (bif Nat.blt pc 5 then (bif Nat.beq pc 4 then some (.aload_n 0, 1, 0) else none) else (bif Nat.beq pc 5 then some (.bipush 64, 2, 0) else none))) else (bif Nat.blt pc 13 then (bif Nat.blt pc 10 then (bif Nat.beq pc 7 then some (.anewarray 7, 3, 2) else none) else (bif Nat.beq pc 10 then some (.putfield 9, 3, 0) else none)) else (bif Nat.blt pc 14 then (bif Nat.beq pc 13 then some (.aload_n 0, 1, 0) else none) else (bif Nat.beq pc 14 then some (.aload_n 0, 1, 0) else none)))) else (bif Nat.blt pc 25 then (bif Nat.blt pc 21 then (bif Nat.blt pc 18 then (bif Nat.beq pc 15 then some (.getfield 9, 3, 0) else none) else (bif Nat.beq pc 18 then some (.invokestatic 15, 3, 5) else none)) else (bif Nat.blt pc 24 then (bif Nat.beq pc 21 then some (.putfield 19, 3, 1) else none) else (bif Nat.beq pc 24 then some (.aload_n 0, 1, 0) else none))) else (bif Nat.blt pc 29 then (bif Nat.blt pc 26 then (bif Nat.beq pc 25 then some (.iconst 0, 1, 0) else none) else (bif Nat.beq pc 26 then some (.anewarray 7, 3, 2) else none)) else (bif Nat.blt pc 32 then (bif Nat.beq pc 29 then some (.putfield 22, 3, 2) else none) else (bif Nat.beq pc 32 then some (.return_, 1, 0) else none))))) else none
def ins_4 (pc : Nat) : Option (Instr × Nat × Nat) := bif Nat.blt pc 8 then (bif Nat.blt pc 3 then (bif Nat.blt pc 1 then (bif Nat.beq pc 0 then some (.aload_n 0, 1, 0) else none) else (bif Nat.blt pc 2 then (bif Nat.beq pc 1 then some (.arraylength, 1, 0) else none) else (bif Nat.beq pc 2 then some (.iconst 1, 1, 0) else none))) else (bif Nat.blt pc 4 then (bif Nat.beq pc 3 then some (.isub, 1, 0) else none) else (bif Nat.blt pc 7 then (bif Nat.beq pc 4 then some (.invokestatic 83, 3, 6) else none) else (bif Nat.beq pc 7 then some (.ireturn, 1, 0) else none)))) else none
def ins_5 (pc : Nat) : Option (Instr × Nat × Nat) := bif Nat.blt pc 79 then (bif Nat.blt pc 54 then (bif Nat.blt pc 22 then (bif Nat.blt pc 17 then (bif Nat.blt pc 1 then (bif Nat.beq pc 0 then some (.iload_n 0, 1, 0) else none) else (bif Nat.blt pc 15 then (bif Nat.beq pc 1 then some (.ifCond .gt 14, 3, 0) else none) else (bif Nat.beq pc 15 then some (.bipush 31, 2, 0) else none))) else (bif Nat.blt pc 18 then (bif Nat.beq pc 17 then some (.istore_n 1, 1, 0) else none) else (bif Nat.blt pc 19 then (bif Nat.beq pc 18 then some (.iload_n 0, 1, 0) else none) else (bif Nat.beq pc 19 then some (.ldc_w 264, 3, 1) else none)))) else (bif Nat.blt pc 37 then (bif Nat.blt pc 33 then (bif Nat.beq pc 22 then some (.if_icmp .lt 11, 3, 0) else none) else (bif Nat.blt pc 34 then (bif Nat.beq pc 33 then some (.iload_n 0, 1, 0) else none) else (bif Nat.beq pc 34 then some (.sipush 256, 3, 0) else none))) else (bif Nat.blt pc 49 then (bif Nat.blt pc 48 then (bif Nat.beq pc 37 then some (.if_icmp .lt 11, 3, 0) else none) else (bif Nat.beq pc 48 then some (.iload_n 0, 1, 0) else none)) else (bif Nat.blt pc 51 then (bif Nat.beq pc 49 then some (.bipush 16, 2, 0) else none) else (bif Nat.beq pc 51 then some (.if_icmp .lt 10, 3, 0) else none))))) else (bif Nat.blt pc 63 then (bif Nat.blt pc 59 then (bif Nat.blt pc 57 then (bif Nat.beq pc 54 then some (.iinc 1 (-4), 3, 0) else none) else (bif Nat.blt pc 58 then (bif Nat.beq pc 57 then some (.iload_n 0, 1, 0) else none) else (bif Nat.beq pc 58 then some (.iconst 4, 1, 0) else none))) else (bif Nat.blt pc 61 then (bif Nat.blt pc 60 then (bif Nat.beq pc 59 then some (.iushr, 1, 0) else none) else (bif Nat.beq pc 60 then some (.istore_n 0, 1, 0) else none)) else (bif Nat.blt pc 62 then (bif Nat.beq pc 61 then some (.iload_n 0, 1, 0) else none) else (bif Nat.beq pc 62 then some (.iconst 4, 1, 0) else none)))) else (bif Nat.blt pc 75 then (bif Nat.blt pc 73 then (bif Nat.beq pc 63 then some (.if_icmp .lt 10, 3, 0) else none) else (bif Nat.blt pc 74 then (bif Nat.beq pc 73 then some (.iload_n 1, 1, 0) else none) else (bif Nat.beq pc 74 then some (.iload_n 0, 1, 0) else none))) else (bif Nat.blt pc 77 then (bif Nat.blt pc 76 then (bif Nat.beq pc 75 then some (.iconst 1, 1, 0) else none) else (bif Nat.beq pc 76 then some (.iushr, 1, 0) else none)) else (bif Nat.blt pc 78 then (bif Nat.beq pc 77 then some (.isub, 1, 0) else none) else (bif Nat.beq pc 78 then some (.ireturn, 1, 0) else none)))))) else none
def ins_6 (pc : Nat) : Option (Instr × Nat × Nat) := bif Nat.blt pc 34 then (bif Nat.blt pc 15 then (bif Nat.blt pc 5 then (bif Nat.blt pc 1 then (bif Nat.beq pc 0 then some (.aload_n 0, 1, 0) else none) else (bif Nat.blt pc 4 then (bif Nat.beq pc 1 then some (.invokespecial 1, 3, 8) else none) else (bif Nat.beq pc 4 then some (.aload_n 0, 1, 0) else none))) else (bif Nat.blt pc 11 then (bif Nat.blt pc 8 then (bif Nat.beq pc 5 then some (.sipush 2048, 3, 0) else none) else (bif Nat.beq pc 8 then some (.anewarray 9, 3, 4) else none)) else (bif Nat.blt pc 14 then (bif Nat.beq pc 11 then some (.putfield 11, 3, 4) else none) else (bif Nat.beq pc 14 then some (.aload_n 0, 1, 0) else none)))) else (bif Nat.blt pc 24 then (bif Nat.blt pc 20 then (bif Nat.blt pc 18 then (bif Nat.beq pc 15 then some (.sipush 2048, 3, 0) else none) else (bif Nat.beq pc 18 then some (.newarray .int, 2, 4) else none)) else (bif Nat.blt pc 23 then (bif Nat.beq pc 20 then some (.putfield 15, 3, 5) else none) else (bif Nat.beq pc 23 then some (.aload_n 0, 1, 0) else none))) else (bif Nat.blt pc 30 then (bif Nat.blt pc 27 then (bif Nat.beq pc 24 then some (.sipush 2048, 3, 0) else none) else (bif Nat.beq pc 27 then some (.anewarray 2, 3, 5) else none)) else (bif Nat.blt pc 33 then (bif Nat.beq pc 30 then some (.putfield 19, 3, 6) else none) else (bif Nat.beq pc 33 then some (.return_, 1, 0) else none))))) else none
def ins_7 (pc : Nat) : Option (Instr × Nat × Nat) := bif Nat.blt pc 87 then (bif Nat.blt pc 43 then (bif Nat.blt pc 22 then (bif Nat.blt pc 10 then (bif Nat.blt pc 5 then (bif Nat.blt pc 1 then (bif Nat.beq pc 0 then some (.aload_n 0, 1, 0) else none) else (bif Nat.blt pc 2 then (bif Nat.beq pc 1 then some (.aload_n 1, 1, 0) else none) else (bif Nat.beq pc 2 then some (.putfield 63, 3, 18) else none))) else (bif Nat.blt pc 6 then (bif Nat.beq pc 5 then some (.aload_n 0, 1, 0) else none) else (bif Nat.blt pc 7 then (bif Nat.beq pc 6 then some (.iload_n 2, 1, 0) else none) else (bif Nat.beq pc 7 then some (.putfield 66, 3, 19) else none)))) else (bif Nat.blt pc 15 then (bif Nat.blt pc 11 then (bif Nat.beq pc 10 then some (.aload_n 0, 1, 0) else none) else (bif Nat.blt pc 12 then (bif Nat.beq pc 11 then some (.iload_n 3, 1, 0) else none) else (bif Nat.beq pc 12 then some (.putfield 70, 3, 20) else none))) else (bif Nat.blt pc 18 then (bif Nat.blt pc 16 then (bif Nat.beq pc 15 then some (.aload_n 0, 1, 0) else none) else (bif Nat.beq pc 16 then some (.iload 4, 2, 0) else none)) else (bif Nat.blt pc 21 then (bif Nat.beq pc 18 then some (.putfield 73, 3, 21) else none) else (bif Nat.beq pc 21 then some (.aload_n 0, 1, 0) else none))))) else (bif Nat.blt pc 32 then (bif Nat.blt pc 27 then (bif Nat.blt pc 23 then (bif Nat.beq pc 22 then some (.iload_n 2, 1, 0) else none) else (bif Nat.blt pc 26 then (bif Nat.beq pc 23 then some (.putfield 77, 3, 22) else none) else (bif Nat.beq pc 26 then some (.aload_n 0, 1, 0) else none))) else (bif Nat.blt pc 28 then (bif Nat.beq pc 27 then some (.iconst 0, 1, 0) else none) else (bif Nat.blt pc 31 then (bif Nat.beq pc 28 then some (.putfield 80, 3, 23) else none) else (bif Nat.beq pc 31 then some (.aload_n 0, 1, 0) else none)))) else (bif Nat.blt pc 37 then (bif Nat.blt pc 33 then (bif Nat.beq pc 32 then some (.aconst_null, 1, 0) else none) else (bif Nat.blt pc 36 then (bif Nat.beq pc 33 then some (.putfield 83, 3, 24) else none) else (bif Nat.beq pc 36 then some (.aload_n 0, 1, 0) else none))) else (bif Nat.blt pc 41 then (bif Nat.blt pc 38 then (bif Nat.beq pc 37 then some (.iconst 0, 1, 0) else none) else (bif Nat.beq pc 38 then some (.putfield 87, 3, 25) else none)) else (bif Nat.blt pc 42 then (bif Nat.beq pc 41 then some (.aload_n 0, 1, 0) else none) else (bif Nat.beq pc 42 then some (.aconst_null, 1, 0) else none)))))) else (bif Nat.blt pc 66 then (bif Nat.blt pc 53 then (bif Nat.blt pc 48 then (bif Nat.blt pc 46 then (bif Nat.beq pc 43 then some (.putfield 90, 3, 26) else none) else (bif Nat.blt pc 47 then (bif Nat.beq pc 46 then some (.aload_n 0, 1, 0) else none) else (bif Nat.beq pc 47 then some (.iconst (-1), 1, 0) else none))) else (bif Nat.blt pc 51 then (bif Nat.beq pc 48 then some (.putfield 94, 3, 27) else none) else (bif Nat.blt pc 52 then (bif Nat.beq pc 51 then some (.aload_n 0, 1, 0) else none) else (bif Nat.beq pc 52 then some (.iconst (-1), 1, 0) else none)))) else (bif Nat.blt pc 58 then (bif Nat.blt pc 56 then (bif Nat.beq pc 53 then some (.putfield 97, 3, 28) else none) else (bif Nat.blt pc 57 then (bif Nat.beq pc 56 then some (.aload_n 0, 1, 0) else none) else (bif Nat.beq pc 57 then some (.iconst (-1), 1, 0) else none))) else (bif Nat.blt pc 62 then (bif Nat.blt pc 61 then (bif Nat.beq pc 58 then some (.putfield 100, 3, 29) else none) else (bif Nat.beq pc 61 then some (.aload_n 0, 1, 0) else none)) else (bif Nat.blt pc 63 then (bif Nat.beq pc 62 then some (.iconst (-1), 1, 0) else none) else (bif Nat.beq pc 63 then some (.putfield 103, 3, 30) else none))))) else (bif Nat.blt pc 76 then (bif Nat.blt pc 71 then (bif Nat.blt pc 67 then (bif Nat.beq pc 66 then some (.aload_n 0, 1, 0) else none) else (bif Nat.blt pc 68 then (bif Nat.beq pc 67 then some (.iconst 0, 1, 0) else none) else (bif Nat.beq pc 68 then some (.putfield 106, 3, 31) else none))) else (bif Nat.blt pc 72 then (bif Nat.beq pc 71 then some (.aload_n 0, 1, 0) else none) else (bif Nat.blt pc 73 then (bif Nat.beq pc 72 then some (.iconst 0, 1, 0) else none) else (bif Nat.beq pc 73 then some (.putfield 109, 3, 32) else none)))) else (bif Nat.blt pc 81 then (bif Nat.blt pc 77 then (bif Nat.beq pc 76 then some (.aload_n 0, 1, 0) else none) else (bif Nat.blt pc 78 then (bif Nat.beq pc 77 then some (.iconst (-1), 1, 0) else none) else (bif Nat.beq pc 78 then some (.putfield 112, 3, 33) else none))) else (bif Nat.blt pc 83 then (bif Nat.blt pc 82 then (bif Nat.beq pc 81 then some (.aload_n 0, 1, 0) else none) else (bif Nat.beq pc 82 then some (.iconst 0, 1, 0) else none)) else (bif Nat.blt pc 86 then (bif Nat.beq pc 83 then some (.putfield 115, 3, 34) else none) else (bif Nat.beq pc 86 then some (.return_, 1, 0) else none))))))) else none
def ins_8 (pc : Nat) : Option (Instr × Nat × Nat) := bif Nat.blt pc 5 then (bif Nat.blt pc 1 then (bif Nat.beq pc 0 then some (.aload_n 0, 1, 0) else none) else (bif Nat.blt pc 4 then (bif Nat.beq pc 1 then some (.getfield 83, 3, 24) else none) else (bif Nat.beq pc 4 then some (.areturn, 1, 0) else none))) else none
def ins_9 (pc : Nat) : Option (Instr × Nat × Nat) := bif Nat.blt pc 22 then (bif Nat.blt pc 11 then (bif Nat.blt pc 5 then (bif Nat.blt pc 1 then (bif Nat.beq pc 0 then some (.iload_n 1, 1, 0) else none) else (bif Nat.blt pc 2 then (bif Nat.beq pc 1 then some (.iload_n 2, 1, 0) else none) else (bif Nat.beq pc 2 then some (.if_icmp .ge 18, 3, 0) else none))) else (bif Nat.blt pc 7 then (bif Nat.blt pc 6 then (bif Nat.beq pc 5 then some (.aload_n 0, 1, 0) else none) else (bif Nat.beq pc 6 then some (.iload_n 1, 1, 0) else none)) else (bif Nat.blt pc 8 then (bif Nat.beq pc 7 then some (.baload, 1, 0) else none) else (bif Nat.beq pc 8 then some (.invokestatic 7, 3, 12) else none)))) else (bif Nat.blt pc 16 then (bif Nat.blt pc 14 then (bif Nat.beq pc 11 then some (.ifCond .eq 9, 3, 0) else none) else (bif Nat.blt pc 15 then (bif Nat.beq pc 14 then some (.iload_n 1, 1, 0) else none) else (bif Nat.beq pc 15 then some (.iconst 1, 1, 0) else none))) else (bif Nat.blt pc 20 then (bif Nat.blt pc 17 then (bif Nat.beq pc 16 then some (.iadd, 1, 0) else none) else (bif Nat.beq pc 17 then some (.goto 4, 3, 0) else none)) else (bif Nat.blt pc 21 then (bif Nat.beq pc 20 then some (.iload_n 1, 1, 0) else none) else (bif Nat.beq pc 21 then some (.ireturn, 1, 0) else none))))) else none
def ins_10 (pc : Nat) : Option (Instr × Nat × Nat) := bif Nat.blt pc 24 then (bif Nat.blt pc 12 then (bif Nat.blt pc 6 then (bif Nat.blt pc 1 then (bif Nat.beq pc 0 then some (.iload_n 0, 1, 0) else none) else (bif Nat.blt pc 3 then (bif Nat.beq pc 1 then some (.bipush 32, 2, 0) else none) else (bif Nat.beq pc 3 then some (.if_icmp .eq 15, 3, 0) else none))) else (bif Nat.blt pc 7 then (bif Nat.beq pc 6 then some (.iload_n 0, 1, 0) else none) else (bif Nat.blt pc 9 then (bif Nat.beq pc 7 then some (.bipush 9, 2, 0) else none) else (bif Nat.beq pc 9 then some (.if_icmp .eq 9, 3, 0) else none)))) else (bif Nat.blt pc 18 then (bif Nat.blt pc 13 then (bif Nat.beq pc 12 then some (.iload_n 0, 1, 0) else none) else (bif Nat.blt pc 15 then (bif Nat.beq pc 13 then some (.bipush 13, 2, 0) else none) else (bif Nat.beq pc 15 then some (.if_icmp .ne 7, 3, 0) else none))) else (bif Nat.blt pc 22 then (bif Nat.blt pc 19 then (bif Nat.beq pc 18 then some (.iconst 1, 1, 0) else none) else (bif Nat.beq pc 19 then some (.goto 4, 3, 0) else none)) else (bif Nat.blt pc 23 then (bif Nat.beq pc 22 then some (.iconst 0, 1, 0) else none) else (bif Nat.beq pc 23 then some (.ireturn, 1, 0) else none))))) else none
def ins_11 (pc : Nat) : Option (Instr × Nat × Nat) := bif Nat.blt pc 34 then (bif Nat.blt pc 16 then (bif Nat.blt pc 8 then (bif Nat.blt pc 4 then (bif Nat.blt pc 1 then (bif Nat.beq pc 0 then some (.aload_n 0, 1, 0) else none) else (bif Nat.beq pc 1 then some (.invokevirtual 167, 3, 14) else none)) else (bif Nat.blt pc 5 then (bif Nat.beq pc 4 then some (.aload_n 0, 1, 0) else none) else (bif Nat.beq pc 5 then some (.invokevirtual 170, 3, 15) else none))) else (bif Nat.blt pc 13 then (bif Nat.blt pc 10 then (bif Nat.beq pc 8 then some (.bipush 10, 2, 0) else none) else (bif Nat.beq pc 10 then some (.if_icmp .eq 5, 3, 0) else none)) else (bif Nat.blt pc 14 then (bif Nat.beq pc 13 then some (.iconst 0, 1, 0) else none) else (bif Nat.blt pc 15 then (bif Nat.beq pc 14 then some (.ireturn, 1, 0) else none) else (bif Nat.beq pc 15 then some (.aload_n 0, 1, 0) else none))))) else (bif Nat.blt pc 23 then (bif Nat.blt pc 20 then (bif Nat.blt pc 17 then (bif Nat.beq pc 16 then some (.aload_n 0, 1, 0) else none) else (bif Nat.beq pc 17 then some (.getfield 66, 3, 19) else none)) else (bif Nat.blt pc 21 then (bif Nat.beq pc 20 then some (.iconst 1, 1, 0) else none) else (bif Nat.blt pc 22 then (bif Nat.beq pc 21 then some (.iadd, 1, 0) else none) else (bif Nat.beq pc 22 then some (.aload_n 0, 1, 0) else none)))) else (bif Nat.blt pc 29 then (bif Nat.blt pc 26 then (bif Nat.beq pc 23 then some (.getfield 70, 3, 20) else none) else (bif Nat.beq pc 26 then some (.invokestatic 174, 3, 16) else none)) else (bif Nat.blt pc 32 then (bif Nat.beq pc 29 then some (.putfield 180, 3, 35) else none) else (bif Nat.blt pc 33 then (bif Nat.beq pc 32 then some (.iconst 1, 1, 0) else none) else (bif Nat.beq pc 33 then some (.ireturn, 1, 0) else none)))))) else none
def ins_12 (pc : Nat) : Option (Instr × Nat × Nat) := bif Nat.blt pc 68 then (bif Nat.blt pc 34 then (bif Nat.blt pc 19 then (bif Nat.blt pc 8 then (bif Nat.blt pc 4 then (bif Nat.blt pc 1 then (bif Nat.beq pc 0 then some (.aload_n 0, 1, 0) else none) else (bif Nat.beq pc 1 then some (.getfield 66, 3, 19) else none)) else (bif Nat.blt pc 5 then (bif Nat.beq pc 4 then some (.aload_n 0, 1, 0) else none) else (bif Nat.beq pc 5 then some (.getfield 70, 3, 20) else none))) else (bif Nat.blt pc 12 then (bif Nat.blt pc 11 then (bif Nat.beq pc 8 then some (.if_icmp .ge 18, 3, 0) else none) else (bif Nat.beq pc 11 then some (.aload_n 0, 1, 0) else none)) else (bif Nat.blt pc 15 then (bif Nat.beq pc 12 then some (.getfield 63, 3, 18) else none) else (bif Nat.blt pc 16 then (bif Nat.beq pc 15 then some (.aload_n 0, 1, 0) else none) else (bif Nat.beq pc 16 then some (.getfield 66, 3, 19) else none))))) else (bif Nat.blt pc 26 then (bif Nat.blt pc 22 then (bif Nat.blt pc 20 then (bif Nat.beq pc 19 then some (.baload, 1, 0) else none) else (bif Nat.beq pc 20 then some (.bipush 32, 2, 0) else none)) else (bif Nat.blt pc 25 then (bif Nat.beq pc 22 then some (.if_icmp .le 4, 3, 0) else none) else (bif Nat.beq pc 25 then some (.return_, 1, 0) else none))) else (bif Nat.blt pc 30 then (bif Nat.blt pc 27 then (bif Nat.beq pc 26 then some (.aload_n 0, 1, 0) else none) else (bif Nat.beq pc 27 then some (.invokevirtual 170, 3, 15) else none)) else (bif Nat.blt pc 31 then (bif Nat.beq pc 30 then some (.istore_n 1, 1, 0) else none) else (bif Nat.blt pc 32 then (bif Nat.beq pc 31 then some (.iload_n 1, 1, 0) else none) else (bif Nat.beq pc 32 then some (.bipush 32, 2, 0) else none)))))) else (bif Nat.blt pc 51 then (bif Nat.blt pc 43 then (bif Nat.blt pc 38 then (bif Nat.blt pc 37 then (bif Nat.beq pc 34 then some (.if_icmp .eq 15, 3, 0) else none) else (bif Nat.beq pc 37 then some (.iload_n 1, 1, 0) else none)) else (bif Nat.blt pc 40 then (bif Nat.beq pc 38 then some (.bipush 9, 2, 0) else none) else (bif Nat.beq pc 40 then some (.if_icmp .eq 9, 3, 0) else none))) else (bif Nat.blt pc 46 then (bif Nat.blt pc 44 then (bif Nat.beq pc 43 then some (.iload_n 1, 1, 0) else none) else (bif Nat.beq pc 44 then some (.bipush 13, 2, 0) else none)) else (bif Nat.blt pc 49 then (bif Nat.beq pc 46 then some (.if_icmp .ne 21, 3, 0) else none) else (bif Nat.blt pc 50 then (bif Nat.beq pc 49 then some (.aload_n 0, 1, 0) else none) else (bif Nat.beq pc 50 then some (.dup, 1, 0) else none))))) else (bif Nat.blt pc 59 then (bif Nat.blt pc 55 then (bif Nat.blt pc 54 then (bif Nat.beq pc 51 then some (.getfield 66, 3, 19) else none) else (bif Nat.beq pc 54 then some (.iconst 1, 1, 0) else none)) else (bif Nat.blt pc 56 then (bif Nat.beq pc 55 then some (.iadd, 1, 0) else none) else (bif Nat.beq pc 56 then some (.putfield 66, 3, 19) else none))) else (bif Nat.blt pc 63 then (bif Nat.blt pc 60 then (bif Nat.beq pc 59 then some (.aload_n 0, 1, 0) else none) else (bif Nat.beq pc 60 then some (.invokevirtual 170, 3, 15) else none)) else (bif Nat.blt pc 64 then (bif Nat.beq pc 63 then some (.istore_n 1, 1, 0) else none) else (bif Nat.blt pc 67 then (bif Nat.beq pc 64 then some (.goto (-33), 3, 0) else none) else (bif Nat.beq pc 67 then some (.return_, 1, 0) else none))))))) else none
def ins_13 (pc : Nat) : Option (Instr × Nat × Nat) := bif Nat.blt pc 39 then (bif Nat.blt pc 16 then (bif Nat.blt pc 8 then (bif Nat.blt pc 4 then (bif Nat.blt pc 1 then (bif Nat.beq pc 0 then some (.aload_n 0, 1, 0) else none) else (bif Nat.beq pc 1 then some (.getfield 66, 3, 19) else none)) else (bif Nat.blt pc 5 then (bif Nat.beq pc 4 then some (.aload_n 0, 1, 0) else none) else (bif Nat.beq pc 5 then some (.getfield 70, 3, 20) else none))) else (bif Nat.blt pc 12 then (bif Nat.blt pc 11 then (bif Nat.beq pc 8 then some (.if_icmp .ge 13, 3, 0) else none) else (bif Nat.beq pc 11 then some (.aload_n 0, 1, 0) else none)) else (bif Nat.blt pc 15 then (bif Nat.beq pc 12 then some (.getfield 63, 3, 18) else none) else (bif Nat.beq pc 15 then some (.aload_n 0, 1, 0) else none)))) else (bif Nat.blt pc 22 then (bif Nat.blt pc 20 then (bif Nat.blt pc 19 then (bif Nat.beq pc 16 then some (.getfield 66, 3, 19) else none) else (bif Nat.beq pc 19 then some (.baload, 1, 0) else none)) else (bif Nat.blt pc 21 then (bif Nat.beq pc 20 then some (.ireturn, 1, 0) else none) else (bif Nat.beq pc 21 then some (.aload_n 0, 1, 0) else none))) else (bif Nat.blt pc 28 then (bif Nat.blt pc 25 then (bif Nat.beq pc 22 then some (.getfield 73, 3, 21) else none) else (bif Nat.beq pc 25 then some (.ifCond .eq 6, 3, 0) else none)) else (bif Nat.blt pc 30 then (bif Nat.beq pc 28 then some (.bipush 10, 2, 0) else none) else (bif Nat.beq pc 30 then some (.ireturn, 1, 0) else none))))) else none
def ins_14 (pc : Nat) : Option (Instr × Nat × Nat) := bif Nat.blt pc 11 then (bif Nat.blt pc 5 then (bif Nat.blt pc 1 then (bif Nat.beq pc 0 then some (.iload_n 0, 1, 0) else none) else (bif Nat.blt pc 2 then (bif Nat.beq pc 1 then some (.iload_n 1, 1, 0) else none) else (bif Nat.beq pc 2 then some (.if_icmp .gt 7, 3, 0) else none))) else (bif Nat.blt pc 9 then (bif Nat.blt pc 6 then (bif Nat.beq pc 5 then some (.iload_n 0, 1, 0) else none) else (bif Nat.beq pc 6 then some (.goto 4, 3, 0) else none)) else (bif Nat.blt pc 10 then (bif Nat.beq pc 9 then some (.iload_n 1, 1, 0) else none) else (bif Nat.beq pc 10 then some (.ireturn, 1, 0) else none)))) else none
def ins_15 (pc : Nat) : Option (Instr × Nat × Nat) := bif Nat.blt pc 5 then (bif Nat.blt pc 1 then (bif Nat.beq pc 0 then some (.aload_n 0, 1, 0) else none) else (bif Nat.blt pc 4 then (bif Nat.beq pc 1 then some (.getfield 180, 3, 35) else none) else (bif Nat.beq pc 4 then some (.ireturn, 1, 0) else none))) else none
def ins_16 (pc : Nat) : Option (Instr × Nat × Nat) := bif Nat.blt pc 288 then (bif Nat.blt pc 93 then (bif Nat.blt pc 53 then (bif Nat.blt pc 34 then (bif Nat.blt pc 26 then (bif Nat.blt pc 4 then (bif Nat.blt pc 1 then (bif Nat.beq pc 0 then some (.aload_n 0, 1, 0) else none) else (bif Nat.beq pc 1 then some (.getfield 83, 3, 24) else none)) else (bif Nat.blt pc 7 then (bif Nat.beq pc 4 then some (.getstatic 183, 3, 0) else none) else (bif Nat.beq pc 7 then some (.if_acmp .ne 19, 3, 0) else none))) else (bif Nat.blt pc 30 then (bif Nat.blt pc 27 then (bif Nat.beq pc 26 then some (.aload_n 0, 1, 0) else none) else (bif Nat.beq pc 27 then some (.getfield 80, 3, 23) else none)) else (bif Nat.blt pc 33 then (bif Nat.beq pc 30 then some (.ifCond .ne 55, 3, 0) else none) else (bif Nat.beq pc 33 then some (.aload_n 0, 1, 0) else none)))) else (bif Nat.blt pc 44 then (bif Nat.blt pc 40 then (bif Nat.blt pc 37 then (bif Nat.beq pc 34 then some (.getfield 83, 3, 24) else none) else (bif Nat.beq pc 37 then some (.ifnonnull 10, 3, 0) else none)) else (bif Nat.blt pc 41 then (bif Nat.beq pc 40 then some (.aload_n 0, 1, 0) else none) else (bif Nat.beq pc 41 then some (.getfield 87, 3, 25) else none))) else (bif Nat.blt pc 48 then (bif Nat.blt pc 47 then (bif Nat.beq pc 44 then some (.ifCond .eq 15, 3, 0) else none) else (bif Nat.beq pc 47 then some (.aload_n 0, 1, 0) else none)) else (bif Nat.blt pc 49 then (bif Nat.beq pc 48 then some (.iconst 1, 1, 0) else none) else (bif Nat.blt pc 52 then (bif Nat.beq pc 49 then some (.putfield 87, 3, 25) else none) else (bif Nat.beq pc 52 then some (.aload_n 0, 1, 0) else none)))))) else (bif Nat.blt pc 67 then (bif Nat.blt pc 59 then (bif Nat.blt pc 57 then (bif Nat.blt pc 54 then (bif Nat.beq pc 53 then some (.aconst_null, 1, 0) else none) else (bif Nat.beq pc 54 then some (.putfield 83, 3, 24) else none)) else (bif Nat.blt pc 58 then (bif Nat.beq pc 57 then some (.aconst_null, 1, 0) else none) else (bif Nat.beq pc 58 then some (.areturn, 1, 0) else none))) else (bif Nat.blt pc 63 then (bif Nat.blt pc 60 then (bif Nat.beq pc 59 then some (.aload_n 0, 1, 0) else none) else (bif Nat.beq pc 60 then some (.invokevirtual 167, 3, 14) else none)) else (bif Nat.blt pc 64 then (bif Nat.beq pc 63 then some (.aload_n 0, 1, 0) else none) else (bif Nat.beq pc 64 then some (.invokevirtual 170, 3, 15) else none)))) else (bif Nat.blt pc 84 then (bif Nat.blt pc 80 then (bif Nat.blt pc 69 then (bif Nat.beq pc 67 then some (.bipush 123, 2, 0) else none) else (bif Nat.beq pc 69 then some (.if_icmp .eq 11, 3, 0) else none)) else (bif Nat.blt pc 81 then (bif Nat.beq pc 80 then some (.aload_n 0, 1, 0) else none) else (bif Nat.beq pc 81 then some (.invokevirtual 196, 3, 19) else none))) else (bif Nat.blt pc 86 then (bif Nat.blt pc 85 then (bif Nat.beq pc 84 then some (.areturn, 1, 0) else none) else (bif Nat.beq pc 85 then some (.aload_n 0, 1, 0) else none)) else (bif Nat.blt pc 89 then (bif Nat.beq pc 86 then some (.getfield 66, 3, 19) else none) else (bif Nat.blt pc 90 then (bif Nat.beq pc 89 then some (.aload_n 0, 1, 0) else none) else (bif Nat.beq pc 90 then some (.getfield 70, 3, 20) else none))))))) else (bif Nat.blt pc 133 then (bif Nat.blt pc 114 then (bif Nat.blt pc 101 then (bif Nat.blt pc 97 then (bif Nat.blt pc 96 then (bif Nat.beq pc 93 then some (.if_icmp .ge 17, 3, 0) else none) else (bif Nat.beq pc 96 then some (.aload_n 0, 1, 0) else none)) else (bif Nat.blt pc 100 then (bif Nat.beq pc 97 then some (.getfield 63, 3, 18) else none) else (bif Nat.beq pc 100 then some (.aload_n 0, 1, 0) else none))) else (bif Nat.blt pc 105 then (bif Nat.blt pc 104 then (bif Nat.beq pc 101 then some (.getfield 66, 3, 19) else none) else (bif Nat.beq pc 104 then some (.baload, 1, 0) else none)) else (bif Nat.blt pc 107 then (bif Nat.beq pc 105 then some (.bipush 32, 2, 0) else none) else (bif Nat.beq pc 107 then some (.if_icmp .gt 7, 3, 0) else none)))) else (bif Nat.blt pc 122 then (bif Nat.blt pc 118 then (bif Nat.blt pc 115 then (bif Nat.beq pc 114 then some (.aload_n 0, 1, 0) else none) else (bif Nat.beq pc 115 then some (.getfield 66, 3, 19) else none)) else (bif Nat.blt pc 119 then (bif Nat.beq pc 118 then some (.aload_n 0, 1, 0) else none) else (bif Nat.beq pc 119 then some (.getfield 70, 3, 20) else none))) else (bif Nat.blt pc 126 then (bif Nat.blt pc 125 then (bif Nat.beq pc 122 then some (.if_icmp .ge 15, 3, 0) else none) else (bif Nat.beq pc 125 then some (.aload_n 0, 1, 0) else none)) else (bif Nat.blt pc 129 then (bif Nat.beq pc 126 then some (.getfield 63, 3, 18) else none) else (bif Nat.blt pc 130 then (bif Nat.beq pc 129 then some (.aload_n 0, 1, 0) else none) else (bif Nat.beq pc 130 then some (.getfield 66, 3, 19) else none)))))) else (bif Nat.blt pc 152 then (bif Nat.blt pc 143 then (bif Nat.blt pc 141 then (bif Nat.blt pc 134 then (bif Nat.beq pc 133 then some (.baload, 1, 0) else none) else (bif Nat.beq pc 134 then some (.goto 7, 3, 0) else none)) else (bif Nat.blt pc 142 then (bif Nat.beq pc 141 then some (.istore_n 1, 1, 0) else none) else (bif Nat.beq pc 142 then some (.aload_n 0, 1, 0) else none))) else (bif Nat.blt pc 147 then (bif Nat.blt pc 146 then (bif Nat.beq pc 143 then some (.getfield 26, 3, 9) else none) else (bif Nat.beq pc 146 then some (.aload_n 0, 1, 0) else none)) else (bif Nat.blt pc 150 then (bif Nat.beq pc 147 then some (.getfield 80, 3, 23) else none) else (bif Nat.blt pc 151 then (bif Nat.beq pc 150 then some (.iconst 1, 1, 0) else none) else (bif Nat.beq pc 151 then some (.isub, 1, 0) else none))))) else (bif Nat.blt pc 193 then (bif Nat.blt pc 190 then (bif Nat.blt pc 153 then (bif Nat.beq pc 152 then some (.baload, 1, 0) else none) else (bif Nat.beq pc 153 then some (.ifCond .eq 37, 3, 0) else none)) else (bif Nat.blt pc 191 then (bif Nat.beq pc 190 then some (.iload_n 1, 1, 0) else none) else (bif Nat.beq pc 191 then some (.bipush 125, 2, 0) else none))) else (bif Nat.blt pc 197 then (bif Nat.blt pc 196 then (bif Nat.beq pc 193 then some (.if_icmp .ne 11, 3, 0) else none) else (bif Nat.beq pc 196 then some (.aload_n 0, 1, 0) else none)) else (bif Nat.blt pc 200 then (bif Nat.beq pc 197 then some (.getstatic 213, 3, 2) else none) else (bif Nat.blt pc 203 then (bif Nat.beq pc 200 then some (.invokevirtual 202, 3, 21) else none) else (bif Nat.beq pc 203 then some (.areturn, 1, 0) else none)))))))) else none
def ins_17 (pc : Nat) : Option (Instr × Nat × Nat) := bif Nat.blt pc 259 then (bif Nat.blt pc 101 then (bif Nat.blt pc 20 then (bif Nat.blt pc 11 then (bif Nat.blt pc 4 then (bif Nat.blt pc 1 then (bif Nat.beq pc 0 then some (.aload_n 0, 1, 0) else none) else (bif Nat.beq pc 1 then some (.getfield 66, 3, 19) else none)) else (bif Nat.blt pc 5 then (bif Nat.beq pc 4 then some (.aload_n 0, 1, 0) else none) else (bif Nat.blt pc 8 then (bif Nat.beq pc 5 then some (.getfield 70, 3, 20) else none) else (bif Nat.beq pc 8 then some (.if_icmp .ge 15, 3, 0) else none)))) else (bif Nat.blt pc 15 then (bif Nat.blt pc 12 then (bif Nat.beq pc 11 then some (.aload_n 0, 1, 0) else none) else (bif Nat.beq pc 12 then some (.getfield 63, 3, 18) else none)) else (bif Nat.blt pc 16 then (bif Nat.beq pc 15 then some (.aload_n 0, 1, 0) else none) else (bif Nat.blt pc 19 then (bif Nat.beq pc 16 then some (.getfield 66, 3, 19) else none) else (bif Nat.beq pc 19 then some (.baload, 1, 0) else none))))) else (bif Nat.blt pc 89 then (bif Nat.blt pc 28 then (bif Nat.blt pc 27 then (bif Nat.beq pc 20 then some (.goto 7, 3, 0) else none) else (bif Nat.beq pc 27 then some (.istore_n 1, 1, 0) else none)) else (bif Nat.blt pc 29 then (bif Nat.beq pc 28 then some (.iload_n 1, 1, 0) else none) else (bif Nat.blt pc 88 then (bif Nat.beq pc 29 then some (.lookupswitch 218 #[(34, 110), (91, 98), (102, 190), (110, 204), (116, 176), (123, 59)], 59, 0) else none) else (bif Nat.beq pc 88 then some (.aload_n 0, 1, 0) else none)))) else (bif Nat.blt pc 94 then (bif Nat.blt pc 90 then (bif Nat.beq pc 89 then some (.iconst 0, 1, 0) else none) else (bif Nat.blt pc 93 then (bif Nat.beq pc 90 then some (.invokevirtual 478, 3, 20) else none) else (bif Nat.beq pc 93 then some (.aload_n 0, 1, 0) else none))) else (bif Nat.blt pc 97 then (bif Nat.beq pc 94 then some (.getfield 30, 3, 10) else none) else (bif Nat.blt pc 98 then (bif Nat.beq pc 97 then some (.aload_n 0, 1, 0) else none) else (bif Nat.beq pc 98 then some (.getfield 80, 3, 23) else none)))))) else (bif Nat.blt pc 115 then (bif Nat.blt pc 108 then (bif Nat.blt pc 103 then (bif Nat.blt pc 102 then (bif Nat.beq pc 101 then some (.iconst 1, 1, 0) else none) else (bif Nat.beq pc 102 then some (.isub, 1, 0) else none)) else (bif Nat.blt pc 104 then (bif Nat.beq pc 103 then some (.aload_n 0, 1, 0) else none) else (bif Nat.blt pc 105 then (bif Nat.beq pc 104 then some (.dup, 1, 0) else none) else (bif Nat.beq pc 105 then some (.getfield 415, 3, 36) else none)))) else (bif Nat.blt pc 110 then (bif Nat.blt pc 109 then (bif Nat.beq pc 108 then some (.lconst 1, 1, 0) else none) else (bif Nat.beq pc 109 then some (.ladd, 1, 0) else none)) else (bif Nat.blt pc 111 then (bif Nat.beq pc 110 then some (.dup2_x1, 1, 0) else none) else (bif Nat.blt pc 114 then (bif Nat.beq pc 111 then some (.putfield 415, 3, 36) else none) else (bif Nat.beq pc 114 then some (.lastore, 1, 0) else none))))) else (bif Nat.blt pc 124 then (bif Nat.blt pc 117 then (bif Nat.blt pc 116 then (bif Nat.beq pc 115 then some (.aload_n 0, 1, 0) else none) else (bif Nat.beq pc 116 then some (.iconst 0, 1, 0) else none)) else (bif Nat.blt pc 120 then (bif Nat.beq pc 117 then some (.putfield 278, 3, 37) else none) else (bif Nat.blt pc 123 then (bif Nat.beq pc 120 then some (.getstatic 216, 3, 1) else none) else (bif Nat.beq pc 123 then some (.astore_n 2, 1, 0) else none)))) else (bif Nat.blt pc 254 then (bif Nat.blt pc 252 then (bif Nat.beq pc 124 then some (.goto 128, 3, 0) else none) else (bif Nat.blt pc 253 then (bif Nat.beq pc 252 then some (.aload_n 0, 1, 0) else none) else (bif Nat.beq pc 253 then some (.aload_n 2, 1, 0) else none))) else (bif Nat.blt pc 257 then (bif Nat.beq pc 254 then some (.putfield 83, 3, 24) else none) else (bif Nat.blt pc 258 then (bif Nat.beq pc 257 then some (.aload_n 2, 1, 0) else none) else (bif Nat.beq pc 258 then some (.areturn, 1, 0) else none))))))) else none
def ins_18 (pc : Nat) : Option (Instr × Nat × Nat) := bif Nat.blt pc 45 then (bif Nat.blt pc 28 then (bif Nat.blt pc 18 then (bif Nat.blt pc 4 then (bif Nat.blt pc 1 then (bif Nat.beq pc 0 then some (.aload_n 0, 1, 0) else none) else (bif Nat.beq pc 1 then some (.getfield 80, 3, 23) else none)) else (bif Nat.blt pc 6 then (bif Nat.beq pc 4 then some (.bipush 16, 2, 0) else none) else (bif Nat.blt pc 17 then (bif Nat.beq pc 6 then some (.if_icmp .ne 11, 3, 0) else none) else (bif Nat.beq pc 17 then some (.aload_n 0, 1, 0) else none)))) else (bif Nat.blt pc 23 then (bif Nat.blt pc 21 then (bif Nat.beq pc 18 then some (.getfield 26, 3, 9) else none) else (bif Nat.blt pc 22 then (bif Nat.beq pc 21 then some (.aload_n 0, 1, 0) else none) else (bif Nat.beq pc 22 then some (.dup, 1, 0) else none))) else (bif Nat.blt pc 26 then (bif Nat.beq pc 23 then some (.getfield 80, 3, 23) else none) else (bif Nat.blt pc 27 then (bif Nat.beq pc 26 then some (.dup_x1, 1, 0) else none) else (bif Nat.beq pc 27 then some (.iconst 1, 1, 0) else none))))) else (bif Nat.blt pc 35 then (bif Nat.blt pc 32 then (bif Nat.blt pc 29 then (bif Nat.beq pc 28 then some (.iadd, 1, 0) else none) else (bif Nat.beq pc 29 then some (.putfield 80, 3, 23) else none)) else (bif Nat.blt pc 33 then (bif Nat.beq pc 32 then some (.iload_n 1, 1, 0) else none) else (bif Nat.blt pc 34 then (bif Nat.beq pc 33 then some (.bastore, 1, 0) else none) else (bif Nat.beq pc 34 then some (.aload_n 0, 1, 0) else none)))) else (bif Nat.blt pc 40 then (bif Nat.blt pc 36 then (bif Nat.beq pc 35 then some (.dup, 1, 0) else none) else (bif Nat.blt pc 39 then (bif Nat.beq pc 36 then some (.getfield 66, 3, 19) else none) else (bif Nat.beq pc 39 then some (.iconst 1, 1, 0) else none))) else (bif Nat.blt pc 41 then (bif Nat.beq pc 40 then some (.iadd, 1, 0) else none) else (bif Nat.blt pc 44 then (bif Nat.beq pc 41 then some (.putfield 66, 3, 19) else none) else (bif Nat.beq pc 44 then some (.return_, 1, 0) else none)))))) else none
def ins_19 (pc : Nat) : Option (Instr × Nat × Nat) := bif Nat.blt pc 153 then (bif Nat.blt pc 70 then (bif Nat.blt pc 21 then (bif Nat.blt pc 10 then (bif Nat.blt pc 5 then (bif Nat.blt pc 1 then (bif Nat.beq pc 0 then some (.aload_n 0, 1, 0) else none) else (bif Nat.blt pc 2 then (bif Nat.beq pc 1 then some (.dup, 1, 0) else none) else (bif Nat.beq pc 2 then some (.getfield 66, 3, 19) else none))) else (bif Nat.blt pc 6 then (bif Nat.beq pc 5 then some (.iconst 1, 1, 0) else none) else (bif Nat.blt pc 7 then (bif Nat.beq pc 6 then some (.iadd, 1, 0) else none) else (bif Nat.beq pc 7 then some (.putfield 66, 3, 19) else none)))) else (bif Nat.blt pc 15 then (bif Nat.blt pc 11 then (bif Nat.beq pc 10 then some (.aload_n 0, 1, 0) else none) else (bif Nat.blt pc 12 then (bif Nat.beq pc 11 then some (.dup, 1, 0) else none) else (bif Nat.beq pc 12 then some (.getfield 80, 3, 23) else none))) else (bif Nat.blt pc 17 then (bif Nat.blt pc 16 then (bif Nat.beq pc 15 then some (.iconst 1, 1, 0) else none) else (bif Nat.beq pc 16 then some (.isub, 1, 0) else none)) else (bif Nat.blt pc 20 then (bif Nat.beq pc 17 then some (.putfield 80, 3, 23) else none) else (bif Nat.beq pc 20 then some (.aload_n 1, 1, 0) else none))))) else (bif Nat.blt pc 36 then (bif Nat.blt pc 28 then (bif Nat.blt pc 24 then (bif Nat.beq pc 21 then some (.getstatic 213, 3, 2) else none) else (bif Nat.blt pc 27 then (bif Nat.beq pc 24 then some (.if_acmp .ne 39, 3, 0) else none) else (bif Nat.beq pc 27 then some (.aload_n 0, 1, 0) else none))) else (bif Nat.blt pc 32 then (bif Nat.blt pc 31 then (bif Nat.beq pc 28 then some (.getfield 30, 3, 10) else none) else (bif Nat.beq pc 31 then some (.aload_n 0, 1, 0) else none)) else (bif Nat.blt pc 35 then (bif Nat.beq pc 32 then some (.getfield 80, 3, 23) else none) else (bif Nat.beq pc 35 then some (.laload, 1, 0) else none)))) else (bif Nat.blt pc 41 then (bif Nat.blt pc 37 then (bif Nat.beq pc 36 then some (.aload_n 0, 1, 0) else none) else (bif Nat.blt pc 40 then (bif Nat.beq pc 37 then some (.getfield 387, 3, 38) else none) else (bif Nat.beq pc 40 then some (.lcmp, 1, 0) else none))) else (bif Nat.blt pc 64 then (bif Nat.blt pc 63 then (bif Nat.beq pc 41 then some (.ifCond .ne 22, 3, 0) else none) else (bif Nat.beq pc 63 then some (.aload_n 0, 1, 0) else none)) else (bif Nat.blt pc 67 then (bif Nat.beq pc 64 then some (.getfield 80, 3, 23) else none) else (bif Nat.beq pc 67 then some (.ifCond .ne 79, 3, 0) else none)))))) else (bif Nat.blt pc 118 then (bif Nat.blt pc 96 then (bif Nat.blt pc 75 then (bif Nat.blt pc 71 then (bif Nat.beq pc 70 then some (.aload_n 0, 1, 0) else none) else (bif Nat.blt pc 74 then (bif Nat.beq pc 71 then some (.getfield 66, 3, 19) else none) else (bif Nat.beq pc 74 then some (.aload_n 0, 1, 0) else none))) else (bif Nat.blt pc 78 then (bif Nat.beq pc 75 then some (.getfield 70, 3, 20) else none) else (bif Nat.blt pc 95 then (bif Nat.beq pc 78 then some (.if_icmp .ge 17, 3, 0) else none) else (bif Nat.beq pc 95 then some (.aload_n 0, 1, 0) else none)))) else (bif Nat.blt pc 103 then (bif Nat.blt pc 99 then (bif Nat.beq pc 96 then some (.invokevirtual 167, 3, 14) else none) else (bif Nat.blt pc 100 then (bif Nat.beq pc 99 then some (.aload_n 0, 1, 0) else none) else (bif Nat.beq pc 100 then some (.invokevirtual 170, 3, 15) else none))) else (bif Nat.blt pc 116 then (bif Nat.blt pc 105 then (bif Nat.beq pc 103 then some (.bipush 10, 2, 0) else none) else (bif Nat.beq pc 105 then some (.if_icmp .eq 11, 3, 0) else none)) else (bif Nat.blt pc 117 then (bif Nat.beq pc 116 then some (.aload_n 0, 1, 0) else none) else (bif Nat.beq pc 117 then some (.aload_n 0, 1, 0) else none))))) else (bif Nat.blt pc 140 then (bif Nat.blt pc 123 then (bif Nat.blt pc 121 then (bif Nat.beq pc 118 then some (.getfield 66, 3, 19) else none) else (bif Nat.blt pc 122 then (bif Nat.beq pc 121 then some (.iconst 1, 1, 0) else none) else (bif Nat.beq pc 122 then some (.iadd, 1, 0) else none))) else (bif Nat.blt pc 127 then (bif Nat.blt pc 124 then (bif Nat.beq pc 123 then some (.aload_n 0, 1, 0) else none) else (bif Nat.beq pc 124 then some (.getfield 70, 3, 20) else none)) else (bif Nat.blt pc 139 then (bif Nat.beq pc 127 then some (.if_icmp .ge 12, 3, 0) else none) else (bif Nat.beq pc 139 then some (.aload_n 0, 1, 0) else none)))) else (bif Nat.blt pc 147 then (bif Nat.blt pc 143 then (bif Nat.beq pc 140 then some (.getfield 70, 3, 20) else none) else (bif Nat.blt pc 146 then (bif Nat.beq pc 143 then some (.putfield 180, 3, 35) else none) else (bif Nat.beq pc 146 then some (.aload_n 0, 1, 0) else none))) else (bif Nat.blt pc 151 then (bif Nat.blt pc 148 then (bif Nat.beq pc 147 then some (.aload_n 1, 1, 0) else none) else (bif Nat.beq pc 148 then some (.putfield 83, 3, 24) else none)) else (bif Nat.blt pc 152 then (bif Nat.beq pc 151 then some (.aload_n 1, 1, 0) else none) else (bif Nat.beq pc 152 then some (.areturn, 1, 0) else none))))))) else none
def ins (mi pc : Nat) : Option (Instr × Nat × Nat) := bif Nat.blt mi 20 then (bif Nat.blt mi 10 then (bif Nat.blt mi 5 then (bif Nat.blt mi 2 then (bif Nat.blt mi 1 then (bif Nat.beq mi 0 then ins_0 pc else none) else (bif Nat.beq mi 1 then ins_1 pc else none)) else (bif Nat.blt mi 3 then (bif Nat.beq mi 2 then ins_2 pc else none) else (bif Nat.blt mi 4 then (bif Nat.beq mi 3 then ins_3 pc else none) else (bif Nat.beq mi 4 then ins_4 pc else none)))) else (bif Nat.blt mi 7 then (bif Nat.blt mi 6 then (bif Nat.beq mi 5 then ins_5 pc else none) else (bif Nat.beq mi 6 then ins_6 pc else none)) else (bif Nat.blt mi 8 then (bif Nat.beq mi 7 then ins_7 pc else none) else (bif Nat.blt mi 9 then (bif Nat.beq mi 8 then ins_8 pc else none) else (bif Nat.beq mi 9 then ins_9 pc else none))))) else (bif Nat.blt mi 15 then (bif Nat.blt mi 12 then (bif Nat.blt mi 11 then (bif Nat.beq mi 10 then ins_10 pc else none) else (bif Nat.beq mi 11 then ins_11 pc else none)) else (bif Nat.blt mi 13 then (bif Nat.beq mi 12 then ins_12 pc else none) else (bif Nat.blt mi 14 then (bif Nat.beq mi 13 then ins_13 pc else none) else (bif Nat.beq mi 14 then ins_14 pc else none)))) else (bif Nat.blt mi 17 then (bif Nat.blt mi 16 then (bif Nat.beq mi 15 then ins_15 pc else none) else (bif Nat.beq mi 16 then ins_16 pc else none)) else (bif Nat.blt mi 18 then (bif Nat.beq mi 17 then ins_17 pc else none) else (bif Nat.blt mi 19 then (bif Nat.beq mi 18 then ins_18 pc else none) else (bif Nat.beq mi 19 then ins_19 pc else none)))))) else none
def cname (t : Nat) : String := bif Nat.blt t 16 then (bif Nat.blt t 8 then (bif Nat.blt t 4 then (bif Nat.blt t 2 then (bif Nat.blt t 1 then (bif Nat.beq t 0 then "com/example/latticut/latticut/io/PlainTokens" else "") else (bif Nat.beq t 1 then "com/example/latticut/latticut/io/PlainTokens$Names" else "")) else (bif Nat.blt t 3 then (bif Nat.beq t 2 then "com/example/latticut/latticut/io/Texts" else "") else (bif Nat.beq t 3 then "[B" else ""))) else (bif Nat.blt t 6 then (bif Nat.blt t 5 then (bif Nat.beq t 4 then "[I" else "") else (bif Nat.beq t 5 then "[Z" else "")) else (bif Nat.blt t 7 then (bif Nat.beq t 6 then "[J" else "") else (bif Nat.beq t 7 then "[Lcom/example/latticut/latticut/io/PlainTokens$Name;" else "")))) else (bif Nat.blt t 12 then (bif Nat.blt t 10 then (bif Nat.blt t 9 then (bif Nat.beq t 8 then "[[B" else "") else (bif Nat.beq t 9 then "[Ljava/lang/Object;" else "")) else (bif Nat.blt t 11 then (bif Nat.beq t 10 then "[Lcom/example/latticut/latticut/io/PlainTokens$Kept;" else "") else (bif Nat.beq t 11 then "[Lcom/example/latticut/latticut/model/Event;" else ""))) else (bif Nat.blt t 14 then (bif Nat.blt t 13 then (bif Nat.beq t 12 then "com/example/latticut/latticut/io/PlainTokens$Name" else "") else (bif Nat.beq t 13 then "java/lang/Object" else "")) else (bif Nat.blt t 15 then (bif Nat.beq t 14 then "com/example/latticut/latticut/io/PlainTokens$Kept" else "") else (bif Nat.beq t 15 then "com/example/latticut/latticut/model/Event" else ""))))) else ""
def aty (t : Nat) : Option FieldType := bif Nat.blt t 16 then (bif Nat.blt t 8 then (bif Nat.blt t 4 then (bif Nat.blt t 2 then (bif Nat.blt t 1 then (bif Nat.beq t 0 then none else none) else (bif Nat.beq t 1 then none else none)) else (bif Nat.blt t 3 then (bif Nat.beq t 2 then none else none) else (bif Nat.beq t 3 then (some .byte) else none))) else (bif Nat.blt t 6 then (bif Nat.blt t 5 then (bif Nat.beq t 4 then (some .int) else none) else (bif Nat.beq t 5 then (some .boolean) else none)) else (bif Nat.blt t 7 then (bif Nat.beq t 6 then (some .long) else none) else (bif Nat.beq t 7 then (some (.object "com/example/latticut/latticut/io/PlainTokens$Name")) else none)))) else (bif Nat.blt t 12 then (bif Nat.blt t 10 then (bif Nat.blt t 9 then (bif Nat.beq t 8 then (some (.array .byte)) else none) else (bif Nat.beq t 9 then (some (.object "java/lang/Object")) else none)) else (bif Nat.blt t 11 then (bif Nat.beq t 10 then (some (.object "com/example/latticut/latticut/io/PlainTokens$Kept")) else none) else (bif Nat.beq t 11 then (some (.object "com/example/latticut/latticut/model/Event")) else none))) else (bif Nat.blt t 14 then (bif Nat.blt t 13 then (bif Nat.beq t 12 then none else none) else (bif Nat.beq t 13 then none else none)) else (bif Nat.blt t 15 then (bif Nat.beq t 14 then none else none) else (bif Nat.beq t 15 then none else none))))) else none
def hasC (t : Nat) : Bool := bif Nat.blt t 16 then (bif Nat.blt t 8 then (bif Nat.blt t 4 then (bif Nat.blt t 2 then (bif Nat.blt t 1 then (bif Nat.beq t 0 then false else false) else (bif Nat.beq t 1 then false else false)) else (bif Nat.blt t 3 then (bif Nat.beq t 2 then false else false) else (bif Nat.beq t 3 then false else false))) else (bif Nat.blt t 6 then (bif Nat.blt t 5 then (bif Nat.beq t 4 then false else false) else (bif Nat.beq t 5 then false else false)) else (bif Nat.blt t 7 then (bif Nat.beq t 6 then false else false) else (bif Nat.beq t 7 then true else false)))) else (bif Nat.blt t 12 then (bif Nat.blt t 10 then (bif Nat.blt t 9 then (bif Nat.beq t 8 then true else false) else (bif Nat.beq t 9 then true else false)) else (bif Nat.blt t 11 then (bif Nat.beq t 10 then true else false) else (bif Nat.beq t 11 then true else false))) else (bif Nat.blt t 14 then (bif Nat.blt t 13 then (bif Nat.beq t 12 then false else false) else (bif Nat.beq t 13 then false else false)) else (bif Nat.blt t 15 then (bif Nat.beq t 14 then false else false) else (bif Nat.beq t 15 then false else false))))) else false
def acT (t : Nat) : Nat := bif Nat.blt t 16 then (bif Nat.blt t 8 then (bif Nat.blt t 4 then (bif Nat.blt t 2 then (bif Nat.blt t 1 then (bif Nat.beq t 0 then 9999 else 9999) else (bif Nat.beq t 1 then 9999 else 9999)) else (bif Nat.blt t 3 then (bif Nat.beq t 2 then 9999 else 9999) else (bif Nat.beq t 3 then 9999 else 9999))) else (bif Nat.blt t 6 then (bif Nat.blt t 5 then (bif Nat.beq t 4 then 9999 else 9999) else (bif Nat.beq t 5 then 9999 else 9999)) else (bif Nat.blt t 7 then (bif Nat.beq t 6 then 9999 else 9999) else (bif Nat.beq t 7 then 12 else 9999)))) else (bif Nat.blt t 12 then (bif Nat.blt t 10 then (bif Nat.blt t 9 then (bif Nat.beq t 8 then 3 else 9999) else (bif Nat.beq t 9 then 13 else 9999)) else (bif Nat.blt t 11 then (bif Nat.beq t 10 then 14 else 9999) else (bif Nat.beq t 11 then 15 else 9999))) else (bif Nat.blt t 14 then (bif Nat.blt t 13 then (bif Nat.beq t 12 then 9999 else 9999) else (bif Nat.beq t 13 then 9999 else 9999)) else (bif Nat.blt t 15 then (bif Nat.beq t 14 then 9999 else 9999) else (bif Nat.beq t 15 then 9999 else 9999))))) else 9999
def arrT (t : Nat) : Nat := bif Nat.blt t 16 then (bif Nat.blt t 8 then (bif Nat.blt t 4 then (bif Nat.blt t 2 then (bif Nat.blt t 1 then (bif Nat.beq t 0 then 9999 else 9999) else (bif Nat.beq t 1 then 9999 else 9999)) else (bif Nat.blt t 3 then (bif Nat.beq t 2 then 9999 else 9999) else (bif Nat.beq t 3 then 8 else 9999))) else (bif Nat.blt t 6 then (bif Nat.blt t 5 then (bif Nat.beq t 4 then 9999 else 9999) else (bif Nat.beq t 5 then 9999 else 9999)) else (bif Nat.blt t 7 then (bif Nat.beq t 6 then 9999 else 9999) else (bif Nat.beq t 7 then 9999 else 9999)))) else (bif Nat.blt t 12 then (bif Nat.blt t 10 then (bif Nat.blt t 9 then (bif Nat.beq t 8 then 9999 else 9999) else (bif Nat.beq t 9 then 9999 else 9999)) else (bif Nat.blt t 11 then (bif Nat.beq t 10 then 9999 else 9999) else (bif Nat.beq t 11 then 9999 else 9999))) else (bif Nat.blt t 14 then (bif Nat.blt t 13 then (bif Nat.beq t 12 then 7 else 9999) else (bif Nat.beq t 13 then 9 else 9999)) else (bif Nat.blt t 15 then (bif Nat.beq t 14 then 10 else 9999) else (bif Nat.beq t 15 then 11 else 9999))))) else 9999
def isO (t : Nat) : Bool := bif Nat.blt t 16 then (bif Nat.blt t 8 then (bif Nat.blt t 4 then (bif Nat.blt t 2 then (bif Nat.blt t 1 then (bif Nat.beq t 0 then true else false) else (bif Nat.beq t 1 then true else false)) else (bif Nat.blt t 3 then (bif Nat.beq t 2 then true else false) else (bif Nat.beq t 3 then false else false))) else (bif Nat.blt t 6 then (bif Nat.blt t 5 then (bif Nat.beq t 4 then false else false) else (bif Nat.beq t 5 then false else false)) else (bif Nat.blt t 7 then (bif Nat.beq t 6 then false else false) else (bif Nat.beq t 7 then false else false)))) else (bif Nat.blt t 12 then (bif Nat.blt t 10 then (bif Nat.blt t 9 then (bif Nat.beq t 8 then false else false) else (bif Nat.beq t 9 then false else false)) else (bif Nat.blt t 11 then (bif Nat.beq t 10 then false else false) else (bif Nat.beq t 11 then false else false))) else (bif Nat.blt t 14 then (bif Nat.blt t 13 then (bif Nat.beq t 12 then false else false) else (bif Nat.beq t 13 then false else false)) else (bif Nat.blt t 15 then (bif Nat.beq t 14 then false else false) else (bif Nat.beq t 15 then false else false))))) else false
def isJ (t : Nat) : Bool := bif Nat.blt t 16 then (bif Nat.blt t 8 then (bif Nat.blt t 4 then (bif Nat.blt t 2 then (bif Nat.blt t 1 then (bif Nat.beq t 0 then false else false) else (bif Nat.beq t 1 then false else false)) else (bif Nat.blt t 3 then (bif Nat.beq t 2 then false else false) else (bif Nat.beq t 3 then false else false))) else (bif Nat.blt t 6 then (bif Nat.blt t 5 then (bif Nat.beq t 4 then false else false) else (bif Nat.beq t 5 then false else false)) else (bif Nat.blt t 7 then (bif Nat.beq t 6 then true else false) else (bif Nat.beq t 7 then false else false)))) else (bif Nat.blt t 12 then (bif Nat.blt t 10 then (bif Nat.blt t 9 then (bif Nat.beq t 8 then false else false) else (bif Nat.beq t 9 then false else false)) else (bif Nat.blt t 11 then (bif Nat.beq t 10 then false else false) else (bif Nat.beq t 11 then false else false))) else (bif Nat.blt t 14 then (bif Nat.blt t 13 then (bif Nat.beq t 12 then false else false) else (bif Nat.beq t 13 then false else false)) else (bif Nat.blt t 15 then (bif Nat.beq t 14 then false else false) else (bif Nat.beq t 15 then false else false))))) else false
def isP (t : Nat) : Bool := bif Nat.blt t 16 then (bif Nat.blt t 8 then (bif Nat.blt t 4 then (bif Nat.blt t 2 then (bif Nat.blt t 1 then (bif Nat.beq t 0 then false else false) else (bif Nat.beq t 1 then false else false)) else (bif Nat.blt t 3 then (bif Nat.beq t 2 then false else false) else (bif Nat.beq t 3 then true else false))) else (bif Nat.blt t 6 then (bif Nat.blt t 5 then (bif Nat.beq t 4 then true else false) else (bif Nat.beq t 5 then true else false)) else (bif Nat.blt t 7 then (bif Nat.beq t 6 then false else false) else (bif Nat.beq t 7 then false else false)))) else (bif Nat.blt t 12 then (bif Nat.blt t 10 then (bif Nat.blt t 9 then (bif Nat.beq t 8 then false else false) else (bif Nat.beq t 9 then false else false)) else (bif Nat.blt t 11 then (bif Nat.beq t 10 then false else false) else (bif Nat.beq t 11 then false else false))) else (bif Nat.blt t 14 then (bif Nat.blt t 13 then (bif Nat.beq t 12 then false else false) else (bif Nat.beq t 13 then false else false)) else (bif Nat.blt t 15 then (bif Nat.beq t 14 then false else false) else (bif Nat.beq t 15 then false else false))))) else false
def acomp (t : Nat) : Option String := bif hasC t then some (cname (acT t)) else none
def csl (t : Nat) : Nat := bif Nat.blt t 16 then (bif Nat.blt t 8 then (bif Nat.blt t 4 then (bif Nat.blt t 2 then (bif Nat.blt t 1 then (bif Nat.beq t 0 then 48 else 0) else (bif Nat.beq t 1 then 6 else 0)) else (bif Nat.blt t 3 then (bif Nat.beq t 2 then 4 else 0) else (bif Nat.beq t 3 then 0 else 0))) else (bif Nat.blt t 6 then (bif Nat.blt t 5 then (bif Nat.beq t 4 then 0 else 0) else (bif Nat.beq t 5 then 0 else 0)) else (bif Nat.blt t 7 then (bif Nat.beq t 6 then 0 else 0) else (bif Nat.beq t 7 then 0 else 0)))) else (bif Nat.blt t 12 then (bif Nat.blt t 10 then (bif Nat.blt t 9 then (bif Nat.beq t 8 then 0 else 0) else (bif Nat.beq t 9 then 0 else 0)) else (bif Nat.blt t 11 then (bif Nat.beq t 10 then 0 else 0) else (bif Nat.beq t 11 then 0 else 0))) else (bif Nat.blt t 14 then (bif Nat.blt t 13 then (bif Nat.beq t 12 then 0 else 0) else (bif Nat.beq t 13 then 0 else 0)) else (bif Nat.blt t 15 then (bif Nat.beq t 14 then 0 else 0) else (bif Nat.beq t 15 then 0 else 0))))) else 0
def nfl (t : Nat) : Nat := bif Nat.blt t 16 then (bif Nat.blt t 8 then (bif Nat.blt t 4 then (bif Nat.blt t 2 then (bif Nat.blt t 1 then (bif Nat.beq t 0 then 38 else 0) else (bif Nat.beq t 1 then 3 else 0)) else (bif Nat.blt t 3 then (bif Nat.beq t 2 then 3 else 0) else (bif Nat.beq t 3 then 0 else 0))) else (bif Nat.blt t 6 then (bif Nat.blt t 5 then (bif Nat.beq t 4 then 0 else 0) else (bif Nat.beq t 5 then 0 else 0)) else (bif Nat.blt t 7 then (bif Nat.beq t 6 then 0 else 0) else (bif Nat.beq t 7 then 0 else 0)))) else (bif Nat.blt t 12 then (bif Nat.blt t 10 then (bif Nat.blt t 9 then (bif Nat.beq t 8 then 0 else 0) else (bif Nat.beq t 9 then 0 else 0)) else (bif Nat.blt t 11 then (bif Nat.beq t 10 then 0 else 0) else (bif Nat.beq t 11 then 0 else 0))) else (bif Nat.blt t 14 then (bif Nat.blt t 13 then (bif Nat.beq t 12 then 0 else 0) else (bif Nat.beq t 13 then 0 else 0)) else (bif Nat.blt t 15 then (bif Nat.beq t 14 then 0 else 0) else (bif Nat.beq t 15 then 0 else 0))))) else 0
def fOk (t i : Nat) : Nat := (bif Nat.blt t 8 then (bif Nat.blt t 4 then (bif Nat.blt t 2 then (bif Nat.blt t 1 then (bif Nat.beq t 0 then (bif Nat.blt i 19 then (bif Nat.blt i 9 then (bif Nat.blt i 4 then (bif Nat.blt i 2 then (bif Nat.blt i 1 then (bif Nat.beq i 0 then 1 else 0) else (bif Nat.beq i 1 then 1 else 0)) else (bif Nat.blt i 3 then (bif Nat.beq i 2 then 1 else 0) else (bif Nat.beq i 3 then 1 else 0))) else (bif Nat.blt i 6 then (bif Nat.blt i 5 then (bif Nat.beq i 4 then 1 else 0) else (bif Nat.beq i 5 then 1 else 0)) else (bif Nat.blt i 7 then (bif Nat.beq i 6 then 1 else 0) else (bif Nat.blt i 8 then (bif Nat.beq i 7 then 1 else 0) else (bif Nat.beq i 8 then 1 else 0))))) else (bif Nat.blt i 14 then (bif Nat.blt i 11 then (bif Nat.blt i 10 then (bif Nat.beq i 9 then 1 else 0) else (bif Nat.beq i 10 then 1 else 0)) else (bif Nat.blt i 12 then (bif Nat.beq i 11 then 1 else 0) else (bif Nat.blt i 13 then (bif Nat.beq i 12 then 1 else 0) else (bif Nat.beq i 13 then 1 else 0)))) else (bif Nat.blt i 16 then (bif Nat.blt i 15 then (bif Nat.beq i 14 then 1 else 0) else (bif Nat.beq i 15 then 1 else 0)) else (bif Nat.blt i 17 then (bif Nat.beq i 16 then 1 else 0) else (bif Nat.blt i 18 then (bif Nat.beq i 17 then 1 else 0) else (bif Nat.beq i 18 then 1 else 0)))))) else (bif Nat.blt i 28 then (bif Nat.blt i 23 then (bif Nat.blt i 21 then (bif Nat.blt i 20 then (bif Nat.beq i 19 then 1 else 0) else (bif Nat.beq i 20 then 1 else 0)) else (bif Nat.blt i 22 then (bif Nat.beq i 21 then 1 else 0) else (bif Nat.beq i 22 then 1 else 0))) else (bif Nat.blt i 25 then (bif Nat.blt i 24 then (bif Nat.beq i 23 then 1 else 0) else (bif Nat.beq i 24 then 1 else 0)) else (bif Nat.blt i 26 then (bif Nat.beq i 25 then 1 else 0) else (bif Nat.blt i 27 then (bif Nat.beq i 26 then 1 else 0) else (bif Nat.beq i 27 then 1 else 0))))) else (bif Nat.blt i 33 then (bif Nat.blt i 30 then (bif Nat.blt i 29 then (bif Nat.beq i 28 then 1 else 0) else (bif Nat.beq i 29 then 1 else 0)) else (bif Nat.blt i 31 then (bif Nat.beq i 30 then 1 else 0) else (bif Nat.blt i 32 then (bif Nat.beq i 31 then 1 else 0) else (bif Nat.beq i 32 then 1 else 0)))) else (bif Nat.blt i 35 then (bif Nat.blt i 34 then (bif Nat.beq i 33 then 1 else 0) else (bif Nat.beq i 34 then 1 else 0)) else (bif Nat.blt i 36 then (bif Nat.beq i 35 then 1 else 0) else (bif Nat.blt i 37 then (bif Nat.beq i 36 then 1 else 0) else (bif Nat.beq i 37 then 1 else 0))))))) else 0) else (bif Nat.beq t 1 then (bif Nat.blt i 1 then (bif Nat.beq i 0 then 2 else 0) else (bif Nat.blt i 2 then (bif Nat.beq i 1 then 2 else 0) else (bif Nat.beq i 2 then 2 else 0))) else 0)) else (bif Nat.blt t 3 then (bif Nat.beq t 2 then (bif Nat.blt i 1 then (bif Nat.beq i 0 then 4 else 0) else (bif Nat.blt i 2 then (bif Nat.beq i 1 then 4 else 0) else (bif Nat.beq i 2 then 4 else 0))) else 0) else (bif Nat.beq t 3 then 0 else 0))) else (bif Nat.blt t 6 then (bif Nat.blt t 5 then (bif Nat.beq t 4 then 0 else 0) else (bif Nat.beq t 5 then 0 else 0)) else (bif Nat.blt t 7 then (bif Nat.beq t 6 then 0 else 0) else (bif Nat.beq t 7 then 0 else 0)))) else (bif Nat.blt t 12 then (bif Nat.blt t 10 then (bif Nat.blt t 9 then (bif Nat.beq t 8 then 0 else 0) else (bif Nat.beq t 9 then 0 else 0)) else (bif Nat.blt t 11 then (bif Nat.beq t 10 then 0 else 0) else (bif Nat.beq t 11 then 0 else 0))) else (bif Nat.blt t 14 then (bif Nat.blt t 13 then (bif Nat.beq t 12 then 0 else 0) else (bif Nat.beq t 13 then 0 else 0)) else (bif Nat.blt t 15 then (bif Nat.beq t 14 then 0 else 0) else (bif Nat.beq t 15 then 0 else 0)))))
def fO (t i : Nat) : String := kls (fOk t i)
def fN (t i : Nat) : String := (bif Nat.blt t 8 then (bif Nat.blt t 4 then (bif Nat.blt t 2 then (bif Nat.blt t 1 then (bif Nat.beq t 0 then (bif Nat.blt i 19 then (bif Nat.blt i 9 then (bif Nat.blt i 4 then (bif Nat.blt i 2 then (bif Nat.blt i 1 then (bif Nat.beq i 0 then "names" else "") else (bif Nat.beq i 1 then "labels" else "")) else (bif Nat.blt i 3 then (bif Nat.beq i 2 then "sets" else "") else (bif Nat.beq i 3 then "list" else ""))) else (bif Nat.blt i 6 then (bif Nat.blt i 5 then (bif Nat.beq i 4 then "objects" else "") else (bif Nat.beq i 5 then "kept" else "")) else (bif Nat.blt i 7 then (bif Nat.beq i 6 then "offered" else "") else (bif Nat.blt i 8 then (bif Nat.beq i 7 then "prior" else "") else (bif Nat.beq i 8 then "priorEntries" else ""))))) else (bif Nat.blt i 14 then (bif Nat.blt i 11 then (bif Nat.blt i 10 then (bif Nat.beq i 9 then "entries" else "") else (bif Nat.beq i 10 then "integers" else "")) else (bif Nat.blt i 12 then (bif Nat.beq i 11 then "repeatedIntegers" else "") else (bif Nat.blt i 13 then (bif Nat.beq i 12 then "bytes" else "") else (bif Nat.beq i 13 then "pos" else "")))) else (bif Nat.blt i 16 then (bif Nat.blt i 15 then (bif Nat.beq i 14 then "limit" else "") else (bif Nat.beq i 15 then "whole" else "")) else (bif Nat.blt i 17 then (bif Nat.beq i 16 then "lineStart" else "") else (bif Nat.blt i 18 then (bif Nat.beq i 17 then "depth" else "") else (bif Nat.beq i 18 then "current" else "")))))) else (bif Nat.blt i 28 then (bif Nat.blt i 23 then (bif Nat.blt i 21 then (bif Nat.blt i 20 then (bif Nat.beq i 19 then "ended" else "") else (bif Nat.beq i 20 then "name" else "")) else (bif Nat.blt i 22 then (bif Nat.beq i 21 then "clockStart" else "") else (bif Nat.beq i 22 then "clockEnd" else ""))) else (bif Nat.blt i 25 then (bif Nat.blt i 24 then (bif Nat.beq i 23 then "clockProcess" else "") else (bif Nat.beq i 24 then "ownName" else "")) else (bif Nat.blt i 26 then (bif Nat.beq i 25 then "repeated" else "") else (bif Nat.blt i 27 then (bif Nat.beq i 26 then "lineRepeated" else "") else (bif Nat.beq i 27 then "triedClock" else ""))))) else (bif Nat.blt i 33 then (bif Nat.blt i 30 then (bif Nat.blt i 29 then (bif Nat.beq i 28 then "integerCount" else "") else (bif Nat.beq i 29 then "end" else "")) else (bif Nat.blt i 31 then (bif Nat.beq i 30 then "opened" else "") else (bif Nat.blt i 32 then (bif Nat.beq i 31 then "next" else "") else (bif Nat.beq i 32 then "clockObject" else "")))) else (bif Nat.blt i 35 then (bif Nat.blt i 34 then (bif Nat.beq i 33 then "start" else "") else (bif Nat.beq i 34 then "stop" else "")) else (bif Nat.blt i 36 then (bif Nat.beq i 35 then "ascii" else "") else (bif Nat.blt i 37 then (bif Nat.beq i 36 then "text" else "") else (bif Nat.beq i 37 then "noting" else ""))))))) else "") else (bif Nat.beq t 1 then (bif Nat.blt i 1 then (bif Nat.beq i 0 then "slots" else "") else (bif Nat.blt i 2 then (bif Nat.beq i 1 then "shift" else "") else (bif Nat.beq i 2 then "byProcess" else ""))) else "")) else (bif Nat.blt t 3 then (bif Nat.beq t 2 then (bif Nat.blt i 1 then (bif Nat.beq i 0 then "texts" else "") else (bif Nat.blt i 2 then (bif Nat.beq i 1 then "hashes" else "") else (bif Nat.beq i 2 then "values" else ""))) else "") else (bif Nat.beq t 3 then "" else ""))) else (bif Nat.blt t 6 then (bif Nat.blt t 5 then (bif Nat.beq t 4 then "" else "") else (bif Nat.beq t 5 then "" else "")) else (bif Nat.blt t 7 then (bif Nat.beq t 6 then "" else "") else (bif Nat.beq t 7 then "" else "")))) else (bif Nat.blt t 12 then (bif Nat.blt t 10 then (bif Nat.blt t 9 then (bif Nat.beq t 8 then "" else "") else (bif Nat.beq t 9 then "" else "")) else (bif Nat.blt t 11 then (bif Nat.beq t 10 then "" else "") else (bif Nat.beq t 11 then "" else ""))) else (bif Nat.blt t 14 then (bif Nat.blt t 13 then (bif Nat.beq t 12 then "" else "") else (bif Nat.beq t 13 then "" else "")) else (bif Nat.blt t 15 then (bif Nat.beq t 14 then "" else "") else (bif Nat.beq t 15 then "" else "")))))
def fD (t i : Nat) : String := (bif Nat.blt t 8 then (bif Nat.blt t 4 then (bif Nat.blt t 2 then (bif Nat.blt t 1 then (bif Nat.beq t 0 then (bif Nat.blt i 19 then (bif Nat.blt i 9 then (bif Nat.blt i 4 then (bif Nat.blt i 2 then (bif Nat.blt i 1 then (bif Nat.beq i 0 then "Lcom/example/latticut/latticut/io/PlainTokens$Names;" else "") else (bif Nat.beq i 1 then "Lcom/example/latticut/latticut/io/Texts;" else "")) else (bif Nat.blt i 3 then (bif Nat.beq i 2 then "Lcom/example/latticut/latticut/io/Texts;" else "") else (bif Nat.beq i 3 then "[Z" else ""))) else (bif Nat.blt i 6 then (bif Nat.blt i 5 then (bif Nat.beq i 4 then "[J" else "") else (bif Nat.beq i 5 then "[Lcom/example/latticut/latticut/io/PlainTokens$Kept;" else "")) else (bif Nat.blt i 7 then (bif Nat.beq i 6 then "[Lcom/example/latticut/latticut/model/Event;" else "") else (bif Nat.blt i 8 then (bif Nat.beq i 7 then "[B" else "") else (bif Nat.beq i 8 then "[I" else ""))))) else (bif Nat.blt i 14 then (bif Nat.blt i 11 then (bif Nat.blt i 10 then (bif Nat.beq i 9 then "[I" else "") else (bif Nat.beq i 10 then "[I" else "")) else (bif Nat.blt i 12 then (bif Nat.beq i 11 then "[J" else "") else (bif Nat.blt i 13 then (bif Nat.beq i 12 then "[B" else "") else (bif Nat.beq i 13 then "I" else "")))) else (bif Nat.blt i 16 then (bif Nat.blt i 15 then (bif Nat.beq i 14 then "I" else "") else (bif Nat.beq i 15 then "Z" else "")) else (bif Nat.blt i 17 then (bif Nat.beq i 16 then "I" else "") else (bif Nat.blt i 18 then (bif Nat.beq i 17 then "I" else "") else (bif Nat.beq i 18 then "Lcom/example/latticut/latticut/io/Token;" else "")))))) else (bif Nat.blt i 28 then (bif Nat.blt i 23 then (bif Nat.blt i 21 then (bif Nat.blt i 20 then (bif Nat.beq i 19 then "Z" else "") else (bif Nat.beq i 20 then "Lcom/example/latticut/latticut/io/PlainTokens$Name;" else "")) else (bif Nat.blt i 22 then (bif Nat.beq i 21 then "I" else "") else (bif Nat.beq i 22 then "I" else ""))) else (bif Nat.blt i 25 then (bif Nat.blt i 24 then (bif Nat.beq i 23 then "I" else "") else (bif Nat.beq i 24 then "I" else "")) else (bif Nat.blt i 26 then (bif Nat.beq i 25 then "Z" else "") else (bif Nat.blt i 27 then (bif Nat.beq i 26 then "Z" else "") else (bif Nat.beq i 27 then "I" else ""))))) else (bif Nat.blt i 33 then (bif Nat.blt i 30 then (bif Nat.blt i 29 then (bif Nat.beq i 28 then "I" else "") else (bif Nat.beq i 29 then "I" else "")) else (bif Nat.blt i 31 then (bif Nat.beq i 30 then "J" else "") else (bif Nat.blt i 32 then (bif Nat.beq i 31 then "I" else "") else (bif Nat.beq i 32 then "J" else "")))) else (bif Nat.blt i 35 then (bif Nat.blt i 34 then (bif Nat.beq i 33 then "I" else "") else (bif Nat.beq i 34 then "I" else "")) else (bif Nat.blt i 36 then (bif Nat.beq i 35 then "Z" else "") else (bif Nat.blt i 37 then (bif Nat.beq i 36 then "Ljava/lang/String;" else "") else (bif Nat.beq i 37 then "Z" else ""))))))) else "") else (bif Nat.beq t 1 then (bif Nat.blt i 1 then (bif Nat.beq i 0 then "[Lcom/example/latticut/latticut/io/PlainTokens$Name;" else "") else (bif Nat.blt i 2 then (bif Nat.beq i 1 then "I" else "") else (bif Nat.beq i 2 then "[Lcom/example/latticut/latticut/io/PlainTokens$Name;" else ""))) else "")) else (bif Nat.blt t 3 then (bif Nat.beq t 2 then (bif Nat.blt i 1 then (bif Nat.beq i 0 then "[[B" else "") else (bif Nat.blt i 2 then (bif Nat.beq i 1 then "[I" else "") else (bif Nat.beq i 2 then "[Ljava/lang/Object;" else ""))) else "") else (bif Nat.beq t 3 then "" else ""))) else (bif Nat.blt t 6 then (bif Nat.blt t 5 then (bif Nat.beq t 4 then "" else "") else (bif Nat.beq t 5 then "" else "")) else (bif Nat.blt t 7 then (bif Nat.beq t 6 then "" else "") else (bif Nat.beq t 7 then "" else "")))) else (bif Nat.blt t 12 then (bif Nat.blt t 10 then (bif Nat.blt t 9 then (bif Nat.beq t 8 then "" else "") else (bif Nat.beq t 9 then "" else "")) else (bif Nat.blt t 11 then (bif Nat.beq t 10 then "" else "") else (bif Nat.beq t 11 then "" else ""))) else (bif Nat.blt t 14 then (bif Nat.blt t 13 then (bif Nat.beq t 12 then "" else "") else (bif Nat.beq t 13 then "" else "")) else (bif Nat.blt t 15 then (bif Nat.beq t 14 then "" else "") else (bif Nat.beq t 15 then "" else "")))))
def fT (t i : Nat) : FieldType := (bif Nat.blt t 8 then (bif Nat.blt t 4 then (bif Nat.blt t 2 then (bif Nat.blt t 1 then (bif Nat.beq t 0 then (bif Nat.blt i 19 then (bif Nat.blt i 9 then (bif Nat.blt i 4 then (bif Nat.blt i 2 then (bif Nat.blt i 1 then (bif Nat.beq i 0 then (.object "com/example/latticut/latticut/io/PlainTokens$Names") else .int) else (bif Nat.beq i 1 then (.object "com/example/latticut/latticut/io/Texts") else .int)) else (bif Nat.blt i 3 then (bif Nat.beq i 2 then (.object "com/example/latticut/latticut/io/Texts") else .int) else (bif Nat.beq i 3 then (.array .boolean) else .int))) else (bif Nat.blt i 6 then (bif Nat.blt i 5 then (bif Nat.beq i 4 then (.array .long) else .int) else (bif Nat.beq i 5 then (.array (.object "com/example/latticut/latticut/io/PlainTokens$Kept")) else .int)) else (bif Nat.blt i 7 then (bif Nat.beq i 6 then (.array (.object "com/example/latticut/latticut/model/Event")) else .int) else (bif Nat.blt i 8 then (bif Nat.beq i 7 then (.array .byte) else .int) else (bif Nat.beq i 8 then (.array .int) else .int))))) else (bif Nat.blt i 14 then (bif Nat.blt i 11 then (bif Nat.blt i 10 then (bif Nat.beq i 9 then (.array .int) else .int) else (bif Nat.beq i 10 then (.array .int) else .int)) else (bif Nat.blt i 12 then (bif Nat.beq i 11 then (.array .long) else .int) else (bif Nat.blt i 13 then (bif Nat.beq i 12 then (.array .byte) else .int) else (bif Nat.beq i 13 then .int else .int)))) else (bif Nat.blt i 16 then (bif Nat.blt i 15 then (bif Nat.beq i 14 then .int else .int) else (bif Nat.beq i 15 then .boolean else .int)) else (bif Nat.blt i 17 then (bif Nat.beq i 16 then .int else .int) else (bif Nat.blt i 18 then (bif Nat.beq i 17 then .int else .int) else (bif Nat.beq i 18 then (.object "com/example/latticut/latticut/io/Token") else .int)))))) else (bif Nat.blt i 28 then (bif Nat.blt i 23 then (bif Nat.blt i 21 then (bif Nat.blt i 20 then (bif Nat.beq i 19 then .boolean else .int) else (bif Nat.beq i 20 then (.object "com/example/latticut/latticut/io/PlainTokens$Name") else .int)) else (bif Nat.blt i 22 then (bif Nat.beq i 21 then .int else .int) else (bif Nat.beq i 22 then .int else .int))) else (bif Nat.blt i 25 then (bif Nat.blt i 24 then (bif Nat.beq i 23 then .int else .int) else (bif Nat.beq i 24 then .int else .int)) else (bif Nat.blt i 26 then (bif Nat.beq i 25 then .boolean else .int) else (bif Nat.blt i 27 then (bif Nat.beq i 26 then .boolean else .int) else (bif Nat.beq i 27 then .int else .int))))) else (bif Nat.blt i 33 then (bif Nat.blt i 30 then (bif Nat.blt i 29 then (bif Nat.beq i 28 then .int else .int) else (bif Nat.beq i 29 then .int else .int)) else (bif Nat.blt i 31 then (bif Nat.beq i 30 then .long else .int) else (bif Nat.blt i 32 then (bif Nat.beq i 31 then .int else .int) else (bif Nat.beq i 32 then .long else .int)))) else (bif Nat.blt i 35 then (bif Nat.blt i 34 then (bif Nat.beq i 33 then .int else .int) else (bif Nat.beq i 34 then .int else .int)) else (bif Nat.blt i 36 then (bif Nat.beq i 35 then .boolean else .int) else (bif Nat.blt i 37 then (bif Nat.beq i 36 then (.object "java/lang/String") else .int) else (bif Nat.beq i 37 then .boolean else .int))))))) else .int) else (bif Nat.beq t 1 then (bif Nat.blt i 1 then (bif Nat.beq i 0 then (.array (.object "com/example/latticut/latticut/io/PlainTokens$Name")) else .int) else (bif Nat.blt i 2 then (bif Nat.beq i 1 then .int else .int) else (bif Nat.beq i 2 then (.array (.object "com/example/latticut/latticut/io/PlainTokens$Name")) else .int))) else .int)) else (bif Nat.blt t 3 then (bif Nat.beq t 2 then (bif Nat.blt i 1 then (bif Nat.beq i 0 then (.array (.array .byte)) else .int) else (bif Nat.blt i 2 then (bif Nat.beq i 1 then (.array .int) else .int) else (bif Nat.beq i 2 then (.array (.object "java/lang/Object")) else .int))) else .int) else (bif Nat.beq t 3 then .int else .int))) else (bif Nat.blt t 6 then (bif Nat.blt t 5 then (bif Nat.beq t 4 then .int else .int) else (bif Nat.beq t 5 then .int else .int)) else (bif Nat.blt t 7 then (bif Nat.beq t 6 then .int else .int) else (bif Nat.beq t 7 then .int else .int)))) else (bif Nat.blt t 12 then (bif Nat.blt t 10 then (bif Nat.blt t 9 then (bif Nat.beq t 8 then .int else .int) else (bif Nat.beq t 9 then .int else .int)) else (bif Nat.blt t 11 then (bif Nat.beq t 10 then .int else .int) else (bif Nat.beq t 11 then .int else .int))) else (bif Nat.blt t 14 then (bif Nat.blt t 13 then (bif Nat.beq t 12 then .int else .int) else (bif Nat.beq t 13 then .int else .int)) else (bif Nat.blt t 15 then (bif Nat.beq t 14 then .int else .int) else (bif Nat.beq t 15 then .int else .int)))))
def fK (t i : Nat) : Nat := (bif Nat.blt t 8 then (bif Nat.blt t 4 then (bif Nat.blt t 2 then (bif Nat.blt t 1 then (bif Nat.beq t 0 then (bif Nat.blt i 19 then (bif Nat.blt i 9 then (bif Nat.blt i 4 then (bif Nat.blt i 2 then (bif Nat.blt i 1 then (bif Nat.beq i 0 then 1 else 7) else (bif Nat.beq i 1 then 1 else 7)) else (bif Nat.blt i 3 then (bif Nat.beq i 2 then 1 else 7) else (bif Nat.beq i 3 then 1 else 7))) else (bif Nat.blt i 6 then (bif Nat.blt i 5 then (bif Nat.beq i 4 then 1 else 7) else (bif Nat.beq i 5 then 1 else 7)) else (bif Nat.blt i 7 then (bif Nat.beq i 6 then 1 else 7) else (bif Nat.blt i 8 then (bif Nat.beq i 7 then 1 else 7) else (bif Nat.beq i 8 then 1 else 7))))) else (bif Nat.blt i 14 then (bif Nat.blt i 11 then (bif Nat.blt i 10 then (bif Nat.beq i 9 then 1 else 7) else (bif Nat.beq i 10 then 1 else 7)) else (bif Nat.blt i 12 then (bif Nat.beq i 11 then 1 else 7) else (bif Nat.blt i 13 then (bif Nat.beq i 12 then 1 else 7) else (bif Nat.beq i 13 then 0 else 7)))) else (bif Nat.blt i 16 then (bif Nat.blt i 15 then (bif Nat.beq i 14 then 0 else 7) else (bif Nat.beq i 15 then 2 else 7)) else (bif Nat.blt i 17 then (bif Nat.beq i 16 then 0 else 7) else (bif Nat.blt i 18 then (bif Nat.beq i 17 then 0 else 7) else (bif Nat.beq i 18 then 1 else 7)))))) else (bif Nat.blt i 28 then (bif Nat.blt i 23 then (bif Nat.blt i 21 then (bif Nat.blt i 20 then (bif Nat.beq i 19 then 2 else 7) else (bif Nat.beq i 20 then 1 else 7)) else (bif Nat.blt i 22 then (bif Nat.beq i 21 then 0 else 7) else (bif Nat.beq i 22 then 0 else 7))) else (bif Nat.blt i 25 then (bif Nat.blt i 24 then (bif Nat.beq i 23 then 0 else 7) else (bif Nat.beq i 24 then 0 else 7)) else (bif Nat.blt i 26 then (bif Nat.beq i 25 then 2 else 7) else (bif Nat.blt i 27 then (bif Nat.beq i 26 then 2 else 7) else (bif Nat.beq i 27 then 0 else 7))))) else (bif Nat.blt i 33 then (bif Nat.blt i 30 then (bif Nat.blt i 29 then (bif Nat.beq i 28 then 0 else 7) else (bif Nat.beq i 29 then 0 else 7)) else (bif Nat.blt i 31 then (bif Nat.beq i 30 then 3 else 7) else (bif Nat.blt i 32 then (bif Nat.beq i 31 then 0 else 7) else (bif Nat.beq i 32 then 3 else 7)))) else (bif Nat.blt i 35 then (bif Nat.blt i 34 then (bif Nat.beq i 33 then 0 else 7) else (bif Nat.beq i 34 then 0 else 7)) else (bif Nat.blt i 36 then (bif Nat.beq i 35 then 2 else 7) else (bif Nat.blt i 37 then (bif Nat.beq i 36 then 1 else 7) else (bif Nat.beq i 37 then 2 else 7))))))) else 7) else (bif Nat.beq t 1 then (bif Nat.blt i 1 then (bif Nat.beq i 0 then 1 else 7) else (bif Nat.blt i 2 then (bif Nat.beq i 1 then 0 else 7) else (bif Nat.beq i 2 then 1 else 7))) else 7)) else (bif Nat.blt t 3 then (bif Nat.beq t 2 then (bif Nat.blt i 1 then (bif Nat.beq i 0 then 1 else 7) else (bif Nat.blt i 2 then (bif Nat.beq i 1 then 1 else 7) else (bif Nat.beq i 2 then 1 else 7))) else 7) else (bif Nat.beq t 3 then 7 else 7))) else (bif Nat.blt t 6 then (bif Nat.blt t 5 then (bif Nat.beq t 4 then 7 else 7) else (bif Nat.beq t 5 then 7 else 7)) else (bif Nat.blt t 7 then (bif Nat.beq t 6 then 7 else 7) else (bif Nat.beq t 7 then 7 else 7)))) else (bif Nat.blt t 12 then (bif Nat.blt t 10 then (bif Nat.blt t 9 then (bif Nat.beq t 8 then 7 else 7) else (bif Nat.beq t 9 then 7 else 7)) else (bif Nat.blt t 11 then (bif Nat.beq t 10 then 7 else 7) else (bif Nat.beq t 11 then 7 else 7))) else (bif Nat.blt t 14 then (bif Nat.blt t 13 then (bif Nat.beq t 12 then 7 else 7) else (bif Nat.beq t 13 then 7 else 7)) else (bif Nat.blt t 15 then (bif Nat.beq t 14 then 7 else 7) else (bif Nat.beq t 15 then 7 else 7)))))
def fFin (t i : Nat) : Bool := (bif Nat.blt t 8 then (bif Nat.blt t 4 then (bif Nat.blt t 2 then (bif Nat.blt t 1 then (bif Nat.beq t 0 then (bif Nat.blt i 19 then (bif Nat.blt i 9 then (bif Nat.blt i 4 then (bif Nat.blt i 2 then (bif Nat.blt i 1 then (bif Nat.beq i 0 then true else false) else (bif Nat.beq i 1 then true else false)) else (bif Nat.blt i 3 then (bif Nat.beq i 2 then true else false) else (bif Nat.beq i 3 then true else false))) else (bif Nat.blt i 6 then (bif Nat.blt i 5 then (bif Nat.beq i 4 then true else false) else (bif Nat.beq i 5 then false else false)) else (bif Nat.blt i 7 then (bif Nat.beq i 6 then false else false) else (bif Nat.blt i 8 then (bif Nat.beq i 7 then false else false) else (bif Nat.beq i 8 then false else false))))) else (bif Nat.blt i 14 then (bif Nat.blt i 11 then (bif Nat.blt i 10 then (bif Nat.beq i 9 then false else false) else (bif Nat.beq i 10 then false else false)) else (bif Nat.blt i 12 then (bif Nat.beq i 11 then false else false) else (bif Nat.blt i 13 then (bif Nat.beq i 12 then false else false) else (bif Nat.beq i 13 then false else false)))) else (bif Nat.blt i 16 then (bif Nat.blt i 15 then (bif Nat.beq i 14 then false else false) else (bif Nat.beq i 15 then false else false)) else (bif Nat.blt i 17 then (bif Nat.beq i 16 then false else false) else (bif Nat.blt i 18 then (bif Nat.beq i 17 then false else false) else (bif Nat.beq i 18 then false else false)))))) else (bif Nat.blt i 28 then (bif Nat.blt i 23 then (bif Nat.blt i 21 then (bif Nat.blt i 20 then (bif Nat.beq i 19 then false else false) else (bif Nat.beq i 20 then false else false)) else (bif Nat.blt i 22 then (bif Nat.beq i 21 then false else false) else (bif Nat.beq i 22 then false else false))) else (bif Nat.blt i 25 then (bif Nat.blt i 24 then (bif Nat.beq i 23 then false else false) else (bif Nat.beq i 24 then false else false)) else (bif Nat.blt i 26 then (bif Nat.beq i 25 then false else false) else (bif Nat.blt i 27 then (bif Nat.beq i 26 then false else false) else (bif Nat.beq i 27 then false else false))))) else (bif Nat.blt i 33 then (bif Nat.blt i 30 then (bif Nat.blt i 29 then (bif Nat.beq i 28 then false else false) else (bif Nat.beq i 29 then false else false)) else (bif Nat.blt i 31 then (bif Nat.beq i 30 then false else false) else (bif Nat.blt i 32 then (bif Nat.beq i 31 then false else false) else (bif Nat.beq i 32 then false else false)))) else (bif Nat.blt i 35 then (bif Nat.blt i 34 then (bif Nat.beq i 33 then false else false) else (bif Nat.beq i 34 then false else false)) else (bif Nat.blt i 36 then (bif Nat.beq i 35 then false else false) else (bif Nat.blt i 37 then (bif Nat.beq i 36 then false else false) else (bif Nat.beq i 37 then false else false))))))) else false) else (bif Nat.beq t 1 then (bif Nat.blt i 1 then (bif Nat.beq i 0 then false else false) else (bif Nat.blt i 2 then (bif Nat.beq i 1 then false else false) else (bif Nat.beq i 2 then false else false))) else false)) else (bif Nat.blt t 3 then (bif Nat.beq t 2 then (bif Nat.blt i 1 then (bif Nat.beq i 0 then true else false) else (bif Nat.blt i 2 then (bif Nat.beq i 1 then true else false) else (bif Nat.beq i 2 then true else false))) else false) else (bif Nat.beq t 3 then false else false))) else (bif Nat.blt t 6 then (bif Nat.blt t 5 then (bif Nat.beq t 4 then false else false) else (bif Nat.beq t 5 then false else false)) else (bif Nat.blt t 7 then (bif Nat.beq t 6 then false else false) else (bif Nat.beq t 7 then false else false)))) else (bif Nat.blt t 12 then (bif Nat.blt t 10 then (bif Nat.blt t 9 then (bif Nat.beq t 8 then false else false) else (bif Nat.beq t 9 then false else false)) else (bif Nat.blt t 11 then (bif Nat.beq t 10 then false else false) else (bif Nat.beq t 11 then false else false))) else (bif Nat.blt t 14 then (bif Nat.blt t 13 then (bif Nat.beq t 12 then false else false) else (bif Nat.beq t 13 then false else false)) else (bif Nat.blt t 15 then (bif Nat.beq t 14 then false else false) else (bif Nat.beq t 15 then false else false)))))
def nLF : Nat := 44
def lfK (r : Nat) : Nat := bif Nat.blt r 44 then (bif Nat.blt r 22 then (bif Nat.blt r 11 then (bif Nat.blt r 5 then (bif Nat.blt r 2 then (bif Nat.blt r 1 then (bif Nat.beq r 0 then 2 else 0) else (bif Nat.beq r 1 then 2 else 0)) else (bif Nat.blt r 3 then (bif Nat.beq r 2 then 2 else 0) else (bif Nat.blt r 4 then (bif Nat.beq r 3 then 1 else 0) else (bif Nat.beq r 4 then 4 else 0)))) else (bif Nat.blt r 8 then (bif Nat.blt r 6 then (bif Nat.beq r 5 then 4 else 0) else (bif Nat.blt r 7 then (bif Nat.beq r 6 then 4 else 0) else (bif Nat.beq r 7 then 1 else 0))) else (bif Nat.blt r 9 then (bif Nat.beq r 8 then 1 else 0) else (bif Nat.blt r 10 then (bif Nat.beq r 9 then 1 else 0) else (bif Nat.beq r 10 then 1 else 0))))) else (bif Nat.blt r 16 then (bif Nat.blt r 13 then (bif Nat.blt r 12 then (bif Nat.beq r 11 then 1 else 0) else (bif Nat.beq r 12 then 1 else 0)) else (bif Nat.blt r 14 then (bif Nat.beq r 13 then 1 else 0) else (bif Nat.blt r 15 then (bif Nat.beq r 14 then 1 else 0) else (bif Nat.beq r 15 then 1 else 0)))) else (bif Nat.blt r 19 then (bif Nat.blt r 17 then (bif Nat.beq r 16 then 1 else 0) else (bif Nat.blt r 18 then (bif Nat.beq r 17 then 1 else 0) else (bif Nat.beq r 18 then 1 else 0))) else (bif Nat.blt r 20 then (bif Nat.beq r 19 then 1 else 0) else (bif Nat.blt r 21 then (bif Nat.beq r 20 then 1 else 0) else (bif Nat.beq r 21 then 1 else 0)))))) else (bif Nat.blt r 33 then (bif Nat.blt r 27 then (bif Nat.blt r 24 then (bif Nat.blt r 23 then (bif Nat.beq r 22 then 1 else 0) else (bif Nat.beq r 23 then 1 else 0)) else (bif Nat.blt r 25 then (bif Nat.beq r 24 then 1 else 0) else (bif Nat.blt r 26 then (bif Nat.beq r 25 then 1 else 0) else (bif Nat.beq r 26 then 1 else 0)))) else (bif Nat.blt r 30 then (bif Nat.blt r 28 then (bif Nat.beq r 27 then 1 else 0) else (bif Nat.blt r 29 then (bif Nat.beq r 28 then 1 else 0) else (bif Nat.beq r 29 then 1 else 0))) else (bif Nat.blt r 31 then (bif Nat.beq r 30 then 1 else 0) else (bif Nat.blt r 32 then (bif Nat.beq r 31 then 1 else 0) else (bif Nat.beq r 32 then 1 else 0))))) else (bif Nat.blt r 38 then (bif Nat.blt r 35 then (bif Nat.blt r 34 then (bif Nat.beq r 33 then 1 else 0) else (bif Nat.beq r 34 then 1 else 0)) else (bif Nat.blt r 36 then (bif Nat.beq r 35 then 1 else 0) else (bif Nat.blt r 37 then (bif Nat.beq r 36 then 1 else 0) else (bif Nat.beq r 37 then 1 else 0)))) else (bif Nat.blt r 41 then (bif Nat.blt r 39 then (bif Nat.beq r 38 then 1 else 0) else (bif Nat.blt r 40 then (bif Nat.beq r 39 then 1 else 0) else (bif Nat.beq r 40 then 1 else 0))) else (bif Nat.blt r 42 then (bif Nat.beq r 41 then 1 else 0) else (bif Nat.blt r 43 then (bif Nat.beq r 42 then 1 else 0) else (bif Nat.beq r 43 then 1 else 0))))))) else 0
def lfI (r : Nat) : Nat := bif Nat.blt r 44 then (bif Nat.blt r 22 then (bif Nat.blt r 11 then (bif Nat.blt r 5 then (bif Nat.blt r 2 then (bif Nat.blt r 1 then (bif Nat.beq r 0 then 9 else 0) else (bif Nat.beq r 1 then 19 else 0)) else (bif Nat.blt r 3 then (bif Nat.beq r 2 then 22 else 0) else (bif Nat.blt r 4 then (bif Nat.beq r 3 then 10 else 0) else (bif Nat.beq r 4 then 11 else 0)))) else (bif Nat.blt r 8 then (bif Nat.blt r 6 then (bif Nat.beq r 5 then 15 else 0) else (bif Nat.blt r 7 then (bif Nat.beq r 6 then 19 else 0) else (bif Nat.beq r 7 then 19 else 0))) else (bif Nat.blt r 9 then (bif Nat.beq r 8 then 23 else 0) else (bif Nat.blt r 10 then (bif Nat.beq r 9 then 26 else 0) else (bif Nat.beq r 10 then 30 else 0))))) else (bif Nat.blt r 16 then (bif Nat.blt r 13 then (bif Nat.blt r 12 then (bif Nat.beq r 11 then 36 else 0) else (bif Nat.beq r 12 then 42 else 0)) else (bif Nat.blt r 14 then (bif Nat.beq r 13 then 46 else 0) else (bif Nat.blt r 15 then (bif Nat.beq r 14 then 50 else 0) else (bif Nat.beq r 15 then 54 else 0)))) else (bif Nat.blt r 19 then (bif Nat.blt r 17 then (bif Nat.beq r 16 then 57 else 0) else (bif Nat.blt r 18 then (bif Nat.beq r 17 then 60 else 0) else (bif Nat.beq r 18 then 63 else 0))) else (bif Nat.blt r 20 then (bif Nat.beq r 19 then 66 else 0) else (bif Nat.blt r 21 then (bif Nat.beq r 20 then 70 else 0) else (bif Nat.beq r 21 then 73 else 0)))))) else (bif Nat.blt r 33 then (bif Nat.blt r 27 then (bif Nat.blt r 24 then (bif Nat.blt r 23 then (bif Nat.beq r 22 then 77 else 0) else (bif Nat.beq r 23 then 80 else 0)) else (bif Nat.blt r 25 then (bif Nat.beq r 24 then 83 else 0) else (bif Nat.blt r 26 then (bif Nat.beq r 25 then 87 else 0) else (bif Nat.beq r 26 then 90 else 0)))) else (bif Nat.blt r 30 then (bif Nat.blt r 28 then (bif Nat.beq r 27 then 94 else 0) else (bif Nat.blt r 29 then (bif Nat.beq r 28 then 97 else 0) else (bif Nat.beq r 29 then 100 else 0))) else (bif Nat.blt r 31 then (bif Nat.beq r 30 then 103 else 0) else (bif Nat.blt r 32 then (bif Nat.beq r 31 then 106 else 0) else (bif Nat.beq r 32 then 109 else 0))))) else (bif Nat.blt r 38 then (bif Nat.blt r 35 then (bif Nat.blt r 34 then (bif Nat.beq r 33 then 112 else 0) else (bif Nat.beq r 34 then 115 else 0)) else (bif Nat.blt r 36 then (bif Nat.beq r 35 then 180 else 0) else (bif Nat.blt r 37 then (bif Nat.beq r 36 then 415 else 0) else (bif Nat.beq r 37 then 278 else 0)))) else (bif Nat.blt r 41 then (bif Nat.blt r 39 then (bif Nat.beq r 38 then 387 else 0) else (bif Nat.blt r 40 then (bif Nat.beq r 39 then 223 else 0) else (bif Nat.beq r 40 then 297 else 0))) else (bif Nat.blt r 42 then (bif Nat.beq r 41 then 504 else 0) else (bif Nat.blt r 43 then (bif Nat.beq r 42 then 383 else 0) else (bif Nat.beq r 43 then 275 else 0))))))) else 0
def lfT (r : Nat) : Nat := bif Nat.blt r 44 then (bif Nat.blt r 22 then (bif Nat.blt r 11 then (bif Nat.blt r 5 then (bif Nat.blt r 2 then (bif Nat.blt r 1 then (bif Nat.beq r 0 then 1 else 0) else (bif Nat.beq r 1 then 1 else 0)) else (bif Nat.blt r 3 then (bif Nat.beq r 2 then 1 else 0) else (bif Nat.blt r 4 then (bif Nat.beq r 3 then 0 else 0) else (bif Nat.beq r 4 then 2 else 0)))) else (bif Nat.blt r 8 then (bif Nat.blt r 6 then (bif Nat.beq r 5 then 2 else 0) else (bif Nat.blt r 7 then (bif Nat.beq r 6 then 2 else 0) else (bif Nat.beq r 7 then 0 else 0))) else (bif Nat.blt r 9 then (bif Nat.beq r 8 then 0 else 0) else (bif Nat.blt r 10 then (bif Nat.beq r 9 then 0 else 0) else (bif Nat.beq r 10 then 0 else 0))))) else (bif Nat.blt r 16 then (bif Nat.blt r 13 then (bif Nat.blt r 12 then (bif Nat.beq r 11 then 0 else 0) else (bif Nat.beq r 12 then 0 else 0)) else (bif Nat.blt r 14 then (bif Nat.beq r 13 then 0 else 0) else (bif Nat.blt r 15 then (bif Nat.beq r 14 then 0 else 0) else (bif Nat.beq r 15 then 0 else 0)))) else (bif Nat.blt r 19 then (bif Nat.blt r 17 then (bif Nat.beq r 16 then 0 else 0) else (bif Nat.blt r 18 then (bif Nat.beq r 17 then 0 else 0) else (bif Nat.beq r 18 then 0 else 0))) else (bif Nat.blt r 20 then (bif Nat.beq r 19 then 0 else 0) else (bif Nat.blt r 21 then (bif Nat.beq r 20 then 0 else 0) else (bif Nat.beq r 21 then 0 else 0)))))) else (bif Nat.blt r 33 then (bif Nat.blt r 27 then (bif Nat.blt r 24 then (bif Nat.blt r 23 then (bif Nat.beq r 22 then 0 else 0) else (bif Nat.beq r 23 then 0 else 0)) else (bif Nat.blt r 25 then (bif Nat.beq r 24 then 0 else 0) else (bif Nat.blt r 26 then (bif Nat.beq r 25 then 0 else 0) else (bif Nat.beq r 26 then 0 else 0)))) else (bif Nat.blt r 30 then (bif Nat.blt r 28 then (bif Nat.beq r 27 then 0 else 0) else (bif Nat.blt r 29 then (bif Nat.beq r 28 then 0 else 0) else (bif Nat.beq r 29 then 0 else 0))) else (bif Nat.blt r 31 then (bif Nat.beq r 30 then 0 else 0) else (bif Nat.blt r 32 then (bif Nat.beq r 31 then 0 else 0) else (bif Nat.beq r 32 then 0 else 0))))) else (bif Nat.blt r 38 then (bif Nat.blt r 35 then (bif Nat.blt r 34 then (bif Nat.beq r 33 then 0 else 0) else (bif Nat.beq r 34 then 0 else 0)) else (bif Nat.blt r 36 then (bif Nat.beq r 35 then 0 else 0) else (bif Nat.blt r 37 then (bif Nat.beq r 36 then 0 else 0) else (bif Nat.beq r 37 then 0 else 0)))) else (bif Nat.blt r 41 then (bif Nat.blt r 39 then (bif Nat.beq r 38 then 0 else 0) else (bif Nat.blt r 40 then (bif Nat.beq r 39 then 0 else 0) else (bif Nat.beq r 40 then 0 else 0))) else (bif Nat.blt r 42 then (bif Nat.beq r 41 then 0 else 0) else (bif Nat.blt r 43 then (bif Nat.beq r 42 then 0 else 0) else (bif Nat.beq r 43 then 0 else 0))))))) else 0
def lfP (r : Nat) : Nat := bif Nat.blt r 44 then (bif Nat.blt r 22 then (bif Nat.blt r 11 then (bif Nat.blt r 5 then (bif Nat.blt r 2 then (bif Nat.blt r 1 then (bif Nat.beq r 0 then 0 else 0) else (bif Nat.beq r 1 then 1 else 0)) else (bif Nat.blt r 3 then (bif Nat.beq r 2 then 2 else 0) else (bif Nat.blt r 4 then (bif Nat.beq r 3 then 0 else 0) else (bif Nat.beq r 4 then 0 else 0)))) else (bif Nat.blt r 8 then (bif Nat.blt r 6 then (bif Nat.beq r 5 then 1 else 0) else (bif Nat.blt r 7 then (bif Nat.beq r 6 then 2 else 0) else (bif Nat.beq r 7 then 1 else 0))) else (bif Nat.blt r 9 then (bif Nat.beq r 8 then 2 else 0) else (bif Nat.blt r 10 then (bif Nat.beq r 9 then 3 else 0) else (bif Nat.beq r 10 then 4 else 0))))) else (bif Nat.blt r 16 then (bif Nat.blt r 13 then (bif Nat.blt r 12 then (bif Nat.beq r 11 then 5 else 0) else (bif Nat.beq r 12 then 6 else 0)) else (bif Nat.blt r 14 then (bif Nat.beq r 13 then 7 else 0) else (bif Nat.blt r 15 then (bif Nat.beq r 14 then 8 else 0) else (bif Nat.beq r 15 then 9 else 0)))) else (bif Nat.blt r 19 then (bif Nat.blt r 17 then (bif Nat.beq r 16 then 10 else 0) else (bif Nat.blt r 18 then (bif Nat.beq r 17 then 11 else 0) else (bif Nat.beq r 18 then 12 else 0))) else (bif Nat.blt r 20 then (bif Nat.beq r 19 then 13 else 0) else (bif Nat.blt r 21 then (bif Nat.beq r 20 then 14 else 0) else (bif Nat.beq r 21 then 15 else 0)))))) else (bif Nat.blt r 33 then (bif Nat.blt r 27 then (bif Nat.blt r 24 then (bif Nat.blt r 23 then (bif Nat.beq r 22 then 16 else 0) else (bif Nat.beq r 23 then 17 else 0)) else (bif Nat.blt r 25 then (bif Nat.beq r 24 then 18 else 0) else (bif Nat.blt r 26 then (bif Nat.beq r 25 then 19 else 0) else (bif Nat.beq r 26 then 20 else 0)))) else (bif Nat.blt r 30 then (bif Nat.blt r 28 then (bif Nat.beq r 27 then 21 else 0) else (bif Nat.blt r 29 then (bif Nat.beq r 28 then 22 else 0) else (bif Nat.beq r 29 then 23 else 0))) else (bif Nat.blt r 31 then (bif Nat.beq r 30 then 24 else 0) else (bif Nat.blt r 32 then (bif Nat.beq r 31 then 25 else 0) else (bif Nat.beq r 32 then 26 else 0))))) else (bif Nat.blt r 38 then (bif Nat.blt r 35 then (bif Nat.blt r 34 then (bif Nat.beq r 33 then 27 else 0) else (bif Nat.beq r 34 then 28 else 0)) else (bif Nat.blt r 36 then (bif Nat.beq r 35 then 29 else 0) else (bif Nat.blt r 37 then (bif Nat.beq r 36 then 30 else 0) else (bif Nat.beq r 37 then 31 else 0)))) else (bif Nat.blt r 41 then (bif Nat.blt r 39 then (bif Nat.beq r 38 then 32 else 0) else (bif Nat.blt r 40 then (bif Nat.beq r 39 then 33 else 0) else (bif Nat.beq r 40 then 34 else 0))) else (bif Nat.blt r 42 then (bif Nat.beq r 41 then 35 else 0) else (bif Nat.blt r 43 then (bif Nat.beq r 42 then 36 else 0) else (bif Nat.beq r 43 then 37 else 0))))))) else 0
def nLC : Nat := 8
def lcK (r : Nat) : Nat := bif Nat.blt r 8 then (bif Nat.blt r 4 then (bif Nat.blt r 2 then (bif Nat.blt r 1 then (bif Nat.beq r 0 then 0 else 0) else (bif Nat.beq r 1 then 1 else 0)) else (bif Nat.blt r 3 then (bif Nat.beq r 2 then 2 else 0) else (bif Nat.beq r 3 then 1 else 0))) else (bif Nat.blt r 6 then (bif Nat.blt r 5 then (bif Nat.beq r 4 then 4 else 0) else (bif Nat.beq r 5 then 4 else 0)) else (bif Nat.blt r 7 then (bif Nat.beq r 6 then 1 else 0) else (bif Nat.beq r 7 then 1 else 0)))) else 0
def lcI (r : Nat) : Nat := bif Nat.blt r 8 then (bif Nat.blt r 4 then (bif Nat.blt r 2 then (bif Nat.blt r 1 then (bif Nat.beq r 0 then 18 else 0) else (bif Nat.beq r 1 then 7 else 0)) else (bif Nat.blt r 3 then (bif Nat.beq r 2 then 7 else 0) else (bif Nat.beq r 3 then 16 else 0))) else (bif Nat.blt r 6 then (bif Nat.blt r 5 then (bif Nat.beq r 4 then 9 else 0) else (bif Nat.beq r 5 then 2 else 0)) else (bif Nat.blt r 7 then (bif Nat.beq r 6 then 34 else 0) else (bif Nat.beq r 7 then 40 else 0)))) else 0
def lcT (r : Nat) : Nat := bif Nat.blt r 8 then (bif Nat.blt r 4 then (bif Nat.blt r 2 then (bif Nat.blt r 1 then (bif Nat.beq r 0 then 0 else 0) else (bif Nat.beq r 1 then 1 else 0)) else (bif Nat.blt r 3 then (bif Nat.beq r 2 then 12 else 0) else (bif Nat.beq r 3 then 2 else 0))) else (bif Nat.blt r 6 then (bif Nat.blt r 5 then (bif Nat.beq r 4 then 3 else 0) else (bif Nat.beq r 5 then 13 else 0)) else (bif Nat.blt r 7 then (bif Nat.beq r 6 then 14 else 0) else (bif Nat.beq r 7 then 15 else 0)))) else 0
def nLK : Nat := 2
def lkK (r : Nat) : Nat := bif Nat.blt r 2 then (bif Nat.blt r 1 then (bif Nat.beq r 0 then 0 else 0) else (bif Nat.beq r 1 then 3 else 0)) else 0
def lkI (r : Nat) : Nat := bif Nat.blt r 2 then (bif Nat.blt r 1 then (bif Nat.beq r 0 then 17 else 0) else (bif Nat.beq r 1 then 264 else 0)) else 0
def lkV (r : Nat) : Int32 := bif Nat.blt r 2 then (bif Nat.blt r 1 then (bif Nat.beq r 0 then (2147483647 : Int32) else 0) else (bif Nat.beq r 1 then (65536 : Int32) else 0)) else 0
def nLS : Nat := 4
def lsC (r : Nat) : String := bif Nat.blt r 4 then (bif Nat.blt r 2 then (bif Nat.blt r 1 then (bif Nat.beq r 0 then "com/example/latticut/latticut/io/Token" else "") else (bif Nat.beq r 1 then "com/example/latticut/latticut/io/Token" else "")) else (bif Nat.blt r 3 then (bif Nat.beq r 2 then "com/example/latticut/latticut/io/Token" else "") else (bif Nat.beq r 3 then "com/example/latticut/latticut/io/Token" else ""))) else ""
def lsN (r : Nat) : String := bif Nat.blt r 4 then (bif Nat.blt r 2 then (bif Nat.blt r 1 then (bif Nat.beq r 0 then "FIELD_NAME" else "") else (bif Nat.beq r 1 then "START_OBJECT" else "")) else (bif Nat.blt r 3 then (bif Nat.beq r 2 then "END_OBJECT" else "") else (bif Nat.beq r 3 then "START_OBJECT" else ""))) else ""
def lsD (r : Nat) : String := bif Nat.blt r 4 then (bif Nat.blt r 2 then (bif Nat.blt r 1 then (bif Nat.beq r 0 then "Lcom/example/latticut/latticut/io/Token;" else "") else (bif Nat.beq r 1 then "Lcom/example/latticut/latticut/io/Token;" else "")) else (bif Nat.blt r 3 then (bif Nat.beq r 2 then "Lcom/example/latticut/latticut/io/Token;" else "") else (bif Nat.beq r 3 then "Lcom/example/latticut/latticut/io/Token;" else ""))) else ""
def lsK (r : Nat) : Nat := bif Nat.blt r 4 then (bif Nat.blt r 2 then (bif Nat.blt r 1 then (bif Nat.beq r 0 then 1 else 0) else (bif Nat.beq r 1 then 1 else 0)) else (bif Nat.blt r 3 then (bif Nat.beq r 2 then 1 else 0) else (bif Nat.beq r 3 then 0 else 0))) else 0
def lsI (r : Nat) : Nat := bif Nat.blt r 4 then (bif Nat.blt r 2 then (bif Nat.blt r 1 then (bif Nat.beq r 0 then 183 else 0) else (bif Nat.beq r 1 then 216 else 0)) else (bif Nat.blt r 3 then (bif Nat.beq r 2 then 213 else 0) else (bif Nat.beq r 3 then 44 else 0))) else 0
def lsV (r : Nat) : Term := bif Nat.blt r 4 then (bif Nat.blt r 2 then (bif Nat.blt r 1 then (bif Nat.beq r 0 then (.string "" 1) else .null) else (bif Nat.beq r 1 then (.string "" 0) else .null)) else (bif Nat.blt r 3 then (bif Nat.beq r 2 then (.string "" 2) else .null) else (bif Nat.beq r 3 then (.string "" 0) else .null))) else .null
def nS : Nat := 22
def sK (r : Nat) : Nat := bif Nat.blt r 22 then (bif Nat.blt r 11 then (bif Nat.blt r 5 then (bif Nat.blt r 2 then (bif Nat.blt r 1 then (bif Nat.beq r 0 then 0 else 0) else (bif Nat.beq r 1 then 0 else 0)) else (bif Nat.blt r 3 then (bif Nat.beq r 2 then 1 else 0) else (bif Nat.blt r 4 then (bif Nat.beq r 3 then 1 else 0) else (bif Nat.beq r 4 then 2 else 0)))) else (bif Nat.blt r 8 then (bif Nat.blt r 6 then (bif Nat.beq r 5 then 2 else 0) else (bif Nat.blt r 7 then (bif Nat.beq r 6 then 2 else 0) else (bif Nat.beq r 7 then 1 else 0))) else (bif Nat.blt r 9 then (bif Nat.beq r 8 then 4 else 0) else (bif Nat.blt r 10 then (bif Nat.beq r 9 then 0 else 0) else (bif Nat.beq r 10 then 0 else 0))))) else (bif Nat.blt r 16 then (bif Nat.blt r 13 then (bif Nat.blt r 12 then (bif Nat.beq r 11 then 0 else 0) else (bif Nat.beq r 12 then 0 else 0)) else (bif Nat.blt r 14 then (bif Nat.beq r 13 then 0 else 0) else (bif Nat.blt r 15 then (bif Nat.beq r 14 then 1 else 0) else (bif Nat.beq r 15 then 1 else 0)))) else (bif Nat.blt r 19 then (bif Nat.blt r 17 then (bif Nat.beq r 16 then 1 else 0) else (bif Nat.blt r 18 then (bif Nat.beq r 17 then 0 else 0) else (bif Nat.beq r 18 then 0 else 0))) else (bif Nat.blt r 20 then (bif Nat.beq r 19 then 1 else 0) else (bif Nat.blt r 21 then (bif Nat.beq r 20 then 1 else 0) else (bif Nat.beq r 21 then 1 else 0)))))) else 0
def sI (r : Nat) : Nat := bif Nat.blt r 22 then (bif Nat.blt r 11 then (bif Nat.blt r 5 then (bif Nat.blt r 2 then (bif Nat.blt r 1 then (bif Nat.beq r 0 then 13 else 0) else (bif Nat.beq r 1 then 20 else 0)) else (bif Nat.blt r 3 then (bif Nat.beq r 2 then 1 else 0) else (bif Nat.blt r 4 then (bif Nat.beq r 3 then 9 else 0) else (bif Nat.beq r 4 then 1 else 0)))) else (bif Nat.blt r 8 then (bif Nat.blt r 6 then (bif Nat.beq r 5 then 15 else 0) else (bif Nat.blt r 7 then (bif Nat.beq r 6 then 83 else 0) else (bif Nat.beq r 7 then 18 else 0))) else (bif Nat.blt r 9 then (bif Nat.beq r 8 then 1 else 0) else (bif Nat.blt r 10 then (bif Nat.beq r 9 then 21 else 0) else (bif Nat.beq r 10 then 29 else 0))))) else (bif Nat.blt r 16 then (bif Nat.blt r 13 then (bif Nat.blt r 12 then (bif Nat.beq r 11 then 32 else 0) else (bif Nat.beq r 12 then 7 else 0)) else (bif Nat.blt r 14 then (bif Nat.beq r 13 then 36 else 0) else (bif Nat.blt r 15 then (bif Nat.beq r 14 then 167 else 0) else (bif Nat.beq r 15 then 170 else 0)))) else (bif Nat.blt r 19 then (bif Nat.blt r 17 then (bif Nat.beq r 16 then 174 else 0) else (bif Nat.blt r 18 then (bif Nat.beq r 17 then 40 else 0) else (bif Nat.beq r 18 then 25 else 0))) else (bif Nat.blt r 20 then (bif Nat.beq r 19 then 196 else 0) else (bif Nat.blt r 21 then (bif Nat.beq r 20 then 478 else 0) else (bif Nat.beq r 21 then 202 else 0)))))) else 0
def sJ (r : Nat) : Nat := bif Nat.blt r 22 then (bif Nat.blt r 11 then (bif Nat.blt r 5 then (bif Nat.blt r 2 then (bif Nat.blt r 1 then (bif Nat.beq r 0 then 1 else 9999) else (bif Nat.beq r 1 then 2 else 9999)) else (bif Nat.blt r 3 then (bif Nat.beq r 2 then 9999 else 9999) else (bif Nat.blt r 4 then (bif Nat.beq r 3 then 3 else 9999) else (bif Nat.beq r 4 then 9999 else 9999)))) else (bif Nat.blt r 8 then (bif Nat.blt r 6 then (bif Nat.beq r 5 then 4 else 9999) else (bif Nat.blt r 7 then (bif Nat.beq r 6 then 5 else 9999) else (bif Nat.beq r 7 then 6 else 9999))) else (bif Nat.blt r 9 then (bif Nat.beq r 8 then 9999 else 9999) else (bif Nat.blt r 10 then (bif Nat.beq r 9 then 7 else 9999) else (bif Nat.beq r 10 then 8 else 9999))))) else (bif Nat.blt r 16 then (bif Nat.blt r 13 then (bif Nat.blt r 12 then (bif Nat.beq r 11 then 9 else 9999) else (bif Nat.beq r 12 then 10 else 9999)) else (bif Nat.blt r 14 then (bif Nat.beq r 13 then 11 else 9999) else (bif Nat.blt r 15 then (bif Nat.beq r 14 then 12 else 9999) else (bif Nat.beq r 15 then 13 else 9999)))) else (bif Nat.blt r 19 then (bif Nat.blt r 17 then (bif Nat.beq r 16 then 14 else 9999) else (bif Nat.blt r 18 then (bif Nat.beq r 17 then 15 else 9999) else (bif Nat.beq r 18 then 16 else 9999))) else (bif Nat.blt r 20 then (bif Nat.beq r 19 then 17 else 9999) else (bif Nat.blt r 21 then (bif Nat.beq r 20 then 18 else 9999) else (bif Nat.beq r 21 then 19 else 9999)))))) else 9999
def sOp (r : Nat) : Nat := bif Nat.blt r 22 then (bif Nat.blt r 11 then (bif Nat.blt r 5 then (bif Nat.blt r 2 then (bif Nat.blt r 1 then (bif Nat.beq r 0 then 0 else 9) else (bif Nat.beq r 1 then 1 else 9)) else (bif Nat.blt r 3 then (bif Nat.beq r 2 then 1 else 9) else (bif Nat.blt r 4 then (bif Nat.beq r 3 then 1 else 9) else (bif Nat.beq r 4 then 1 else 9)))) else (bif Nat.blt r 8 then (bif Nat.blt r 6 then (bif Nat.beq r 5 then 0 else 9) else (bif Nat.blt r 7 then (bif Nat.beq r 6 then 0 else 9) else (bif Nat.beq r 7 then 1 else 9))) else (bif Nat.blt r 9 then (bif Nat.beq r 8 then 1 else 9) else (bif Nat.blt r 10 then (bif Nat.beq r 9 then 2 else 9) else (bif Nat.beq r 10 then 2 else 9))))) else (bif Nat.blt r 16 then (bif Nat.blt r 13 then (bif Nat.blt r 12 then (bif Nat.beq r 11 then 0 else 9) else (bif Nat.beq r 12 then 0 else 9)) else (bif Nat.blt r 14 then (bif Nat.beq r 13 then 2 else 9) else (bif Nat.blt r 15 then (bif Nat.beq r 14 then 2 else 9) else (bif Nat.beq r 15 then 2 else 9)))) else (bif Nat.blt r 19 then (bif Nat.blt r 17 then (bif Nat.beq r 16 then 0 else 9) else (bif Nat.blt r 18 then (bif Nat.beq r 17 then 2 else 9) else (bif Nat.beq r 18 then 2 else 9))) else (bif Nat.blt r 20 then (bif Nat.beq r 19 then 2 else 9) else (bif Nat.blt r 21 then (bif Nat.beq r 20 then 2 else 9) else (bif Nat.beq r 21 then 2 else 9)))))) else 9
def sNat (r : Nat) : Nat := bif Nat.blt r 22 then (bif Nat.blt r 11 then (bif Nat.blt r 5 then (bif Nat.blt r 2 then (bif Nat.blt r 1 then (bif Nat.beq r 0 then 0 else 0) else (bif Nat.beq r 1 then 0 else 0)) else (bif Nat.blt r 3 then (bif Nat.beq r 2 then 1 else 0) else (bif Nat.blt r 4 then (bif Nat.beq r 3 then 0 else 0) else (bif Nat.beq r 4 then 1 else 0)))) else (bif Nat.blt r 8 then (bif Nat.blt r 6 then (bif Nat.beq r 5 then 0 else 0) else (bif Nat.blt r 7 then (bif Nat.beq r 6 then 0 else 0) else (bif Nat.beq r 7 then 0 else 0))) else (bif Nat.blt r 9 then (bif Nat.beq r 8 then 1 else 0) else (bif Nat.blt r 10 then (bif Nat.beq r 9 then 0 else 0) else (bif Nat.beq r 10 then 0 else 0))))) else (bif Nat.blt r 16 then (bif Nat.blt r 13 then (bif Nat.blt r 12 then (bif Nat.beq r 11 then 0 else 0) else (bif Nat.beq r 12 then 0 else 0)) else (bif Nat.blt r 14 then (bif Nat.beq r 13 then 0 else 0) else (bif Nat.blt r 15 then (bif Nat.beq r 14 then 0 else 0) else (bif Nat.beq r 15 then 0 else 0)))) else (bif Nat.blt r 19 then (bif Nat.blt r 17 then (bif Nat.beq r 16 then 0 else 0) else (bif Nat.blt r 18 then (bif Nat.beq r 17 then 0 else 0) else (bif Nat.beq r 18 then 0 else 0))) else (bif Nat.blt r 20 then (bif Nat.beq r 19 then 0 else 0) else (bif Nat.blt r 21 then (bif Nat.beq r 20 then 0 else 0) else (bif Nat.beq r 21 then 0 else 0)))))) else 0
def sT (r : Nat) : Nat := bif Nat.blt r 22 then (bif Nat.blt r 11 then (bif Nat.blt r 5 then (bif Nat.blt r 2 then (bif Nat.blt r 1 then (bif Nat.beq r 0 then 9999 else 9999) else (bif Nat.beq r 1 then 0 else 9999)) else (bif Nat.blt r 3 then (bif Nat.beq r 2 then 13 else 9999) else (bif Nat.blt r 4 then (bif Nat.beq r 3 then 1 else 9999) else (bif Nat.beq r 4 then 13 else 9999)))) else (bif Nat.blt r 8 then (bif Nat.blt r 6 then (bif Nat.beq r 5 then 9999 else 9999) else (bif Nat.blt r 7 then (bif Nat.beq r 6 then 9999 else 9999) else (bif Nat.beq r 7 then 2 else 9999))) else (bif Nat.blt r 9 then (bif Nat.beq r 8 then 13 else 9999) else (bif Nat.blt r 10 then (bif Nat.beq r 9 then 0 else 9999) else (bif Nat.beq r 10 then 0 else 9999))))) else (bif Nat.blt r 16 then (bif Nat.blt r 13 then (bif Nat.blt r 12 then (bif Nat.beq r 11 then 9999 else 9999) else (bif Nat.beq r 12 then 9999 else 9999)) else (bif Nat.blt r 14 then (bif Nat.beq r 13 then 0 else 9999) else (bif Nat.blt r 15 then (bif Nat.beq r 14 then 0 else 9999) else (bif Nat.beq r 15 then 0 else 9999)))) else (bif Nat.blt r 19 then (bif Nat.blt r 17 then (bif Nat.beq r 16 then 9999 else 9999) else (bif Nat.blt r 18 then (bif Nat.beq r 17 then 0 else 9999) else (bif Nat.beq r 18 then 0 else 9999))) else (bif Nat.blt r 20 then (bif Nat.beq r 19 then 0 else 9999) else (bif Nat.blt r 21 then (bif Nat.beq r 20 then 0 else 9999) else (bif Nat.beq r 21 then 0 else 9999)))))) else 9999
def nOld : Nat := 3
def oLen (k : Nat) : Nat := bif Nat.blt k 0 then 0 else 0
def cz (pc : Nat) : Bool := (bif Nat.blt pc 77 then (bif Nat.beq pc 63 then true else false) else (bif Nat.blt pc 98 then (bif Nat.beq pc 77 then true else false) else (bif Nat.beq pc 98 then true else false)))
/-! the heap of a run: each cell that the law has made -/
def OV (Z : State) (k : ClassId) (t : Nat) : Prop := match acomp t with
  | none => True
  | some C => ∃ (kk : Class) (comp : ClassId) (ty : FieldType), Z.vm.classes[k]? = some kk ∧ kk.kind = .array comp ty ∧ Z.vm.findClass C = some comp
def RC (Z : State) (w : Wl) (h : Heap) (a : Addr) (c : Nat × List Term) : Prop :=
  Exa Z h a (cname c.1) ∧ match aty c.1 with
    | none => ∀ i v, c.2[i]? = some v → Fld Z h a (fO c.1 i) (fN c.1 i) (fD c.1 i) (cv w v)
    | some ty => ∃ cl : Cell, Arr Z h a cl ty ∧ cl.slots.toList = c.2.map (cv w) ∧ (∀ v ∈ c.2, fits ty (cv w v) = true) ∧ OV Z cl.cls c.1
abbrev AH := List (Nat × List Term)
def Rep (Z : State) (w : Wl) (h : Heap) (H : AH) : Prop := Z.heap.size = w.1 ∧ Ext Z.heap h ∧ h.size = w.1 + H.length ∧ ∀ i c, H[i]? = some c → RC Z w h (w.1 + i) c
theorem RC.ext {Z : State} {w : Wl} {h h' : Heap} {a : Addr} {c : Nat × List Term} (E : Ext h h') (F : RC Z w h a c) : RC Z w h' a c := by
  obtain ⟨t, vs⟩ := c
  refine ⟨F.1.ext E, ?_⟩
  have F2 := F.2
  revert F2
  cases aty t with
  | none => exact fun F2 i v hv => (F2 i v hv).ext E
  | some ty => exact fun ⟨cl, A, r⟩ => ⟨cl, A.ext E, r⟩
theorem RC.other {Z : State} {w : Wl} {h h' : Heap} {a b : Addr} {sl : Nat} {x : Value} {c : Nat × List Term} (W : Wr h h' b sl x) (ne : a ≠ b) (F : RC Z w h a c) : RC Z w h' a c := by
  obtain ⟨t, vs⟩ := c
  refine ⟨F.1.wr W, ?_⟩
  have F2 := F.2
  revert F2
  cases aty t with
  | none => exact fun F2 i v hv => (F2 i v hv).other W (Or.inl ne)
  | some ty => exact fun ⟨cl, A, r⟩ => ⟨cl, A.other W ne, r⟩
theorem RC.keep {Z : State} {w : Wl} {h h' : Heap} {a : Addr} {ws : List Addr} {c : Nat × List Term} (K : Keep h h' ws) (ne : a ∉ ws) (F : RC Z w h a c) : RC Z w h' a c := by
  obtain ⟨t, vs⟩ := c
  refine ⟨F.1.keep K, ?_⟩
  have F2 := F.2
  revert F2
  cases aty t with
  | none => exact fun F2 i v hv => (F2 i v hv).keep K ne
  | some ty => exact fun ⟨cl, A, r⟩ => ⟨cl, ⟨K.2.1 a cl A.1 ne, A.2⟩, r⟩
theorem get_app {H : AH} {c : Nat × List Term} {i : Nat} {d : Nat × List Term} (h : (H ++ [c])[i]? = some d) : H[i]? = some d ∨ (i = H.length ∧ d = c) := by
  by_cases q : i < H.length
  · rw [List.getElem?_append_left q] at h; exact Or.inl h
  · rw [List.getElem?_append_right (Nat.le_of_not_lt q)] at h
    have : i - H.length = 0 := by
      cases hk : i - H.length with
      | zero => rfl
      | succ k => rw [hk] at h; simp at h
    rw [this] at h
    exact Or.inr ⟨by omega, (Option.some.inj h).symm⟩
theorem get_set {H : AH} {a : Nat} {c d : Nat × List Term} {i : Nat} (h : (H.set a c)[i]? = some d) : (i ≠ a ∧ H[i]? = some d) ∨ (i = a ∧ d = c) := by
  by_cases q : a = i
  · subst q
    rw [List.getElem?_set_self'] at h
    cases hk : H[a]? with
    | none => simp [hk] at h
    | some x => simp [hk] at h; exact Or.inr ⟨rfl, h.symm⟩
  · rw [List.getElem?_set_ne q] at h; exact Or.inl ⟨Ne.symm q, h⟩
theorem Rep.push {Z : State} {w : Wl} {h h' : Heap} {H : AH} {c : Nat × List Term} (R : Rep Z w h H) (E : Ext h h') (hs : h'.size = h.size + 1) (F : RC Z w h' h.size c) : Rep Z w h' (H ++ [c]) := by
  refine ⟨R.1, ⟨Nat.le_trans R.2.1.1 E.1, fun a cl q => E.2 _ _ (R.2.1.2 _ _ q)⟩, by rw [hs, R.2.2.1]; simp; omega, fun i d hd => ?_⟩
  rcases get_app hd with q | ⟨rfl, rfl⟩
  · exact (R.2.2.2 i d q).ext E
  · rw [← R.2.2.1]; exact F
theorem Rep.old_keep {Z : State} {w : Wl} {h h' : Heap} {H : AH} {ws : List Addr} (R : Rep Z w h H) (K : Keep h h' ws) (q : ∀ x ∈ ws, w.1 ≤ x) : Ext Z.heap h' := (Old.keep (Z := Z) (n0 := w.1) ⟨R.1, R.2.1⟩ K q).2
theorem Rep.wr {Z : State} {w : Wl} {h h' : Heap} {H : AH} {a sl : Nat} {x : Value} {c : Nat × List Term} (R : Rep Z w h H) (ha : a < H.length) (W : Wr h h' (w.1 + a) sl x) (F : RC Z w h' (w.1 + a) c) : Rep Z w h' (H.set a c) := by
  refine ⟨R.1, R.old_keep (Keep.of_wr W) (fun y hy => by cases List.mem_singleton.mp hy; omega), by rw [W.size, R.2.2.1]; simp, fun i d hd => ?_⟩
  rcases get_set hd with ⟨q, r⟩ | ⟨rfl, rfl⟩
  · exact (R.2.2.2 i d r).other W (fun e => q (Nat.add_left_cancel e))
  · exact F
theorem Rep.keep {Z : State} {w : Wl} {h h' : Heap} {H : AH} {a : Nat} {c : Nat × List Term} (R : Rep Z w h H) (ha : a < H.length) (K : Keep h h' [w.1 + a]) (hs : h'.size = h.size) (F : RC Z w h' (w.1 + a) c) : Rep Z w h' (H.set a c) := by
  refine ⟨R.1, R.old_keep K (fun y hy => by cases List.mem_singleton.mp hy; omega), by rw [hs, R.2.2.1]; simp, fun i d hd => ?_⟩
  rcases get_set hd with ⟨q, r⟩ | ⟨rfl, rfl⟩
  · exact (R.2.2.2 i d r).keep K (ninS (fun e => q (Nat.add_left_cancel e)) nin0)
  · exact F
theorem RC.arr {Z : State} {w : Wl} {h : Heap} {a : Addr} {t : Nat} {vs : List Term} {ty : FieldType} (F : RC Z w h a (t, vs)) (ht : aty t = some ty) : ∃ cl : Cell, Arr Z h a cl ty ∧ cl.slots.toList = vs.map (cv w) ∧ (∀ v ∈ vs, fits ty (cv w v) = true) ∧ OV Z cl.cls t := by
  have F2 := F.2
  simp only [ht] at F2
  exact F2
theorem RC.of_arr {Z : State} {w : Wl} {h : Heap} {a : Addr} {t : Nat} {vs : List Term} {ty : FieldType} (E : Exa Z h a (cname t)) (ht : aty t = some ty) (F : ∃ cl : Cell, Arr Z h a cl ty ∧ cl.slots.toList = vs.map (cv w) ∧ (∀ v ∈ vs, fits ty (cv w v) = true) ∧ OV Z cl.cls t) : RC Z w h a (t, vs) := by
  refine ⟨E, ?_⟩
  simp only [ht]
  exact F
theorem RC.fld {Z : State} {w : Wl} {h : Heap} {a : Addr} {t : Nat} {vs : List Term} (F : RC Z w h a (t, vs)) (ht : aty t = none) {i : Nat} {v : Term} (hv : vs[i]? = some v) : Fld Z h a (fO t i) (fN t i) (fD t i) (cv w v) := by
  have F2 := F.2
  simp only [ht] at F2
  exact F2 i v hv
theorem slots_len {cl : Cell} {w : Wl} {vs : List Term} (h : cl.slots.toList = vs.map (cv w)) : cl.slots.size = vs.length := by
  have := congrArg List.length h; simpa using this
theorem slots_get {cl : Cell} {w : Wl} {vs : List Term} (h : cl.slots.toList = vs.map (cv w)) {i : Nat} {v : Term} (hv : vs[i]? = some v) : cl.slots[i]? = some (cv w v) := by
  rw [← Array.getElem?_toList, h]; simp [hv]
theorem slots_set {cl : Cell} {w : Wl} {vs : List Term} (h : cl.slots.toList = vs.map (cv w)) {i : Nat} {v : Term} : (cl.setSlot i (cv w v)).slots.toList = (vs.set i v).map (cv w) := by
  simp [Cell.setSlot, h, List.map_set]
/-- an index into a list of that length -/
def inB (k : Int32) (n : Nat) : Bool := !decide (k < 0) && Nat.blt k.toNatClampNeg n
theorem inB_ok {k : Int32} {n m : Nat} (h : inB k n = true) (e : m = n) : ¬ (k < 0 ∨ m ≤ k.toNatClampNeg) := by
  subst e
  simp only [inB, Bool.and_eq_true, Bool.not_eq_true', decide_eq_false_iff_not] at h
  have := h.2
  rw [Nat.blt_eq] at this
  exact fun z => z.elim h.1 fun y => Nat.not_le.mpr this y
/-! one step -/
abbrev Nd := Option (Bool × Term × Term)
abbrev St := Nat × List (Option Term) × List Term × AH × Nat × Nat
abbrev Rs := Sum Nd St
def Nx (Z : State) (w : Wl) (p : Program) (l : Launch) (e : Env) (R : Room) (s : State) (m : MethodId) (args : Array Value) (below : List Frame) (meth : Method) (c : Code) (T : State) (cells slots pc : Nat) (Ls : List (Option Term)) (S : List Term) (st : St) : Prop :=
  ∃ (T' : State) (locs' : List Loc), Stand p l e R s m args below meth c T' locs' (cells + st.2.2.2.2.1) (slots + st.2.2.2.2.2) ∧ Fr w.1 locs' ∧ Rep Z w T'.heap st.2.2.2.1 ∧ T'.heap.size = s.heap.size + (cells + st.2.2.2.2.1) ∧
    ∀ t, Steps p.tables e below (T'.setTop (mkF m st.1 (cL w st.2.1) (st.2.2.1.map (cv w)))) t → Steps p.tables e below (T.setTop (mkF m pc (cL w Ls) (S.map (cv w)))) t
section Step
variable {Z : State} {w : Wl} {a0 : Array Value} {A : List Asm} {p : Program} {l : Launch} {e : Env} {R : Room} {s : State} {m : MethodId} {args : Array Value} {below : List Frame} {meth : Method} {c : Code} {T : State} {locs : List Loc} {cells slots : Nat} {pc k r : Nat} {Ls : List (Option Term)} {S : List Term} {H : AH} {st : St}
theorem Nx.plain (X : Stand p l e R s m args below meth c T locs cells slots) (hN : Fr w.1 locs) (hR : Rep Z w T.heap H) (hsz : T.heap.size = s.heap.size + cells) {pc' : Nat} {Ls' : List (Option Term)} {S' : List Term}
    (h : ∀ t, Steps p.tables e below (T.setTop (mkF m pc' (cL w Ls') (S'.map (cv w)))) t → Steps p.tables e below (T.setTop (mkF m pc (cL w Ls) (S.map (cv w)))) t) : Nx Z w p l e R s m args below meth c T cells slots pc Ls S (pc', Ls', S', H, 0, 0) :=
  ⟨T, locs, X, hN, hR, hsz, h⟩
-- loads
def sLdI (A : List Asm) (pc k : Nat) (Ls : List (Option Term)) (S : List Term) (H : AH) : Rs := match Ls[k]? with
  | some (some t) => bif isI t then .inr (pc, Ls, nr A t :: S, H, 0, 0) else .inl none
  | _ => .inl none
def sLdR (pc k : Nat) (Ls : List (Option Term)) (S : List Term) (H : AH) : Rs := match Ls[k]? with
  | some (some t) => bif isR t then .inr (pc, Ls, t :: S, H, 0, 0) else .inl none
  | _ => .inl none
theorem sLdI_ok {pc' : Nat} (h : sLdI A pc' k Ls S H = .inr st) : ∃ t, Ls[k]? = some (some t) ∧ isI t = true ∧ st = (pc', Ls, nr A t :: S, H, 0, 0) := by
  unfold sLdI at h
  split at h
  · rename_i t ht
    cases hi : isI t <;> simp [hi] at h
    exact ⟨t, ht, hi, h.symm⟩
  · cases h
theorem sLdR_ok {pc' : Nat} (h : sLdR pc' k Ls S H = .inr st) : ∃ t, Ls[k]? = some (some t) ∧ isR t = true ∧ st = (pc', Ls, t :: S, H, 0, 0) := by
  unfold sLdR at h
  split at h
  · rename_i t ht
    cases hi : isR t <;> simp [hi] at h
    exact ⟨t, ht, hi, h.symm⟩
  · cases h
def sLdL (pc k : Nat) (Ls : List (Option Term)) (S : List Term) (H : AH) : Rs := match Ls[k]? with
  | some (some t) => bif isL t then .inr (pc, Ls, t :: S, H, 0, 0) else .inl none
  | _ => .inl none
theorem sLdL_ok {pc' : Nat} (h : sLdL pc' k Ls S H = .inr st) : ∃ t, Ls[k]? = some (some t) ∧ isL t = true ∧ st = (pc', Ls, t :: S, H, 0, 0) := by
  unfold sLdL at h
  split at h
  · rename_i t ht
    cases hi : isL t <;> simp [hi] at h
    exact ⟨t, ht, hi, h.symm⟩
  · cases h
-- stores
def sSt (q : Term → Bool) (pc k : Nat) (Ls : List (Option Term)) (S : List Term) (H : AH) : Rs := match S with
  | t :: S' => match Ls[k]? with
    | some o => bif q t && ow o then .inr (pc, Ls.set k (some t), S', H, 0, 0) else .inl none
    | none => .inl none
  | [] => .inl none
theorem sSt_ok {q : Term → Bool} {pc' : Nat} (h : sSt q pc' k Ls S H = .inr st) : ∃ t S' o, S = t :: S' ∧ Ls[k]? = some o ∧ q t = true ∧ ow o = true ∧ st = (pc', Ls.set k (some t), S', H, 0, 0) := by
  unfold sSt at h
  split at h
  · rename_i t S'
    split at h
    · rename_i o ho
      cases hi : (q t && ow o) <;> simp [hi] at h
      simp only [Bool.and_eq_true] at hi
      exact ⟨t, S', o, rfl, ho, hi.1, hi.2, h.symm⟩
    · cases h
  · cases h
/-- two ints off the stack, one on it -/
def sBin (A : List Asm) (f : Term → Term → Term) (pc : Nat) (Ls : List (Option Term)) (S : List Term) (H : AH) : Rs := match S with
  | b :: a :: S' => bif isI a && isI b then .inr (pc, Ls, nr A (f a b) :: S', H, 0, 0) else .inl none
  | _ => .inl none
theorem sBin_ok {f : Term → Term → Term} {pc' : Nat} (h : sBin A f pc' Ls S H = .inr st) : ∃ a b S', S = b :: a :: S' ∧ isI a = true ∧ isI b = true ∧ st = (pc', Ls, nr A (f a b) :: S', H, 0, 0) := by
  unfold sBin at h
  split at h
  · rename_i b a S'
    cases hi : (isI a && isI b) <;> simp [hi] at h
    simp only [Bool.and_eq_true] at hi
    exact ⟨a, b, S', rfl, hi.1, hi.2, h.symm⟩
  · cases h
/-- the same by a divisor that is known and not 0 -/
def sDiv (A : List Asm) (f : Term → Term → Term) (pc : Nat) (Ls : List (Option Term)) (S : List Term) (H : AH) : Rs := match S with
  | .int k :: a :: S' => bif isI a && !decide (k = 0) then .inr (pc, Ls, nr A (f a (.int k)) :: S', H, 0, 0) else .inl none
  | _ => .inl none
theorem sDiv_ok {f : Term → Term → Term} {pc' : Nat} (h : sDiv A f pc' Ls S H = .inr st) : ∃ a k S', S = .int k :: a :: S' ∧ isI a = true ∧ ¬ k = 0 ∧ st = (pc', Ls, nr A (f a (.int k)) :: S', H, 0, 0) := by
  unfold sDiv at h
  split at h
  · rename_i k a S'
    cases hi : (isI a && !decide (k = 0)) <;> simp [hi] at h
    simp only [Bool.and_eq_true, Bool.not_eq_true', decide_eq_false_iff_not] at hi
    exact ⟨a, k, S', rfl, hi.1, hi.2, h.symm⟩
  · cases h
def sUn (A : List Asm) (f : Term → Term) (pc : Nat) (Ls : List (Option Term)) (S : List Term) (H : AH) : Rs := match S with
  | a :: S' => bif isI a then .inr (pc, Ls, nr A (f a) :: S', H, 0, 0) else .inl none
  | _ => .inl none
theorem sUn_ok {f : Term → Term} {pc' : Nat} (h : sUn A f pc' Ls S H = .inr st) : ∃ a S', S = a :: S' ∧ isI a = true ∧ st = (pc', Ls, nr A (f a) :: S', H, 0, 0) := by
  unfold sUn at h
  split at h
  · rename_i a S'
    cases hi : isI a <;> simp [hi] at h
    exact ⟨a, S', rfl, hi, h.symm⟩
  · cases h
end Step

/-- the length of an instruction, as the run expects it -/
def ilen : Instr → Nat
  | .iload _ | .aload _ | .lload _ | .istore _ | .astore _ | .bipush _ | .ldc _ | .newarray _ => 2
  | .lookupswitch _ _ => 59
  | .ldc_w _ | .sipush _ | .iinc _ _ | .goto _ | .ifCond _ _ | .if_icmp _ _ | .if_acmp _ _ | .ifnull _ | .ifnonnull _ | .getfield _ | .putfield _ | .getstatic _ | .new _ | .anewarray _ | .checkcast _ | .invokestatic _ | .invokespecial _ | .invokevirtual _ => 3
  | .multianewarray _ _ => 4
  | _ => 1
-- conditions
def cq : ClassFile.Cond → Bool × Bool × Bool
  | .eq => (false, false, false)
  | .ne => (false, false, true)
  | .lt => (true, false, false)
  | .ge => (true, false, true)
  | .gt => (true, true, false)
  | .le => (true, true, true)
def sw (q : Bool) (a b : Term) : Term × Term := bif q then (b, a) else (a, b)
theorem holds_rel {σ : Un} (cd : ClassFile.Cond) (a b : Term) : if_icmp.holds cd (tv σ a) (tv σ b) = (rel σ (cq cd).1 (sw (cq cd).2.1 a b).1 (sw (cq cd).2.1 a b).2 != (cq cd).2.2) := by
  cases cd
  · by_cases h : tv σ a = tv σ b
    · rw [(teq h).1]; simp [rel, cq, sw, h]
    · rw [(feq h).1]; simp [rel, cq, sw, h]
  · by_cases h : tv σ a = tv σ b
    · rw [(teq h).2]; simp [rel, cq, sw, h]
    · rw [(feq h).2]; simp [rel, cq, sw, h]
  · by_cases h : tv σ a < tv σ b
    · simp [(tlt h).1, rel, cq, sw, h]
    · simp [(flt h).1, rel, cq, sw, h]
  · by_cases h : tv σ a < tv σ b
    · simp [(tlt h).2.1, rel, cq, sw, h]
    · simp [(flt h).2.1, rel, cq, sw, h]
  · by_cases h : tv σ b < tv σ a
    · simp [(tlt h).2.2.1, rel, cq, sw, h]
    · simp [(flt h).2.2.1, rel, cq, sw, h]
  · by_cases h : tv σ b < tv σ a
    · simp [(tlt h).2.2.2, rel, cq, sw, h]
    · simp [(flt h).2.2.2, rel, cq, sw, h]
def dop (q ng : Bool) : Binary := bif q then (bif ng then .fcmpg else .dcmpg) else (bif ng then .fcmpl else .dcmpl)
theorem dop_ok {σ : Un} {q ng : Bool} {a b : Term} : b2 (dop q ng) (tv σ a) (tv σ b) = if (rel σ q a b != ng) = true then 0 else 1 := by
  cases q <;> cases ng <;> simp only [dop, cond_true, cond_false, b2, rel]
  · by_cases h : tv σ a = tv σ b <;> simp [h]
  · by_cases h : tv σ a = tv σ b <;> simp [h]
  · by_cases h : tv σ a < tv σ b <;> simp [h]
  · by_cases h : tv σ a < tv σ b <;> simp [h]
/-- a boolean is made of a branch: 'c ? 0 : 1' as javac writes it -/
def dia (mi pc : Nat) (o : Int) : Bool := decide (o = 7) &&
  ((match ins mi (pc + 3) with | some (.iconst i, n, _) => decide (i = 1) && Nat.beq n 1 | _ => false) &&
  ((match ins mi (pc + 4) with | some (.goto i, n, _) => decide (i = 4) && Nat.beq n 3 | _ => false) &&
  (match ins mi (pc + 7) with | some (.iconst i, n, _) => decide (i = 0) && Nat.beq n 1 | _ => false)))
def sBr (A : List Asm) (mi pc : Nat) (q ng : Bool) (a b : Term) (o : Int) (Ls : List (Option Term)) (S : List Term) (H : AH) : Rs := match dcd A q a b with
  | some r => bif r != ng then (bif decide (0 ≤ (pc : Int) + o) then .inr (((pc : Int) + o).toNat, Ls, S, H, 0, 0) else .inl none) else .inr (pc + 3, Ls, S, H, 0, 0)
  | none => bif dia mi pc o then .inr (pc + 8, Ls, m2 (dop q ng) a b :: S, H, 0, 0) else .inl (some (q, a, b))
-- references
def rcmpN (nO : Nat) (a b : Term) : Option Bool := match a with
  | .null => match b with
    | .null => some true
    | .index _ | .string _ _ => some false
    | _ => none
  | .index i => match b with
    | .null => some false
    | .index j => some (Nat.beq i j)
    | .string _ k => bif Nat.blt k nO then some false else none
    | _ => none
  | .string _ k => match b with
    | .null => some false
    | .index _ => bif Nat.blt k nO then some false else none
    | .string _ k' => bif Nat.blt k nO && Nat.blt k' nO then some (Nat.beq k k') else none
    | _ => none
  | _ => none
def rcmp (a b : Term) : Option Bool := rcmpN nOld a b
/-- the old objects: unlike one another, and older than the law -/
def WoldN (nO : Nat) (w : Wl) : Prop := (∀ k, k < nO → w.2.2.1 k < w.1) ∧ ∀ k k', k < nO → k' < nO → w.2.2.1 k = w.2.2.1 k' → k = k'
def Wold (w : Wl) : Prop := WoldN nOld w
theorem beqN {i j : Nat} : Nat.beq i j = decide (i = j) := by
  by_cases h : i = j
  · subst h; simp
  · simp [h]; exact Bool.eq_false_iff.mpr (fun q => h (Nat.eq_of_beq_eq_true q))
theorem rcmpN_ok {nO : Nat} {w : Wl} (hw : WoldN nO w) {a b : Term} {r : Bool} (h : rcmpN nO a b = some r) : decide (cv w a = cv w b) = r := by
  cases a <;> simp only [rcmpN] at h <;> first | (cases h; done) | skip
  case null =>
    cases b <;> simp only at h <;> first | (cases h; done) | skip
    all_goals (cases h; simp [cv])
  case index i =>
    cases b <;> simp only at h <;> first | (cases h; done) | skip
    case null => cases h; simp [cv]
    case index j =>
      rw [beqN] at h; simp only [Option.some.injEq] at h; subst h
      by_cases q : i = j
      · subst q; simp
      · simp [cv, q]
    case string cc k =>
      cases q : Nat.blt k nO <;> simp [q] at h
      subst h
      rw [Nat.blt_eq] at q
      have := hw.1 k q
      simp only [cv, decide_eq_false_iff_not, Value.ref.injEq]
      exact fun y => Nat.not_lt.mpr (Nat.le_add_right w.1 i) (y ▸ this)
  case string cc k =>
    cases b <;> simp only at h <;> first | (cases h; done) | skip
    case null => cases h; simp [cv]
    case index j =>
      cases q : Nat.blt k nO <;> simp [q] at h
      subst h
      rw [Nat.blt_eq] at q
      have := hw.1 k q
      simp only [cv, decide_eq_false_iff_not, Value.ref.injEq]
      exact fun y => Nat.not_lt.mpr (Nat.le_add_right w.1 j) (y ▸ this)
    case string cc' k' =>
      cases q : (Nat.blt k nO && Nat.blt k' nO) <;> simp [q] at h
      rw [beqN] at h; subst h
      simp only [Bool.and_eq_true, Nat.blt_eq] at q
      by_cases z : k = k'
      · subst z; simp [cv]
      · simp only [z, decide_false, decide_eq_false_iff_not, cv, Value.ref.injEq]
        exact fun y => z (hw.2 k k' q.1 q.2 y)
theorem rcmp_ok {w : Wl} (hw : Wold w) {a b : Term} {r : Bool} (h : rcmp a b = some r) : decide (cv w a = cv w b) = r := rcmpN_ok hw h
def sAc (pc : Nat) (cd : ACond) (o : Int) (Ls : List (Option Term)) (S : List Term) (H : AH) : Rs := match S with
  | b :: a :: S' => bif isR a && isR b then (match rcmp a b with
    | some r => bif acV cd r then (bif decide (0 ≤ (pc : Int) + o) then .inr (((pc : Int) + o).toNat, Ls, S', H, 0, 0) else .inl none) else (bif decide (0 ≤ (pc : Int) + o) then .inr (pc + 3, Ls, S', H, 0, 0) else .inl none)
    | none => .inl none) else .inl none
  | _ => .inl none
def nul : Term → Option Bool
  | .null => some true
  | .index _ | .string _ _ => some false
  | _ => none
theorem nul_ok {w : Wl} {t : Term} {r : Bool} (h : nul t = some r) : decide (cv w t = .null) = r ∧ isR t = true := by
  cases t <;> simp [nul] at h <;> subst h <;> simp [cv, isR]
/-- ifnull (yes = true) or ifnonnull -/
def sNul (yes : Bool) (pc : Nat) (o : Int) (Ls : List (Option Term)) (S : List Term) (H : AH) : Rs := match S with
  | t :: S' => match nul t with
    | some r => bif r == yes then (bif decide (0 ≤ (pc : Int) + o) then .inr (((pc : Int) + o).toNat, Ls, S', H, 0, 0) else .inl none) else .inr (pc + 3, Ls, S', H, 0, 0)
    | none => .inl none
  | _ => .inl none
-- fields
def sGetF (A : List Asm) (mi pc k r : Nat) (Ls : List (Option Term)) (S : List Term) (H : AH) : Rs := match S with
  | .index a :: S' => bif Nat.blt r nLF && (Nat.beq (lfI r) k && Nat.beq (lfK r) (mK mi)) then (match H[a]? with
    | some (t, vs) => bif Nat.beq t (lfT r) && isO t then (match vs[lfP r]? with
      | some v => .inr (pc + 3, Ls, (bif isI v then nr A v else v) :: S', H, 0, 0)
      | none => .inl none) else .inl none
    | none => .inl none) else .inl none
  | _ => .inl none
def fitK (kd : Nat) (v : Term) : Bool := match kd with
  | 0 => isI v
  | 1 => isR v
  | 3 => isL v
  | _ => isI v && (match rg v with | some u => Nat.ble u 1 | none => false)
def sPutF (mi pc k r : Nat) (Ls : List (Option Term)) (S : List Term) (H : AH) : Rs := match S with
  | v :: .index a :: S' => bif Nat.blt r nLF && (Nat.beq (lfI r) k && Nat.beq (lfK r) (mK mi)) then (match H[a]? with
    | some (t, vs) => bif Nat.beq t (lfT r) && (isO t && (Nat.blt (lfP r) vs.length && (Nat.beq vs.length (nfl t) && (fitK (fK t (lfP r)) v && (!fFin t (lfP r) || (mInit mi && Nat.beq (mK mi) (fOk t (lfP r)))))))) then .inr (pc + 3, Ls, S', H.set a (t, vs.set (lfP r) v), 0, 0) else .inl none
    | none => .inl none) else .inl none
  | _ => .inl none
-- arrays
def sALoad (A : List Asm) (q : FieldType → Bool) (pc : Nat) (Ls : List (Option Term)) (S : List Term) (H : AH) : Rs := match S with
  | .int j :: .index a :: S' => match H[a]? with
    | some (t, vs) => match aty t with
      | some ty => bif q ty && inB j vs.length then (match vs[j.toNatClampNeg]? with
        | some v => .inr (pc + 1, Ls, (bif isI v then nr A v else v) :: S', H, 0, 0)
        | none => .inl none) else .inl none
      | none => .inl none
    | none => .inl none
  | _ => .inl none
def sAStore (q : FieldType → Bool) (f : Term → Option Term) (pc : Nat) (Ls : List (Option Term)) (S : List Term) (H : AH) : Rs := match S with
  | v :: .int j :: .index a :: S' => match H[a]? with
    | some (t, vs) => match aty t with
      | some ty => bif q ty && inB j vs.length then (match f v with
        | some v' => .inr (pc + 1, Ls, S', H.set a (t, vs.set j.toNatClampNeg v'), 0, 0)
        | none => .inl none) else .inl none
      | none => .inl none
    | none => .inl none
  | _ => .inl none
def sRStore (pc : Nat) (Ls : List (Option Term)) (S : List Term) (H : AH) : Rs := match S with
  | v :: .int j :: .index a :: S' => match H[a]? with
    | some (t, vs) => match aty t with
      | some ty => bif ty.isReference && (inB j vs.length && (hasC t && (match v with
          | .null => true
          | .index b => match H[b]? with
            | some (tb, _) => Nat.beq tb (acT t)
            | none => false
          | _ => false))) then .inr (pc + 1, Ls, S', H.set a (t, vs.set j.toNatClampNeg v), 0, 0) else .inl none
      | none => .inl none
    | none => .inl none
  | _ => .inl none
def sLen (pc : Nat) (Ls : List (Option Term)) (S : List Term) (H : AH) : Rs := match S with
  | .index a :: S' => match H[a]? with
    | some (t, vs) => match aty t with
      | some _ => .inr (pc + 1, Ls, .int vs.length.toInt32 :: S', H, 0, 0)
      | none => .inl none
    | none => .inl none
  | _ => .inl none
def dT (kd : Nat) : Term := match kd with
  | 1 => .null
  | 3 => .long 0
  | _ => .int 0
def sNew (mi pc k r : Nat) (Ls : List (Option Term)) (S : List Term) (H : AH) : Rs :=
  bif Nat.blt r nLC && (Nat.beq (lcI r) k && (Nat.beq (lcK r) (mK mi) && isO (lcT r))) then .inr (pc + 3, Ls, .index H.length :: S, H ++ [(lcT r, (List.range (nfl (lcT r))).map fun i => dT (fK (lcT r) i))], 1, csl (lcT r)) else .inl none
def sNewP (pc r : Nat) (ty : ArrayType) (Ls : List (Option Term)) (S : List Term) (H : AH) : Rs := match S with
  | .int n :: S' => bif decide (aty r = some (newarray.typeOf ty)) && (!decide (n < 0) && (Nat.ble n.toNatClampNeg 100000 && isP r)) then .inr (pc + 2, Ls, .index H.length :: S', H ++ [(r, List.replicate n.toNatClampNeg (.int 0))], 1, n.toNatClampNeg) else .inl none
  | _ => .inl none
/-- newarray of longs -/
def sNewJ (pc r : Nat) (ty : ArrayType) (Ls : List (Option Term)) (S : List Term) (H : AH) : Rs := match S with
  | .int n :: S' => bif decide (newarray.typeOf ty = .long) && (isJ r && (!decide (n < 0) && Nat.ble n.toNatClampNeg 100000)) then .inr (pc + 2, Ls, .index H.length :: S', H ++ [(r, List.replicate n.toNatClampNeg (.long 0))], 1, n.toNatClampNeg) else .inl none
  | _ => .inl none
/-- a byte of the table of eight, by an index that is not known -/
def tabL : List Term → Bool
  | [.int a, .int b, .int c, .int d, .int e, .int f, .int g, .int h] => decide (a = 32) && (decide (b = 9) && (decide (c = 13) && (decide (d = 10) && (decide (e = 123) && (decide (f = 125) && (decide (g = 11) && decide (h = -30)))))))
  | _ => false
def sTab (A : List Asm) (pc : Nat) (Ls : List (Option Term)) (S : List Term) (H : AH) : Rs := match S with
  | j :: .index a :: S' => match H[a]? with
    | some (t, vs) => bif isI j && (decide (aty t = some .byte) && (tabL vs && (match rg j with | some u => Nat.ble u 7 | none => false))) then .inr (pc + 1, Ls, nr A (.op2 .frem j (.int 0)) :: S', H, 0, 0) else .inl none
    | none => .inl none
  | _ => .inl none
/-- 'c == 32 || c == 9 || c == 13' as javac writes it, of a local -/
def blD (mi pc : Nat) : Option (Nat × Int) := match ins mi (pc + 3) with
  | some (.iload_n k, n1, _) => match ins mi (pc + 4) with
    | some (.bipush x, n2, _) => match ins mi (pc + 6) with
      | some (.if_icmp c1 o1, n3, _) => match ins mi (pc + 9) with
        | some (.iload_n k', n4, _) => match ins mi (pc + 10) with
          | some (.bipush y, n5, _) => match ins mi (pc + 12) with
            | some (.if_icmp c2 o2, n6, _) => bif (decide (x = 9) && (decide (c1 = .eq) && (decide (o1 = 9) && (decide (k' = k) && (decide (y = 13) && (decide (c2 = .ne) && decide (0 ≤ ((pc + 12 : Nat) : Int) + o2))))))) && (Nat.beq n1 1 && (Nat.beq n2 2 && (Nat.beq n3 3 && (Nat.beq n4 1 && (Nat.beq n5 2 && Nat.beq n6 3))))) then some (k.val, o2) else none
            | _ => none
          | _ => none
        | _ => none
      | _ => none
    | _ => none
  | _ => none
def sBl (A : List Asm) (mi pc : Nat) (cd : ClassFile.Cond) (o : Int) (a b : Term) (Ls : List (Option Term)) (S' : List Term) (H : AH) : Rs := match a, b with
  | .op2 .frem x y, .int k => bif decide (cd = .eq) && (decide (o = 15) && decide (k = 32)) then (match blD mi pc with
    | some (i, o2) => match Ls[i]? with
      | some (some t) => bif isI t && tEq t (.op2 .frem x y) then (match look A false (.op2 .lcmp (.op2 .frem x y) (.int 0)) (.int 1) with
        | some true => .inr (pc + 15, Ls, S', H, 0, 0)
        | some false => .inr ((((pc + 12 : Nat) : Int) + o2).toNat, Ls, S', H, 0, 0)
        | none => .inl (some (false, .op2 .lcmp (.op2 .frem x y) (.int 0), .int 1))) else .inl none
      | _ => .inl none
    | none => .inl none) else .inl none
  | _, _ => .inl none
def cmp64 (x y : Int64) : Int32 := Jvm.Free.XT.cmpL x y
/-- anewarray: r's tag is that of the new array; its component's class is linked -/
def sNewR (mi pc k r : Nat) (Ls : List (Option Term)) (S : List Term) (H : AH) : Rs := match S with
  | .int n :: S' => bif Nat.blt r nLC && (Nat.beq (lcI r) k && (Nat.beq (lcK r) (mK mi) && (hasC (arrT (lcT r)) && (Nat.beq (acT (arrT (lcT r))) (lcT r) && (!decide (n < 0) && Nat.ble n.toNatClampNeg 100000))))) then .inr (pc + 3, Ls, .index H.length :: S', H ++ [(arrT (lcT r), List.replicate n.toNatClampNeg .null)], 1, n.toNatClampNeg) else .inl none
  | _ => .inl none
/-- multianewarray of two dimensions -/
def sGrid (mi pc k r : Nat) (Ls : List (Option Term)) (S : List Term) (H : AH) : Rs := match S with
  | .int q :: .int n :: S' => bif Nat.blt r nLC && (Nat.beq (lcI r) k && (Nat.beq (lcK r) (mK mi) && (hasC (lcT r) && (Nat.beq (arrT (acT (lcT r))) (lcT r) && (isP (acT (lcT r)) && (!decide (n < 0) && (!decide (q < 0) && (Nat.ble q.toNatClampNeg 100000 && Nat.ble n.toNatClampNeg 100)))))))) then
      .inr (pc + 4, Ls, .index H.length :: S', (H ++ [(lcT r, (List.range n.toNatClampNeg).map fun j => .index (H.length + 1 + j))]) ++ List.replicate n.toNatClampNeg (acT (lcT r), List.replicate q.toNatClampNeg (.int 0)), 1 + n.toNatClampNeg, n.toNatClampNeg + n.toNatClampNeg * q.toNatClampNeg) else .inl none
  | _ => .inl none
def sCast (mi pc k r : Nat) (Ls : List (Option Term)) (S : List Term) (H : AH) : Rs := match S with
  | .null :: S' => .inr (pc + 3, Ls, .null :: S', H, 0, 0)
  | .index a :: S' => match H[a]? with
    | some (t, _) => bif Nat.blt r nLC && (Nat.beq (lcI r) k && (Nat.beq (lcK r) (mK mi) && Nat.beq (lcT r) t)) then .inr (pc + 3, Ls, .index a :: S', H, 0, 0) else .inl none
    | none => .inl none
  | _ => .inl none
def sLdc (mi pc n k r : Nat) (Ls : List (Option Term)) (S : List Term) (H : AH) : Rs :=
  bif Nat.blt r nLK && (Nat.beq (lkI r) k && Nat.beq (lkK r) (mK mi)) then .inr (pc + n, Ls, .int (lkV r) :: S, H, 0, 0) else .inl none
def sGetS (mi pc k r : Nat) (Ls : List (Option Term)) (S : List Term) (H : AH) : Rs :=
  bif Nat.blt r nLS && (Nat.beq (lsI r) k && Nat.beq (lsK r) (mK mi)) then .inr (pc + 3, Ls, lsV r :: S, H, 0, 0) else .inl none
def bNar (v : Term) : Option Term := bif isI v then some (mB v) else none
def zNar (v : Term) : Option Term := bif fitK 2 v then some v else none
def iNar (v : Term) : Option Term := bif isI v then some v else none
def lNar (v : Term) : Option Term := bif isL v then some v else none
/-- every instruction but calls and returns -/
def step (A : List Asm) (mi pc : Nat) (Ls : List (Option Term)) (S : List Term) (H : AH) : Instr × Nat × Nat → Rs := fun x => match x with
  | (i, n, r) => match i with
    | .iload_n k => sLdI A (pc + 1) k.val Ls S H
    | .iload k => sLdI A (pc + 2) k Ls S H
    | .aload_n k => sLdR (pc + 1) k.val Ls S H
    | .aload k => sLdR (pc + 2) k Ls S H
    | .istore_n k => sSt isI (pc + 1) k.val Ls S H
    | .istore k => sSt isI (pc + 2) k Ls S H
    | .astore_n k => sSt isR (pc + 1) k.val Ls S H
    | .astore k => sSt isR (pc + 2) k Ls S H
    | .iconst k => .inr (pc + 1, Ls, .int (Int32.ofInt k) :: S, H, 0, 0)
    | .bipush k => .inr (pc + 2, Ls, .int (Int8.ofInt k).toInt32 :: S, H, 0, 0)
    | .sipush k => .inr (pc + 3, Ls, .int (Int16.ofInt k).toInt32 :: S, H, 0, 0)
    | .aconst_null => .inr (pc + 1, Ls, .null :: S, H, 0, 0)
    | .ldc k => sLdc mi pc 2 k r Ls S H
    | .ldc_w k => sLdc mi pc 3 k r Ls S H
    | .lconst k => .inr (pc + 1, Ls, .long (Int64.ofNat k) :: S, H, 0, 0)
    | .ladd => match S with
      | .long y :: .long x :: S' => .inr (pc + 1, Ls, .long (x + y) :: S', H, 0, 0)
      | _ => .inl none
    | .lcmp => match S with
      | .long y :: .long x :: S' => .inr (pc + 1, Ls, .int (cmp64 x y) :: S', H, 0, 0)
      | _ => .inl none
    | .dup2_x1 => match S with
      | .long x :: u :: S' => bif !isL u then .inr (pc + 1, Ls, .long x :: u :: .long x :: S', H, 0, 0) else .inl none
      | _ => .inl none
    | .lookupswitch d ps => match S with
      | .int k :: S' => bif (ps.toList.zip (ps.toList.drop 1)).all (fun (a, next) => a.1 < next.1) then (match ps.find? (·.1 == k.toInt) with
        | some (_, o) => bif decide (0 ≤ (pc : Int) + o) then .inr (((pc : Int) + o).toNat, Ls, S', H, 0, 0) else .inl none
        | none => bif decide (0 ≤ (pc : Int) + d) then .inr (((pc : Int) + d).toNat, Ls, S', H, 0, 0) else .inl none) else .inl none
      | _ => .inl none
    | .iadd => sBin A mAdd (pc + 1) Ls S H
    | .isub => sBin A mSub (pc + 1) Ls S H
    | .imul => sBin A mMul (pc + 1) Ls S H
    | .iand => sBin A (mAnd A) (pc + 1) Ls S H
    | .ior => sBin A (m2 .ior) (pc + 1) Ls S H
    | .ixor => sBin A (m2 .ixor) (pc + 1) Ls S H
    | .ishl => sBin A (m2 .ishl) (pc + 1) Ls S H
    | .ishr => sBin A (m2 .ishr) (pc + 1) Ls S H
    | .iushr => sBin A (m2 .iushr) (pc + 1) Ls S H
    | .idiv => sDiv A mDiv (pc + 1) Ls S H
    | .irem => sDiv A mRem (pc + 1) Ls S H
    | .ineg => sUn A (m1 .ineg) (pc + 1) Ls S H
    | .i2b => sUn A mB (pc + 1) Ls S H
    | .lload_n k => sLdL (pc + 1) k.val Ls S H
    | .lload k => sLdL (pc + 2) k Ls S H
    | .lushr => match S with
      | .int k :: a :: S' => bif isL a then .inr (pc + 1, Ls, .old (.sub a (.int k)) :: S', H, 0, 0) else .inl none
      | _ => .inl none
    | .l2i => match S with
      | a :: S' => bif isL a then .inr (pc + 1, Ls, nr A (.op1 .l2i a) :: S', H, 0, 0) else .inl none
      | _ => .inl none
    | .i2c => sUn A (m1 .i2c) (pc + 1) Ls S H
    | .i2s => sUn A (m1 .i2s) (pc + 1) Ls S H
    | .iinc k d => match Ls[k]? with
      | some (some t) => bif isI t then .inr (pc + 3, Ls.set k (some (mAdd t (.int (Int32.ofInt d)))), S, H, 0, 0) else .inl none
      | _ => .inl none
    | .dup => match S with
      | t :: S' => bif !isL t then .inr (pc + 1, Ls, t :: t :: S', H, 0, 0) else .inl none
      | _ => .inl none
    | .dup_x1 => match S with
      | t :: u :: S' => bif !isL t && !isL u then .inr (pc + 1, Ls, t :: u :: t :: S', H, 0, 0) else .inl none
      | _ => .inl none
    | .dup_x2 => match S with
      | t :: u :: v :: S' => bif !isL t && (!isL u && !isL v) then .inr (pc + 1, Ls, t :: u :: v :: t :: S', H, 0, 0) else .inl none
      | _ => .inl none
    | .dup2 => match S with
      | t :: u :: S' => bif !isL t && !isL u then .inr (pc + 1, Ls, t :: u :: t :: u :: S', H, 0, 0) else .inl none
      | _ => .inl none
    | .pop => match S with
      | t :: S' => bif !isL t then .inr (pc + 1, Ls, S', H, 0, 0) else .inl none
      | _ => .inl none
    | .goto o => bif decide (0 ≤ (pc : Int) + o) then .inr (((pc : Int) + o).toNat, Ls, S, H, 0, 0) else .inl none
    | .ifCond cd o => match S with
      | a :: S' => bif isI a then sBr A mi pc (cq cd).1 (cq cd).2.2 (sw (cq cd).2.1 a (.int 0)).1 (sw (cq cd).2.1 a (.int 0)).2 o Ls S' H else .inl none
      | _ => .inl none
    | .if_icmp cd o => match S with
      | b :: a :: S' => bif isI a && isI b then (match sBl A mi pc cd o a b Ls S' H with
        | .inr x => .inr x
        | .inl (some x) => .inl (some x)
        | .inl none => sBr A mi pc (cq cd).1 (cq cd).2.2 (sw (cq cd).2.1 a b).1 (sw (cq cd).2.1 a b).2 o Ls S' H) else .inl none
      | _ => .inl none
    | .if_acmp cd o => sAc pc cd o Ls S H
    | .ifnull o => sNul true pc o Ls S H
    | .ifnonnull o => sNul false pc o Ls S H
    | .getfield k => sGetF A mi pc k r Ls S H
    | .putfield k => sPutF mi pc k r Ls S H
    | .getstatic k => sGetS mi pc k r Ls S H
    | .iaload => sALoad A (fun t => decide (t = .int)) pc Ls S H
    | .baload => match sALoad A (fun t => decide (t = .boolean) || decide (t = .byte)) pc Ls S H with
      | .inr x => .inr x
      | .inl _ => sTab A pc Ls S H
    | .laload => sALoad A (fun t => decide (t = .long)) pc Ls S H
    | .lastore => sAStore (fun t => decide (t = .long)) lNar pc Ls S H
    | .aaload => match S with
      | j :: .string cc k :: S' => bif isI j && (match rg j with | some u => Nat.blt u (oLen k) | none => false) then .inr (pc + 1, Ls, .elem (.string cc k) j :: S', H, 0, 0) else .inl none
      | S => sALoad A FieldType.isReference pc Ls S H
    | .iastore => sAStore (fun t => decide (t = .int)) iNar pc Ls S H
    | .bastore => match sAStore (fun t => decide (t = .boolean)) zNar pc Ls S H with
      | .inr x => .inr x
      | .inl _ => sAStore (fun t => decide (t = .byte)) bNar pc Ls S H
    | .aastore => sRStore pc Ls S H
    | .arraylength => sLen pc Ls S H
    | .new k => sNew mi pc k r Ls S H
    | .newarray ty => match sNewP pc r ty Ls S H with
      | .inr x => .inr x
      | .inl _ => sNewJ pc r ty Ls S H
    | .anewarray k => sNewR mi pc k r Ls S H
    | .multianewarray k d => bif Nat.beq d 2 then sGrid mi pc k r Ls S H else .inl none
    | .checkcast k => sCast mi pc k r Ls S H
    | _ => .inl none

section Sound
variable {Z : State} {w : Wl} {a0 : Array Value} {A : List Asm} {p : Program} {l : Launch} {e : Env} {R : Room} {s : State} {m : MethodId} {args : Array Value} {below : List Frame} {meth : Method} {c : Code} {T : State} {locs : List Loc} {cells slots : Nat} {mi pc k r : Nat} {Ls : List (Option Term)} {S : List Term} {H : AH} {st : St}
theorem fits_ref {t : Term} {ty : FieldType} (hw : Wok w) (ht : ty.isReference = true) (h : isR t = true) : fits ty (cv w t) = true := by
  have := cv_R hw h
  cases hv : cv w t <;> rw [hv] at this <;> first | cases this | skip
  all_goals (cases ty <;> first | (cases ht; done) | rfl)
theorem fitK2 {t : Term} (h : fitK 2 t = true) : isI t = true ∧ (tv w.2.1 t &&& 1) = tv w.2.1 t ∧ fits .boolean (cv w t) = true := by
  simp only [fitK, Bool.and_eq_true] at h
  obtain ⟨h1, h2⟩ := h
  cases hr : rg t with
  | none => simp [hr] at h2
  | some u =>
    simp only [hr] at h2
    have hu := Nat.le_of_ble_eq_true h2
    have hb := rg_ok (σ := w.2.1) hr
    have e0 : (0 : Int32).toInt = 0 := rfl
    have e1 : (1 : Int32).toInt = 1 := rfl
    have : tv w.2.1 t = 0 ∨ tv w.2.1 t = 1 := by
      rcases (show (tv w.2.1 t).toInt = 0 ∨ (tv w.2.1 t).toInt = 1 by omega) with q | q
      · exact Or.inl (Int32.toInt_inj.mp (q.trans e0.symm))
      · exact Or.inr (Int32.toInt_inj.mp (q.trans e1.symm))
    refine ⟨h1, ?_, ?_⟩
    · rcases this with q | q <;> rw [q] <;> rfl
    · rw [cv_I h1]; rcases this with q | q <;> rw [q] <;> rfl
theorem fitI {v : Term} (h : fitK 0 v = true) : narrow .int (cv w v) = cv w v ∧ fits .int (cv w v) = true := by
  have h' : isI v = true := h
  rw [cv_I h']; exact ⟨rfl, rfl⟩
theorem fitZ {v : Term} (h : fitK 2 v = true) : narrow .boolean (cv w v) = cv w v ∧ fits .boolean (cv w v) = true := by
  have f2 := fitK2 (w := w) h
  refine ⟨?_, f2.2.2⟩
  rw [cv_I f2.1]
  show Value.int (tv w.2.1 v &&& 1) = _
  rw [f2.2.1]
theorem fitR {v : Term} {ty : FieldType} (hW : Wok w) (ht : ty.isReference = true) (h : fitK 1 v = true) : narrow ty (cv w v) = cv w v ∧ fits ty (cv w v) = true := by
  have h' : isR v = true := h
  refine ⟨?_, fits_ref hW ht h'⟩
  have hv := cv_R hW h'
  cases hz : cv w v <;> rw [hz] at hv <;> first | cases hv | skip
  all_goals (cases ty <;> first | (cases ht; done) | rfl)
theorem fitJ {v : Term} (h : fitK 3 v = true) : narrow .long (cv w v) = cv w v ∧ fits .long (cv w v) = true := by
  have h' : isL v = true := h
  rw [cv_L h']; exact ⟨rfl, rfl⟩
theorem size_of (X : Stand p l e R s m args below meth c T locs cells slots) : T.heap.size ≤ s.heap.size + cells := X.same.2.2.1
end Sound

def chkI (f : Nat → Option (Instr × Nat × Nat)) (code : ByteArray) (len : Nat) : Bool := (List.range len).all fun pc => match f pc with | none => true | some (i, n, _) => decide (decode code pc = .ok (i, n))
theorem chkI_ok {f : Nat → Option (Instr × Nat × Nat)} {code : ByteArray} {len pc n r : Nat} {i : Instr} (h : chkI f code len = true) (hb : Nat.blt pc len = false → f pc = none) (hf : f pc = some (i, n, r)) : decode code pc = .ok (i, n) := by
  by_cases q : pc < len
  · have := List.all_eq_true.mp h pc (List.mem_range.mpr q)
    rw [hf] at this
    exact of_decide_eq_true this
  · rw [hb (by rw [← Bool.not_eq_true, Nat.blt_eq]; exact q)] at hf; cases hf
set_option maxRecDepth 65536 in
theorem chk_0 : chkI ins_0 code 379 = true := by decide +kernel
set_option maxRecDepth 65536 in
theorem chk_1 : chkI ins_1 method_2_code 54 = true := by decide +kernel
set_option maxRecDepth 65536 in
theorem chk_2 : chkI ins_2 prog_126_method_1_code 107 = true := by decide +kernel
set_option maxRecDepth 65536 in
theorem chk_3 : chkI ins_3 prog_131_method_1_code 33 = true := by decide +kernel
set_option maxRecDepth 65536 in
theorem chk_4 : chkI ins_4 prog_131_method_9_code 8 = true := by decide +kernel
set_option maxRecDepth 65536 in
theorem chk_5 : chkI ins_5 jdk_33_method_47_code 79 = true := by decide +kernel
set_option maxRecDepth 65536 in
theorem chk_6 : chkI ins_6 prog_135_method_1_code 34 = true := by decide +kernel
set_option maxRecDepth 65536 in
theorem chk_7 : chkI ins_7 prog_126_method_2_code 87 = true := by decide +kernel
set_option maxRecDepth 65536 in
theorem chk_8 : chkI ins_8 prog_126_method_10_code 5 = true := by decide +kernel
set_option maxRecDepth 65536 in
theorem chk_9 : chkI ins_9 method_4_code 22 = true := by decide +kernel
set_option maxRecDepth 65536 in
theorem chk_10 : chkI ins_10 method_3_code 24 = true := by decide +kernel
set_option maxRecDepth 65536 in
theorem chk_11 : chkI ins_11 prog_126_method_5_code 34 = true := by decide +kernel
set_option maxRecDepth 65536 in
theorem chk_12 : chkI ins_12 prog_126_method_66_code 68 = true := by decide +kernel
set_option maxRecDepth 65536 in
theorem chk_13 : chkI ins_13 prog_126_method_65_code 39 = true := by decide +kernel
set_option maxRecDepth 65536 in
theorem chk_14 : chkI ins_14 jdk_29_method_69_code 11 = true := by decide +kernel
set_option maxRecDepth 65536 in
theorem chk_15 : chkI ins_15 prog_126_method_6_code 5 = true := by decide +kernel
set_option maxRecDepth 65536 in
theorem chk_16 : chkI ins_16 prog_126_method_7_code 288 = true := by decide +kernel
set_option maxRecDepth 65536 in
theorem chk_17 : chkI ins_17 prog_126_method_51_code 259 = true := by decide +kernel
set_option maxRecDepth 65536 in
theorem chk_18 : chkI ins_18 prog_126_method_52_code 45 = true := by decide +kernel
set_option maxRecDepth 65536 in
theorem chk_19 : chkI ins_19 prog_126_method_53_code 153 = true := by decide +kernel
theorem ins_ok {mi pc n r : Nat} {i : Instr} (h : ins mi pc = some (i, n, r)) : decode (mCode mi) pc = .ok (i, n) := by
  by_cases q : mi < 20
  · match mi, q, h with
    | 0, _, h => exact chkI_ok (f := ins_0) (len := 379) chk_0 (fun q => by unfold ins_0; rw [q]; rfl) h
    | 1, _, h => exact chkI_ok (f := ins_1) (len := 54) chk_1 (fun q => by unfold ins_1; rw [q]; rfl) h
    | 2, _, h => exact chkI_ok (f := ins_2) (len := 107) chk_2 (fun q => by unfold ins_2; rw [q]; rfl) h
    | 3, _, h => exact chkI_ok (f := ins_3) (len := 33) chk_3 (fun q => by unfold ins_3; rw [q]; rfl) h
    | 4, _, h => exact chkI_ok (f := ins_4) (len := 8) chk_4 (fun q => by unfold ins_4; rw [q]; rfl) h
    | 5, _, h => exact chkI_ok (f := ins_5) (len := 79) chk_5 (fun q => by unfold ins_5; rw [q]; rfl) h
    | 6, _, h => exact chkI_ok (f := ins_6) (len := 34) chk_6 (fun q => by unfold ins_6; rw [q]; rfl) h
    | 7, _, h => exact chkI_ok (f := ins_7) (len := 87) chk_7 (fun q => by unfold ins_7; rw [q]; rfl) h
    | 8, _, h => exact chkI_ok (f := ins_8) (len := 5) chk_8 (fun q => by unfold ins_8; rw [q]; rfl) h
    | 9, _, h => exact chkI_ok (f := ins_9) (len := 22) chk_9 (fun q => by unfold ins_9; rw [q]; rfl) h
    | 10, _, h => exact chkI_ok (f := ins_10) (len := 24) chk_10 (fun q => by unfold ins_10; rw [q]; rfl) h
    | 11, _, h => exact chkI_ok (f := ins_11) (len := 34) chk_11 (fun q => by unfold ins_11; rw [q]; rfl) h
    | 12, _, h => exact chkI_ok (f := ins_12) (len := 68) chk_12 (fun q => by unfold ins_12; rw [q]; rfl) h
    | 13, _, h => exact chkI_ok (f := ins_13) (len := 39) chk_13 (fun q => by unfold ins_13; rw [q]; rfl) h
    | 14, _, h => exact chkI_ok (f := ins_14) (len := 11) chk_14 (fun q => by unfold ins_14; rw [q]; rfl) h
    | 15, _, h => exact chkI_ok (f := ins_15) (len := 5) chk_15 (fun q => by unfold ins_15; rw [q]; rfl) h
    | 16, _, h => exact chkI_ok (f := ins_16) (len := 288) chk_16 (fun q => by unfold ins_16; rw [q]; rfl) h
    | 17, _, h => exact chkI_ok (f := ins_17) (len := 259) chk_17 (fun q => by unfold ins_17; rw [q]; rfl) h
    | 18, _, h => exact chkI_ok (f := ins_18) (len := 45) chk_18 (fun q => by unfold ins_18; rw [q]; rfl) h
    | 19, _, h => exact chkI_ok (f := ins_19) (len := 153) chk_19 (fun q => by unfold ins_19; rw [q]; rfl) h
    | k + 20, q, _ => exact absurd q (Nat.not_lt.mpr (Nat.le_add_left _ _))
  · have : ins mi pc = none := by unfold ins; rw [show Nat.blt mi 20 = false from by rw [← Bool.not_eq_true, Nat.blt_eq]; exact q]; rfl
    rw [this] at h; cases h
theorem tag_of {f : Nat → Bool} {t : Nat} (h : f t = true) (hf : ∀ t, 16 ≤ t → f t = false) : t < 16 := Nat.lt_of_not_le fun q => by rw [hf t q] at h; cases h
theorem isO_ok {t : Nat} (h : isO t = true) : aty t = none := by
  have hb : t < 16 := tag_of (f := isO) h fun t q => by unfold isO; rw [show Nat.blt t 16 = false from by rw [← Bool.not_eq_true, Nat.blt_eq]; omega]; rfl
  match t, hb, h with
  | 0, _, h => exact rfl
  | 1, _, h => exact rfl
  | 2, _, h => exact rfl
  | 3, _, h => exact absurd h (by decide)
  | 4, _, h => exact absurd h (by decide)
  | 5, _, h => exact absurd h (by decide)
  | 6, _, h => exact absurd h (by decide)
  | 7, _, h => exact absurd h (by decide)
  | 8, _, h => exact absurd h (by decide)
  | 9, _, h => exact absurd h (by decide)
  | 10, _, h => exact absurd h (by decide)
  | 11, _, h => exact absurd h (by decide)
  | 12, _, h => exact absurd h (by decide)
  | 13, _, h => exact absurd h (by decide)
  | 14, _, h => exact absurd h (by decide)
  | 15, _, h => exact absurd h (by decide)
  | k + 16, hb, _ => exact absurd hb (Nat.not_lt.mpr (Nat.le_add_left _ _))
theorem inst_ok {Z : State} {a0 : Array Value} (hw : ∀ d ∈ tables_1, d.before a0 Z = true) {t : Nat} (h : isO t = true) : (Jvm.Cond.instantiable (cname t) (csl t)).before a0 Z = true ∧ (Jvm.Cond.initialized (cname t)).before a0 Z = true := by
  have hb : t < 16 := tag_of (f := isO) h fun t q => by unfold isO; rw [show Nat.blt t 16 = false from by rw [← Bool.not_eq_true, Nat.blt_eq]; omega]; rfl
  match t, hb, h with
  | 0, _, h => exact ⟨(hw _ (List.mem_of_getElem? (i := 7) rfl)), (hw _ (List.mem_of_getElem? (i := 8) rfl))⟩
  | 1, _, h => exact ⟨(hw _ (List.mem_of_getElem? (i := 16) rfl)), (hw _ (List.mem_of_getElem? (i := 17) rfl))⟩
  | 2, _, h => exact ⟨(hw _ (List.mem_of_getElem? (i := 41) rfl)), (hw _ (List.mem_of_getElem? (i := 42) rfl))⟩
  | 3, _, h => exact absurd h (by decide)
  | 4, _, h => exact absurd h (by decide)
  | 5, _, h => exact absurd h (by decide)
  | 6, _, h => exact absurd h (by decide)
  | 7, _, h => exact absurd h (by decide)
  | 8, _, h => exact absurd h (by decide)
  | 9, _, h => exact absurd h (by decide)
  | 10, _, h => exact absurd h (by decide)
  | 11, _, h => exact absurd h (by decide)
  | 12, _, h => exact absurd h (by decide)
  | 13, _, h => exact absurd h (by decide)
  | 14, _, h => exact absurd h (by decide)
  | 15, _, h => exact absurd h (by decide)
  | k + 16, hb, _ => exact absurd hb (Nat.not_lt.mpr (Nat.le_add_left _ _))
theorem pa_ok {Z : State} {a0 : Array Value} (hw : ∀ d ∈ tables_1, d.before a0 Z = true) {t : Nat} (h : isP t = true) {ty : FieldType} (e : aty t = some ty) : (Jvm.Cond.arrayClass ty).before a0 Z = true ∧ "[" ++ ty.toString = cname t ∧ defaultValue ty = .int 0 ∧ fits ty (defaultValue ty) = true := by
  have hb : t < 16 := tag_of (f := isP) h fun t q => by unfold isP; rw [show Nat.blt t 16 = false from by rw [← Bool.not_eq_true, Nat.blt_eq]; omega]; rfl
  match t, hb, h, e with
  | 0, _, h, e => exact absurd h (by decide)
  | 1, _, h, e => exact absurd h (by decide)
  | 2, _, h, e => exact absurd h (by decide)
  | 3, _, h, e => cases e; exact ⟨(hw _ (List.mem_of_getElem? (i := 0) rfl)), by decide, rfl, rfl⟩
  | 4, _, h, e => cases e; exact ⟨(hw _ (List.mem_of_getElem? (i := 51) rfl)), by decide, rfl, rfl⟩
  | 5, _, h, e => cases e; exact ⟨(hw _ (List.mem_of_getElem? (i := 62) rfl)), by decide, rfl, rfl⟩
  | 6, _, h, e => exact absurd h (by decide)
  | 7, _, h, e => exact absurd h (by decide)
  | 8, _, h, e => exact absurd h (by decide)
  | 9, _, h, e => exact absurd h (by decide)
  | 10, _, h, e => exact absurd h (by decide)
  | 11, _, h, e => exact absurd h (by decide)
  | 12, _, h, e => exact absurd h (by decide)
  | 13, _, h, e => exact absurd h (by decide)
  | 14, _, h, e => exact absurd h (by decide)
  | 15, _, h, e => exact absurd h (by decide)
  | k + 16, hb, _, _ => exact absurd hb (Nat.not_lt.mpr (Nat.le_add_left _ _))
theorem pj_ok {Z : State} {a0 : Array Value} (hw : ∀ d ∈ tables_1, d.before a0 Z = true) {t : Nat} (h : isJ t = true) : aty t = some .long ∧ (Jvm.Cond.arrayClass .long).before a0 Z = true ∧ "[" ++ FieldType.long.toString = cname t ∧ acomp t = none := by
  have hb : t < 16 := tag_of (f := isJ) h fun t q => by unfold isJ; rw [show Nat.blt t 16 = false from by rw [← Bool.not_eq_true, Nat.blt_eq]; omega]; rfl
  match t, hb, h with
  | 0, _, h => exact absurd h (by decide)
  | 1, _, h => exact absurd h (by decide)
  | 2, _, h => exact absurd h (by decide)
  | 3, _, h => exact absurd h (by decide)
  | 4, _, h => exact absurd h (by decide)
  | 5, _, h => exact absurd h (by decide)
  | 6, _, h => exact ⟨rfl, (hw _ (List.mem_of_getElem? (i := 65) rfl)), by decide, rfl⟩
  | 7, _, h => exact absurd h (by decide)
  | 8, _, h => exact absurd h (by decide)
  | 9, _, h => exact absurd h (by decide)
  | 10, _, h => exact absurd h (by decide)
  | 11, _, h => exact absurd h (by decide)
  | 12, _, h => exact absurd h (by decide)
  | 13, _, h => exact absurd h (by decide)
  | 14, _, h => exact absurd h (by decide)
  | 15, _, h => exact absurd h (by decide)
  | k + 16, hb, _ => exact absurd hb (Nat.not_lt.mpr (Nat.le_add_left _ _))
theorem own_noC {t : Nat} (h : isP t = true) : acomp t = none := by
  have hb : t < 16 := tag_of (f := isP) h fun t q => by unfold isP; rw [show Nat.blt t 16 = false from by rw [← Bool.not_eq_true, Nat.blt_eq]; omega]; rfl
  match t, hb, h with
  | 0, _, h => exact absurd h (by decide)
  | 1, _, h => exact absurd h (by decide)
  | 2, _, h => exact absurd h (by decide)
  | 3, _, h => exact rfl
  | 4, _, h => exact rfl
  | 5, _, h => exact rfl
  | 6, _, h => exact absurd h (by decide)
  | 7, _, h => exact absurd h (by decide)
  | 8, _, h => exact absurd h (by decide)
  | 9, _, h => exact absurd h (by decide)
  | 10, _, h => exact absurd h (by decide)
  | 11, _, h => exact absurd h (by decide)
  | 12, _, h => exact absurd h (by decide)
  | 13, _, h => exact absurd h (by decide)
  | 14, _, h => exact absurd h (by decide)
  | 15, _, h => exact absurd h (by decide)
  | k + 16, hb, _ => exact absurd hb (Nat.not_lt.mpr (Nat.le_add_left _ _))
theorem own_prim {t : Nat} (h : isP t = true) : ∃ ty, aty t = some ty ∧ refKind ty = false := by
  have hb : t < 16 := tag_of (f := isP) h fun t q => by unfold isP; rw [show Nat.blt t 16 = false from by rw [← Bool.not_eq_true, Nat.blt_eq]; omega]; rfl
  match t, hb, h with
  | 0, _, h => exact absurd h (by decide)
  | 1, _, h => exact absurd h (by decide)
  | 2, _, h => exact absurd h (by decide)
  | 3, _, h => exact ⟨_, rfl, rfl⟩
  | 4, _, h => exact ⟨_, rfl, rfl⟩
  | 5, _, h => exact ⟨_, rfl, rfl⟩
  | 6, _, h => exact absurd h (by decide)
  | 7, _, h => exact absurd h (by decide)
  | 8, _, h => exact absurd h (by decide)
  | 9, _, h => exact absurd h (by decide)
  | 10, _, h => exact absurd h (by decide)
  | 11, _, h => exact absurd h (by decide)
  | 12, _, h => exact absurd h (by decide)
  | 13, _, h => exact absurd h (by decide)
  | 14, _, h => exact absurd h (by decide)
  | 15, _, h => exact absurd h (by decide)
  | k + 16, hb, _ => exact absurd hb (Nat.not_lt.mpr (Nat.le_add_left _ _))
theorem anew_ok {Z : State} {a0 : Array Value} (hw : ∀ d ∈ tables_1, d.before a0 Z = true) {t : Nat} (hC : hasC (arrT t) = true) (h : acT (arrT t) = t) : (∃ ty, aty t = some ty ∧ isP t = true ∧ aty (arrT t) = some (.array ty) ∧ (FieldType.array ty).toString = cname t ∧ "[" ++ cname t = cname (arrT t) ∧ (Jvm.Cond.arrayOver (.array ty)).before a0 Z = true) ∨ (isP t = false ∧ aty (arrT t) = some (.object (cname t)) ∧ "[" ++ (FieldType.object (cname t)).toString = cname (arrT t) ∧ (Jvm.Cond.arrayOver (.object (cname t))).before a0 Z = true) := by
  have hb : t < 16 := Nat.lt_of_not_le fun q => by
    have : arrT t = 9999 := by unfold arrT; rw [show Nat.blt t 16 = false from by rw [← Bool.not_eq_true, Nat.blt_eq]; omega]; rfl
    rw [this] at hC; exact absurd hC (by decide)
  match t, hb, hC, h with
  | 0, _, hC, _ => exact absurd hC (by decide)
  | 1, _, hC, _ => exact absurd hC (by decide)
  | 2, _, hC, _ => exact absurd hC (by decide)
  | 3, _, _, _ => exact Or.inl ⟨_, rfl, rfl, rfl, by decide, by decide, (hw _ (List.mem_of_getElem? (i := 48) rfl))⟩
  | 4, _, hC, _ => exact absurd hC (by decide)
  | 5, _, hC, _ => exact absurd hC (by decide)
  | 6, _, hC, _ => exact absurd hC (by decide)
  | 7, _, hC, _ => exact absurd hC (by decide)
  | 8, _, hC, _ => exact absurd hC (by decide)
  | 9, _, hC, _ => exact absurd hC (by decide)
  | 10, _, hC, _ => exact absurd hC (by decide)
  | 11, _, hC, _ => exact absurd hC (by decide)
  | 12, _, _, _ => exact Or.inr ⟨rfl, rfl, by decide, (hw _ (List.mem_of_getElem? (i := 23) rfl))⟩
  | 13, _, _, _ => exact Or.inr ⟨rfl, rfl, by decide, (hw _ (List.mem_of_getElem? (i := 55) rfl))⟩
  | 14, _, _, _ => exact Or.inr ⟨rfl, rfl, by decide, (hw _ (List.mem_of_getElem? (i := 69) rfl))⟩
  | 15, _, _, _ => exact Or.inr ⟨rfl, rfl, by decide, (hw _ (List.mem_of_getElem? (i := 73) rfl))⟩
  | k + 16, hb, _, _ => exact absurd hb (Nat.not_lt.mpr (Nat.le_add_left _ _))
theorem lay_ok {Z : State} {a0 : Array Value} (hw : ∀ d ∈ tables_1, d.before a0 Z = true) {t i : Nat} (h : i < nfl t) : (fFin t i = true ∧ (Jvm.Cond.laysFinal (cname t) (fO t i) (fN t i) (fD t i)).before a0 Z = true) ∨ (fFin t i = false ∧ (Jvm.Cond.lays (cname t) (fO t i) (fN t i) (fD t i)).before a0 Z = true) := by
  have hb : t < 16 := Nat.lt_of_not_le fun q => by
    have : nfl t = 0 := by unfold nfl; rw [show Nat.blt t 16 = false from by rw [← Bool.not_eq_true, Nat.blt_eq]; omega]; rfl
    rw [this] at h; exact absurd h (Nat.not_lt_zero _)
  match t, hb, h with
  | 0, _, h =>
    match i, h with
    | 0, _ => exact Or.inl ⟨rfl, (hw _ (List.mem_of_getElem? (i := 39) rfl))⟩
    | 1, _ => exact Or.inl ⟨rfl, (hw _ (List.mem_of_getElem? (i := 59) rfl))⟩
    | 2, _ => exact Or.inl ⟨rfl, (hw _ (List.mem_of_getElem? (i := 61) rfl))⟩
    | 3, _ => exact Or.inl ⟨rfl, (hw _ (List.mem_of_getElem? (i := 64) rfl))⟩
    | 4, _ => exact Or.inl ⟨rfl, (hw _ (List.mem_of_getElem? (i := 67) rfl))⟩
    | 5, _ => exact Or.inr ⟨rfl, (hw _ (List.mem_of_getElem? (i := 71) rfl))⟩
    | 6, _ => exact Or.inr ⟨rfl, (hw _ (List.mem_of_getElem? (i := 75) rfl))⟩
    | 7, _ => exact Or.inr ⟨rfl, (hw _ (List.mem_of_getElem? (i := 77) rfl))⟩
    | 8, _ => exact Or.inr ⟨rfl, (hw _ (List.mem_of_getElem? (i := 79) rfl))⟩
    | 9, _ => exact Or.inr ⟨rfl, (hw _ (List.mem_of_getElem? (i := 81) rfl))⟩
    | 10, _ => exact Or.inr ⟨rfl, (hw _ (List.mem_of_getElem? (i := 83) rfl))⟩
    | 11, _ => exact Or.inr ⟨rfl, (hw _ (List.mem_of_getElem? (i := 85) rfl))⟩
    | 12, _ => exact Or.inr ⟨rfl, (hw _ (List.mem_of_getElem? (i := 92) rfl))⟩
    | 13, _ => exact Or.inr ⟨rfl, (hw _ (List.mem_of_getElem? (i := 94) rfl))⟩
    | 14, _ => exact Or.inr ⟨rfl, (hw _ (List.mem_of_getElem? (i := 96) rfl))⟩
    | 15, _ => exact Or.inr ⟨rfl, (hw _ (List.mem_of_getElem? (i := 98) rfl))⟩
    | 16, _ => exact Or.inr ⟨rfl, (hw _ (List.mem_of_getElem? (i := 100) rfl))⟩
    | 17, _ => exact Or.inr ⟨rfl, (hw _ (List.mem_of_getElem? (i := 102) rfl))⟩
    | 18, _ => exact Or.inr ⟨rfl, (hw _ (List.mem_of_getElem? (i := 104) rfl))⟩
    | 19, _ => exact Or.inr ⟨rfl, (hw _ (List.mem_of_getElem? (i := 106) rfl))⟩
    | 20, _ => exact Or.inr ⟨rfl, (hw _ (List.mem_of_getElem? (i := 108) rfl))⟩
    | 21, _ => exact Or.inr ⟨rfl, (hw _ (List.mem_of_getElem? (i := 110) rfl))⟩
    | 22, _ => exact Or.inr ⟨rfl, (hw _ (List.mem_of_getElem? (i := 112) rfl))⟩
    | 23, _ => exact Or.inr ⟨rfl, (hw _ (List.mem_of_getElem? (i := 114) rfl))⟩
    | 24, _ => exact Or.inr ⟨rfl, (hw _ (List.mem_of_getElem? (i := 116) rfl))⟩
    | 25, _ => exact Or.inr ⟨rfl, (hw _ (List.mem_of_getElem? (i := 118) rfl))⟩
    | 26, _ => exact Or.inr ⟨rfl, (hw _ (List.mem_of_getElem? (i := 120) rfl))⟩
    | 27, _ => exact Or.inr ⟨rfl, (hw _ (List.mem_of_getElem? (i := 122) rfl))⟩
    | 28, _ => exact Or.inr ⟨rfl, (hw _ (List.mem_of_getElem? (i := 124) rfl))⟩
    | 29, _ => exact Or.inr ⟨rfl, (hw _ (List.mem_of_getElem? (i := 154) rfl))⟩
    | 30, _ => exact Or.inr ⟨rfl, (hw _ (List.mem_of_getElem? (i := 177) rfl))⟩
    | 31, _ => exact Or.inr ⟨rfl, (hw _ (List.mem_of_getElem? (i := 179) rfl))⟩
    | 32, _ => exact Or.inr ⟨rfl, (hw _ (List.mem_of_getElem? (i := 189) rfl))⟩
    | 33, _ => exact Or.inr ⟨rfl, (hw _ (List.mem_of_getElem? (i := 192) rfl))⟩
    | 34, _ => exact Or.inr ⟨rfl, (hw _ (List.mem_of_getElem? (i := 194) rfl))⟩
    | 35, _ => exact Or.inr ⟨rfl, (hw _ (List.mem_of_getElem? (i := 196) rfl))⟩
    | 36, _ => exact Or.inr ⟨rfl, (hw _ (List.mem_of_getElem? (i := 198) rfl))⟩
    | 37, _ => exact Or.inr ⟨rfl, (hw _ (List.mem_of_getElem? (i := 200) rfl))⟩
    | k + 38, h => exact absurd (show k + 38 < 38 from h) (Nat.not_lt.mpr (Nat.le_add_left _ _))
  | 1, _, h =>
    match i, h with
    | 0, _ => exact Or.inr ⟨rfl, (hw _ (List.mem_of_getElem? (i := 25) rfl))⟩
    | 1, _ => exact Or.inr ⟨rfl, (hw _ (List.mem_of_getElem? (i := 35) rfl))⟩
    | 2, _ => exact Or.inr ⟨rfl, (hw _ (List.mem_of_getElem? (i := 37) rfl))⟩
    | k + 3, h => exact absurd (show k + 3 < 3 from h) (Nat.not_lt.mpr (Nat.le_add_left _ _))
  | 2, _, h =>
    match i, h with
    | 0, _ => exact Or.inl ⟨rfl, (hw _ (List.mem_of_getElem? (i := 50) rfl))⟩
    | 1, _ => exact Or.inl ⟨rfl, (hw _ (List.mem_of_getElem? (i := 53) rfl))⟩
    | 2, _ => exact Or.inl ⟨rfl, (hw _ (List.mem_of_getElem? (i := 57) rfl))⟩
    | k + 3, h => exact absurd (show k + 3 < 3 from h) (Nat.not_lt.mpr (Nat.le_add_left _ _))
  | 3, _, h => exact absurd h (Nat.not_lt_zero _)
  | 4, _, h => exact absurd h (Nat.not_lt_zero _)
  | 5, _, h => exact absurd h (Nat.not_lt_zero _)
  | 6, _, h => exact absurd h (Nat.not_lt_zero _)
  | 7, _, h => exact absurd h (Nat.not_lt_zero _)
  | 8, _, h => exact absurd h (Nat.not_lt_zero _)
  | 9, _, h => exact absurd h (Nat.not_lt_zero _)
  | 10, _, h => exact absurd h (Nat.not_lt_zero _)
  | 11, _, h => exact absurd h (Nat.not_lt_zero _)
  | 12, _, h => exact absurd h (Nat.not_lt_zero _)
  | 13, _, h => exact absurd h (Nat.not_lt_zero _)
  | 14, _, h => exact absurd h (Nat.not_lt_zero _)
  | 15, _, h => exact absurd h (Nat.not_lt_zero _)
  | k + 16, hb, _ => exact absurd hb (Nat.not_lt.mpr (Nat.le_add_left _ _))
theorem own_laid {Z : State} {a0 : Array Value} (hw : ∀ d ∈ tables_1, d.before a0 Z = true) {t i : Nat} (h : i < nfl t) : Laid Z a0 (cname t) (fO t i) (fN t i) (fD t i) := by
  rcases lay_ok hw h with ⟨-, q⟩ | ⟨-, q⟩
  · exact Or.inr q
  · exact Or.inl q
theorem mInit_ok {mi : Nat} (h : mInit mi = true) : mNm mi = "<init>" := by
  have hb : mi < 20 := Nat.lt_of_not_le fun q => by
    have : mInit mi = false := by unfold mInit; rw [show Nat.blt mi 20 = false from by rw [← Bool.not_eq_true, Nat.blt_eq]; omega]; rfl
    rw [this] at h; cases h
  match mi, hb, h with
  | 0, _, h => exact absurd h (by decide)
  | 1, _, h => exact absurd h (by decide)
  | 2, _, h => exact rfl
  | 3, _, h => exact rfl
  | 4, _, h => exact absurd h (by decide)
  | 5, _, h => exact absurd h (by decide)
  | 6, _, h => exact rfl
  | 7, _, h => exact absurd h (by decide)
  | 8, _, h => exact absurd h (by decide)
  | 9, _, h => exact absurd h (by decide)
  | 10, _, h => exact absurd h (by decide)
  | 11, _, h => exact absurd h (by decide)
  | 12, _, h => exact absurd h (by decide)
  | 13, _, h => exact absurd h (by decide)
  | 14, _, h => exact absurd h (by decide)
  | 15, _, h => exact absurd h (by decide)
  | 16, _, h => exact absurd h (by decide)
  | 17, _, h => exact absurd h (by decide)
  | 18, _, h => exact absurd h (by decide)
  | 19, _, h => exact absurd h (by decide)
  | k + 20, hb, _ => exact absurd hb (Nat.not_lt.mpr (Nat.le_add_left _ _))
theorem own_lput {Z : State} {a0 : Array Value} (hw : ∀ d ∈ tables_1, d.before a0 Z = true) {t i mi : Nat} {meth : Method} (h : i < nfl t) (r9 : (!fFin t i || (mInit mi && Nat.beq (mK mi) (fOk t i))) = true) (hnm : meth.name = mNm mi) : (Jvm.Cond.lays (cname t) (fO t i) (fN t i) (fD t i)).before a0 Z = true ∨ ((Jvm.Cond.laysFinal (cname t) (fO t i) (fN t i) (fD t i)).before a0 Z = true ∧ kls (mK mi) = fO t i ∧ meth.name = "<init>") := by
  rcases lay_ok hw h with ⟨e, q⟩ | ⟨-, q⟩
  · rw [e] at r9
    simp only [Bool.not_true, Bool.false_or, Bool.and_eq_true] at r9
    exact Or.inr ⟨q, by rw [Nat.eq_of_beq_eq_true r9.2]; rfl, by rw [hnm]; exact mInit_ok r9.1⟩
  · exact Or.inl q
theorem fT_ok {t i : Nat} (h : i < nfl t) : parseFieldDescriptor (fD t i) = some (fT t i) := by
  have hb : t < 16 := Nat.lt_of_not_le fun q => by
    have : nfl t = 0 := by unfold nfl; rw [show Nat.blt t 16 = false from by rw [← Bool.not_eq_true, Nat.blt_eq]; omega]; rfl
    rw [this] at h; exact absurd h (Nat.not_lt_zero _)
  match t, hb, h with
  | 0, _, h =>
    match i, h with
    | 0, _ => decide
    | 1, _ => decide
    | 2, _ => decide
    | 3, _ => decide
    | 4, _ => decide
    | 5, _ => decide
    | 6, _ => decide
    | 7, _ => decide
    | 8, _ => decide
    | 9, _ => decide
    | 10, _ => decide
    | 11, _ => decide
    | 12, _ => decide
    | 13, _ => decide
    | 14, _ => decide
    | 15, _ => decide
    | 16, _ => decide
    | 17, _ => decide
    | 18, _ => decide
    | 19, _ => decide
    | 20, _ => decide
    | 21, _ => decide
    | 22, _ => decide
    | 23, _ => decide
    | 24, _ => decide
    | 25, _ => decide
    | 26, _ => decide
    | 27, _ => decide
    | 28, _ => decide
    | 29, _ => decide
    | 30, _ => decide
    | 31, _ => decide
    | 32, _ => decide
    | 33, _ => decide
    | 34, _ => decide
    | 35, _ => decide
    | 36, _ => decide
    | 37, _ => decide
    | k + 38, h => exact absurd (show k + 38 < 38 from h) (Nat.not_lt.mpr (Nat.le_add_left _ _))
  | 1, _, h =>
    match i, h with
    | 0, _ => decide
    | 1, _ => decide
    | 2, _ => decide
    | k + 3, h => exact absurd (show k + 3 < 3 from h) (Nat.not_lt.mpr (Nat.le_add_left _ _))
  | 2, _, h =>
    match i, h with
    | 0, _ => decide
    | 1, _ => decide
    | 2, _ => decide
    | k + 3, h => exact absurd (show k + 3 < 3 from h) (Nat.not_lt.mpr (Nat.le_add_left _ _))
  | 3, _, h => exact absurd h (Nat.not_lt_zero _)
  | 4, _, h => exact absurd h (Nat.not_lt_zero _)
  | 5, _, h => exact absurd h (Nat.not_lt_zero _)
  | 6, _, h => exact absurd h (Nat.not_lt_zero _)
  | 7, _, h => exact absurd h (Nat.not_lt_zero _)
  | 8, _, h => exact absurd h (Nat.not_lt_zero _)
  | 9, _, h => exact absurd h (Nat.not_lt_zero _)
  | 10, _, h => exact absurd h (Nat.not_lt_zero _)
  | 11, _, h => exact absurd h (Nat.not_lt_zero _)
  | 12, _, h => exact absurd h (Nat.not_lt_zero _)
  | 13, _, h => exact absurd h (Nat.not_lt_zero _)
  | 14, _, h => exact absurd h (Nat.not_lt_zero _)
  | 15, _, h => exact absurd h (Nat.not_lt_zero _)
  | k + 16, hb, _ => exact absurd hb (Nat.not_lt.mpr (Nat.le_add_left _ _))
theorem fdef_ok {w : Wl} {t i : Nat} (h : i < nfl t) : defaultValue (fT t i) = cv w (dT (fK t i)) := by
  have hb : t < 16 := Nat.lt_of_not_le fun q => by
    have : nfl t = 0 := by unfold nfl; rw [show Nat.blt t 16 = false from by rw [← Bool.not_eq_true, Nat.blt_eq]; omega]; rfl
    rw [this] at h; exact absurd h (Nat.not_lt_zero _)
  match t, hb, h with
  | 0, _, h =>
    match i, h with
    | 0, _ => exact rfl
    | 1, _ => exact rfl
    | 2, _ => exact rfl
    | 3, _ => exact rfl
    | 4, _ => exact rfl
    | 5, _ => exact rfl
    | 6, _ => exact rfl
    | 7, _ => exact rfl
    | 8, _ => exact rfl
    | 9, _ => exact rfl
    | 10, _ => exact rfl
    | 11, _ => exact rfl
    | 12, _ => exact rfl
    | 13, _ => exact rfl
    | 14, _ => exact rfl
    | 15, _ => exact rfl
    | 16, _ => exact rfl
    | 17, _ => exact rfl
    | 18, _ => exact rfl
    | 19, _ => exact rfl
    | 20, _ => exact rfl
    | 21, _ => exact rfl
    | 22, _ => exact rfl
    | 23, _ => exact rfl
    | 24, _ => exact rfl
    | 25, _ => exact rfl
    | 26, _ => exact rfl
    | 27, _ => exact rfl
    | 28, _ => exact rfl
    | 29, _ => exact rfl
    | 30, _ => exact rfl
    | 31, _ => exact rfl
    | 32, _ => exact rfl
    | 33, _ => exact rfl
    | 34, _ => exact rfl
    | 35, _ => exact rfl
    | 36, _ => exact rfl
    | 37, _ => exact rfl
    | k + 38, h => exact absurd (show k + 38 < 38 from h) (Nat.not_lt.mpr (Nat.le_add_left _ _))
  | 1, _, h =>
    match i, h with
    | 0, _ => exact rfl
    | 1, _ => exact rfl
    | 2, _ => exact rfl
    | k + 3, h => exact absurd (show k + 3 < 3 from h) (Nat.not_lt.mpr (Nat.le_add_left _ _))
  | 2, _, h =>
    match i, h with
    | 0, _ => exact rfl
    | 1, _ => exact rfl
    | 2, _ => exact rfl
    | k + 3, h => exact absurd (show k + 3 < 3 from h) (Nat.not_lt.mpr (Nat.le_add_left _ _))
  | 3, _, h => exact absurd h (Nat.not_lt_zero _)
  | 4, _, h => exact absurd h (Nat.not_lt_zero _)
  | 5, _, h => exact absurd h (Nat.not_lt_zero _)
  | 6, _, h => exact absurd h (Nat.not_lt_zero _)
  | 7, _, h => exact absurd h (Nat.not_lt_zero _)
  | 8, _, h => exact absurd h (Nat.not_lt_zero _)
  | 9, _, h => exact absurd h (Nat.not_lt_zero _)
  | 10, _, h => exact absurd h (Nat.not_lt_zero _)
  | 11, _, h => exact absurd h (Nat.not_lt_zero _)
  | 12, _, h => exact absurd h (Nat.not_lt_zero _)
  | 13, _, h => exact absurd h (Nat.not_lt_zero _)
  | 14, _, h => exact absurd h (Nat.not_lt_zero _)
  | 15, _, h => exact absurd h (Nat.not_lt_zero _)
  | k + 16, hb, _ => exact absurd hb (Nat.not_lt.mpr (Nat.le_add_left _ _))
theorem fK_ok {w : Wl} {t i : Nat} (h : i < nfl t) (hW : Wok w) {v : Term} (hv : fitK (fK t i) v = true) : narrow (fT t i) (cv w v) = cv w v ∧ fits (fT t i) (cv w v) = true := by
  have hb : t < 16 := Nat.lt_of_not_le fun q => by
    have : nfl t = 0 := by unfold nfl; rw [show Nat.blt t 16 = false from by rw [← Bool.not_eq_true, Nat.blt_eq]; omega]; rfl
    rw [this] at h; exact absurd h (Nat.not_lt_zero _)
  match t, hb, h, hv with
  | 0, _, h, hv =>
    match i, h, hv with
    | 0, _, hv => exact fitR hW rfl hv
    | 1, _, hv => exact fitR hW rfl hv
    | 2, _, hv => exact fitR hW rfl hv
    | 3, _, hv => exact fitR hW rfl hv
    | 4, _, hv => exact fitR hW rfl hv
    | 5, _, hv => exact fitR hW rfl hv
    | 6, _, hv => exact fitR hW rfl hv
    | 7, _, hv => exact fitR hW rfl hv
    | 8, _, hv => exact fitR hW rfl hv
    | 9, _, hv => exact fitR hW rfl hv
    | 10, _, hv => exact fitR hW rfl hv
    | 11, _, hv => exact fitR hW rfl hv
    | 12, _, hv => exact fitR hW rfl hv
    | 13, _, hv => exact fitI hv
    | 14, _, hv => exact fitI hv
    | 15, _, hv => exact fitZ hv
    | 16, _, hv => exact fitI hv
    | 17, _, hv => exact fitI hv
    | 18, _, hv => exact fitR hW rfl hv
    | 19, _, hv => exact fitZ hv
    | 20, _, hv => exact fitR hW rfl hv
    | 21, _, hv => exact fitI hv
    | 22, _, hv => exact fitI hv
    | 23, _, hv => exact fitI hv
    | 24, _, hv => exact fitI hv
    | 25, _, hv => exact fitZ hv
    | 26, _, hv => exact fitZ hv
    | 27, _, hv => exact fitI hv
    | 28, _, hv => exact fitI hv
    | 29, _, hv => exact fitI hv
    | 30, _, hv => exact fitJ hv
    | 31, _, hv => exact fitI hv
    | 32, _, hv => exact fitJ hv
    | 33, _, hv => exact fitI hv
    | 34, _, hv => exact fitI hv
    | 35, _, hv => exact fitZ hv
    | 36, _, hv => exact fitR hW rfl hv
    | 37, _, hv => exact fitZ hv
    | k + 38, h, _ => exact absurd (show k + 38 < 38 from h) (Nat.not_lt.mpr (Nat.le_add_left _ _))
  | 1, _, h, hv =>
    match i, h, hv with
    | 0, _, hv => exact fitR hW rfl hv
    | 1, _, hv => exact fitI hv
    | 2, _, hv => exact fitR hW rfl hv
    | k + 3, h, _ => exact absurd (show k + 3 < 3 from h) (Nat.not_lt.mpr (Nat.le_add_left _ _))
  | 2, _, h, hv =>
    match i, h, hv with
    | 0, _, hv => exact fitR hW rfl hv
    | 1, _, hv => exact fitR hW rfl hv
    | 2, _, hv => exact fitR hW rfl hv
    | k + 3, h, _ => exact absurd (show k + 3 < 3 from h) (Nat.not_lt.mpr (Nat.le_add_left _ _))
  | 3, _, h, hv => exact absurd h (Nat.not_lt_zero _)
  | 4, _, h, hv => exact absurd h (Nat.not_lt_zero _)
  | 5, _, h, hv => exact absurd h (Nat.not_lt_zero _)
  | 6, _, h, hv => exact absurd h (Nat.not_lt_zero _)
  | 7, _, h, hv => exact absurd h (Nat.not_lt_zero _)
  | 8, _, h, hv => exact absurd h (Nat.not_lt_zero _)
  | 9, _, h, hv => exact absurd h (Nat.not_lt_zero _)
  | 10, _, h, hv => exact absurd h (Nat.not_lt_zero _)
  | 11, _, h, hv => exact absurd h (Nat.not_lt_zero _)
  | 12, _, h, hv => exact absurd h (Nat.not_lt_zero _)
  | 13, _, h, hv => exact absurd h (Nat.not_lt_zero _)
  | 14, _, h, hv => exact absurd h (Nat.not_lt_zero _)
  | 15, _, h, hv => exact absurd h (Nat.not_lt_zero _)
  | k + 16, hb, _, _ => exact absurd hb (Nat.not_lt.mpr (Nat.le_add_left _ _))
theorem fN_chk : ((List.range 16).all fun t => (List.range (nfl t)).all fun i => (List.range (nfl t)).all fun j => decide (i = j) || !decide (fN t i = fN t j)) = true := by decide +kernel
theorem fN_all (t : Nat) (hb : t < 16) (i j : Nat) (hi : i < nfl t) (hj : j < nfl t) (h : i ≠ j) : fN t i ≠ fN t j := by
  have h1 := List.all_eq_true.mp (List.all_eq_true.mp (List.all_eq_true.mp fN_chk t (List.mem_range.mpr hb)) i (List.mem_range.mpr hi)) j (List.mem_range.mpr hj)
  simpa [h] using h1
theorem fN_ne {t i j : Nat} (hi : i < nfl t) (hj : j < nfl t) (h : i ≠ j) : fN t i ≠ fN t j := by
  have hb : t < 16 := Nat.lt_of_not_le fun q => by
    have : nfl t = 0 := by unfold nfl; rw [show Nat.blt t 16 = false from by rw [← Bool.not_eq_true, Nat.blt_eq]; omega]; rfl
    rw [this] at hi; exact absurd hi (Nat.not_lt_zero _)
  exact fN_all t hb i j hi hj h
theorem lf_ok {Z : State} {a0 : Array Value} (hw : ∀ d ∈ tables_1, d.before a0 Z = true) {r : Nat} (h : r < nLF) : (Jvm.Cond.fieldLink (kls (lfK r)) (lfI r) (fO (lfT r) (lfP r)) (fN (lfT r) (lfP r)) (fD (lfT r) (lfP r))).before a0 Z = true := by
  match r, h with
  | 0, _ => exact (hw _ (List.mem_of_getElem? (i := 24) rfl))
  | 1, _ => exact (hw _ (List.mem_of_getElem? (i := 34) rfl))
  | 2, _ => exact (hw _ (List.mem_of_getElem? (i := 36) rfl))
  | 3, _ => exact (hw _ (List.mem_of_getElem? (i := 38) rfl))
  | 4, _ => exact (hw _ (List.mem_of_getElem? (i := 49) rfl))
  | 5, _ => exact (hw _ (List.mem_of_getElem? (i := 52) rfl))
  | 6, _ => exact (hw _ (List.mem_of_getElem? (i := 56) rfl))
  | 7, _ => exact (hw _ (List.mem_of_getElem? (i := 58) rfl))
  | 8, _ => exact (hw _ (List.mem_of_getElem? (i := 60) rfl))
  | 9, _ => exact (hw _ (List.mem_of_getElem? (i := 63) rfl))
  | 10, _ => exact (hw _ (List.mem_of_getElem? (i := 66) rfl))
  | 11, _ => exact (hw _ (List.mem_of_getElem? (i := 70) rfl))
  | 12, _ => exact (hw _ (List.mem_of_getElem? (i := 74) rfl))
  | 13, _ => exact (hw _ (List.mem_of_getElem? (i := 76) rfl))
  | 14, _ => exact (hw _ (List.mem_of_getElem? (i := 78) rfl))
  | 15, _ => exact (hw _ (List.mem_of_getElem? (i := 80) rfl))
  | 16, _ => exact (hw _ (List.mem_of_getElem? (i := 82) rfl))
  | 17, _ => exact (hw _ (List.mem_of_getElem? (i := 84) rfl))
  | 18, _ => exact (hw _ (List.mem_of_getElem? (i := 91) rfl))
  | 19, _ => exact (hw _ (List.mem_of_getElem? (i := 93) rfl))
  | 20, _ => exact (hw _ (List.mem_of_getElem? (i := 95) rfl))
  | 21, _ => exact (hw _ (List.mem_of_getElem? (i := 97) rfl))
  | 22, _ => exact (hw _ (List.mem_of_getElem? (i := 99) rfl))
  | 23, _ => exact (hw _ (List.mem_of_getElem? (i := 101) rfl))
  | 24, _ => exact (hw _ (List.mem_of_getElem? (i := 103) rfl))
  | 25, _ => exact (hw _ (List.mem_of_getElem? (i := 105) rfl))
  | 26, _ => exact (hw _ (List.mem_of_getElem? (i := 107) rfl))
  | 27, _ => exact (hw _ (List.mem_of_getElem? (i := 109) rfl))
  | 28, _ => exact (hw _ (List.mem_of_getElem? (i := 111) rfl))
  | 29, _ => exact (hw _ (List.mem_of_getElem? (i := 113) rfl))
  | 30, _ => exact (hw _ (List.mem_of_getElem? (i := 115) rfl))
  | 31, _ => exact (hw _ (List.mem_of_getElem? (i := 117) rfl))
  | 32, _ => exact (hw _ (List.mem_of_getElem? (i := 119) rfl))
  | 33, _ => exact (hw _ (List.mem_of_getElem? (i := 121) rfl))
  | 34, _ => exact (hw _ (List.mem_of_getElem? (i := 123) rfl))
  | 35, _ => exact (hw _ (List.mem_of_getElem? (i := 153) rfl))
  | 36, _ => exact (hw _ (List.mem_of_getElem? (i := 176) rfl))
  | 37, _ => exact (hw _ (List.mem_of_getElem? (i := 178) rfl))
  | 38, _ => exact (hw _ (List.mem_of_getElem? (i := 188) rfl))
  | 39, _ => exact (hw _ (List.mem_of_getElem? (i := 191) rfl))
  | 40, _ => exact (hw _ (List.mem_of_getElem? (i := 193) rfl))
  | 41, _ => exact (hw _ (List.mem_of_getElem? (i := 195) rfl))
  | 42, _ => exact (hw _ (List.mem_of_getElem? (i := 197) rfl))
  | 43, _ => exact (hw _ (List.mem_of_getElem? (i := 199) rfl))
  | k + 44, h => exact absurd h (Nat.not_lt.mpr (Nat.le_add_left _ _))
theorem lc_ok {Z : State} {a0 : Array Value} (hw : ∀ d ∈ tables_1, d.before a0 Z = true) {r : Nat} (h : r < nLC) : (Jvm.Cond.classLink (kls (lcK r)) (lcI r) (cname (lcT r))).before a0 Z = true := by
  match r, h with
  | 0, _ => exact (hw _ (List.mem_of_getElem? (i := 6) rfl))
  | 1, _ => exact (hw _ (List.mem_of_getElem? (i := 15) rfl))
  | 2, _ => exact (hw _ (List.mem_of_getElem? (i := 22) rfl))
  | 3, _ => exact (hw _ (List.mem_of_getElem? (i := 40) rfl))
  | 4, _ => exact (hw _ (List.mem_of_getElem? (i := 47) rfl))
  | 5, _ => exact (hw _ (List.mem_of_getElem? (i := 54) rfl))
  | 6, _ => exact (hw _ (List.mem_of_getElem? (i := 68) rfl))
  | 7, _ => exact (hw _ (List.mem_of_getElem? (i := 72) rfl))
  | k + 8, h => exact absurd h (Nat.not_lt.mpr (Nat.le_add_left _ _))
theorem lk_ok {Z : State} {a0 : Array Value} (hw : ∀ d ∈ tables_1, d.before a0 Z = true) {r : Nat} (h : r < nLK) : (Jvm.Cond.constant (kls (lkK r)) (lkI r) (lkV r)).before a0 Z = true := by
  match r, h with
  | 0, _ => exact (hw _ (List.mem_of_getElem? (i := 5) rfl))
  | 1, _ => exact (hw _ (List.mem_of_getElem? (i := 33) rfl))
  | k + 2, h => exact absurd h (Nat.not_lt.mpr (Nat.le_add_left _ _))
theorem pn_0 : plainName "com/example/latticut/latticut/io/PlainTokensStartPinLaw" = true := by first | (simp [plainName, overriddenIn]; done) | decide +kernel
theorem pn_1 : plainName "com/example/latticut/latticut/io/PlainTokens" = true := by first | (simp [plainName, overriddenIn]; done) | decide +kernel
theorem pn_2 : plainName "com/example/latticut/latticut/io/PlainTokens$Names" = true := by first | (simp [plainName, overriddenIn]; done) | decide +kernel
theorem pn_3 : plainName "java/lang/Integer" = true := by first | (simp [plainName, overriddenIn]; done) | decide +kernel
theorem pn_4 : plainName "com/example/latticut/latticut/io/Texts" = true := by first | (simp [plainName, overriddenIn]; done) | decide +kernel
theorem mPl_ok {mj : Nat} (h : mj < nM) : plainFor (mName mj) = true := by
  match mj, h with
  | 0, _ => exact (plainFor_of_name pn_0)
  | 1, _ => exact (plainFor_of_name pn_0)
  | 2, _ => exact (plainFor_of_name pn_1)
  | 3, _ => exact (plainFor_of_name pn_2)
  | 4, _ => exact (plainFor_of_name pn_2)
  | 5, _ => exact (plainFor_of_name pn_3)
  | 6, _ => exact (plainFor_of_name pn_4)
  | 7, _ => exact (plainFor_of_name pn_1)
  | 8, _ => exact (plainFor_of_name pn_1)
  | 9, _ => exact (plainFor_of_name pn_0)
  | 10, _ => exact (plainFor_of_name pn_0)
  | 11, _ => exact (plainFor_of_name pn_1)
  | 12, _ => exact (plainFor_of_name pn_1)
  | 13, _ => exact (plainFor_of_name pn_1)
  | 14, _ => exact (Jvm.Free.JP.mathPlain rfl (by decide +kernel))
  | 15, _ => exact (plainFor_of_name pn_1)
  | 16, _ => exact (plainFor_of_name pn_1)
  | 17, _ => exact (plainFor_of_name pn_1)
  | 18, _ => exact (plainFor_of_name pn_1)
  | 19, _ => exact (plainFor_of_name pn_1)
  | k + 20, h => exact absurd h (Nat.not_lt.mpr (Nat.le_add_left _ _))
theorem mRk_ok (mi : Nat) : (mRk mi = 0 → mRet mi = none) ∧ (mRk mi = 1 → mRet mi = some .int) ∧ (mRk mi = 2 → mRet mi = some .boolean) ∧ (mRk mi = 4 → mRet mi = some .byte) ∧ (mRk mi = 3 → ∃ ty, mRet mi = some ty ∧ ty.isReference = true) := by
  by_cases hb : mi < 20
  · match mi, hb with
    | 0, _ => exact ⟨fun q => absurd q (by decide), fun q => absurd q (by decide), fun _ => rfl, fun q => absurd q (by decide), fun q => absurd q (by decide)⟩
    | 1, _ => exact ⟨fun q => absurd q (by decide), fun q => absurd q (by decide), fun q => absurd q (by decide), fun _ => rfl, fun q => absurd q (by decide)⟩
    | 2, _ => exact ⟨fun _ => rfl, fun q => absurd q (by decide), fun q => absurd q (by decide), fun q => absurd q (by decide), fun q => absurd q (by decide)⟩
    | 3, _ => exact ⟨fun _ => rfl, fun q => absurd q (by decide), fun q => absurd q (by decide), fun q => absurd q (by decide), fun q => absurd q (by decide)⟩
    | 4, _ => exact ⟨fun q => absurd q (by decide), fun _ => rfl, fun q => absurd q (by decide), fun q => absurd q (by decide), fun q => absurd q (by decide)⟩
    | 5, _ => exact ⟨fun q => absurd q (by decide), fun _ => rfl, fun q => absurd q (by decide), fun q => absurd q (by decide), fun q => absurd q (by decide)⟩
    | 6, _ => exact ⟨fun _ => rfl, fun q => absurd q (by decide), fun q => absurd q (by decide), fun q => absurd q (by decide), fun q => absurd q (by decide)⟩
    | 7, _ => exact ⟨fun _ => rfl, fun q => absurd q (by decide), fun q => absurd q (by decide), fun q => absurd q (by decide), fun q => absurd q (by decide)⟩
    | 8, _ => exact ⟨fun q => absurd q (by decide), fun q => absurd q (by decide), fun q => absurd q (by decide), fun q => absurd q (by decide), fun _ => ⟨_, rfl, rfl⟩⟩
    | 9, _ => exact ⟨fun q => absurd q (by decide), fun _ => rfl, fun q => absurd q (by decide), fun q => absurd q (by decide), fun q => absurd q (by decide)⟩
    | 10, _ => exact ⟨fun q => absurd q (by decide), fun q => absurd q (by decide), fun _ => rfl, fun q => absurd q (by decide), fun q => absurd q (by decide)⟩
    | 11, _ => exact ⟨fun q => absurd q (by decide), fun q => absurd q (by decide), fun _ => rfl, fun q => absurd q (by decide), fun q => absurd q (by decide)⟩
    | 12, _ => exact ⟨fun _ => rfl, fun q => absurd q (by decide), fun q => absurd q (by decide), fun q => absurd q (by decide), fun q => absurd q (by decide)⟩
    | 13, _ => exact ⟨fun q => absurd q (by decide), fun q => absurd q (by decide), fun q => absurd q (by decide), fun _ => rfl, fun q => absurd q (by decide)⟩
    | 14, _ => exact ⟨fun q => absurd q (by decide), fun _ => rfl, fun q => absurd q (by decide), fun q => absurd q (by decide), fun q => absurd q (by decide)⟩
    | 15, _ => exact ⟨fun q => absurd q (by decide), fun _ => rfl, fun q => absurd q (by decide), fun q => absurd q (by decide), fun q => absurd q (by decide)⟩
    | 16, _ => exact ⟨fun q => absurd q (by decide), fun q => absurd q (by decide), fun q => absurd q (by decide), fun q => absurd q (by decide), fun _ => ⟨_, rfl, rfl⟩⟩
    | 17, _ => exact ⟨fun q => absurd q (by decide), fun q => absurd q (by decide), fun q => absurd q (by decide), fun q => absurd q (by decide), fun _ => ⟨_, rfl, rfl⟩⟩
    | 18, _ => exact ⟨fun _ => rfl, fun q => absurd q (by decide), fun q => absurd q (by decide), fun q => absurd q (by decide), fun q => absurd q (by decide)⟩
    | 19, _ => exact ⟨fun q => absurd q (by decide), fun q => absurd q (by decide), fun q => absurd q (by decide), fun q => absurd q (by decide), fun _ => ⟨_, rfl, rfl⟩⟩
    | k + 20, hb => exact absurd hb (Nat.not_lt.mpr (Nat.le_add_left _ _))
  · have hz : Nat.blt mi 20 = false := by rw [← Bool.not_eq_true, Nat.blt_eq]; exact hb
    have h1 : mRk mi = 0 := by unfold mRk; rw [hz]; rfl
    have h2 : mRet mi = none := by unfold mRet; rw [hz]; rfl
    rw [h1, h2]
    exact ⟨fun _ => rfl, fun q => absurd q (by decide), fun q => absurd q (by decide), fun q => absurd q (by decide), fun q => absurd q (by decide)⟩
theorem mcode_ok {Z : State} {a0 : Array Value} (hw : ∀ d ∈ tables_1, d.before a0 Z = true) {mj : Nat} (h : mj < nM) (h0 : mj ≠ 0) : (Jvm.Cond.code (mName mj) (mCode mj) (mMax mj) (mRet mj)).before a0 Z = true ∧ (Jvm.Cond.initialized (mName mj).cls).before a0 Z = true := by
  match mj, h, h0 with
  | 0, _, h0 => exact absurd rfl h0
  | 1, _, _ => exact ⟨(hw _ (List.mem_of_getElem? (i := 4) rfl)), (hw _ (List.mem_of_getElem? (i := 3) rfl))⟩
  | 2, _, _ => exact ⟨(hw _ (List.mem_of_getElem? (i := 11) rfl)), (hw _ (List.mem_of_getElem? (i := 8) rfl))⟩
  | 3, _, _ => exact ⟨(hw _ (List.mem_of_getElem? (i := 20) rfl)), (hw _ (List.mem_of_getElem? (i := 17) rfl))⟩
  | 4, _, _ => exact ⟨(hw _ (List.mem_of_getElem? (i := 28) rfl)), (hw _ (List.mem_of_getElem? (i := 17) rfl))⟩
  | 5, _, _ => exact ⟨(hw _ (List.mem_of_getElem? (i := 32) rfl)), (hw _ (List.mem_of_getElem? (i := 31) rfl))⟩
  | 6, _, _ => exact ⟨(hw _ (List.mem_of_getElem? (i := 45) rfl)), (hw _ (List.mem_of_getElem? (i := 42) rfl))⟩
  | 7, _, _ => exact ⟨(hw _ (List.mem_of_getElem? (i := 90) rfl)), (hw _ (List.mem_of_getElem? (i := 8) rfl))⟩
  | 8, _, _ => exact ⟨(hw _ (List.mem_of_getElem? (i := 129) rfl)), (hw _ (List.mem_of_getElem? (i := 8) rfl))⟩
  | 9, _, _ => exact ⟨(hw _ (List.mem_of_getElem? (i := 132) rfl)), (hw _ (List.mem_of_getElem? (i := 3) rfl))⟩
  | 10, _, _ => exact ⟨(hw _ (List.mem_of_getElem? (i := 135) rfl)), (hw _ (List.mem_of_getElem? (i := 3) rfl))⟩
  | 11, _, _ => exact ⟨(hw _ (List.mem_of_getElem? (i := 140) rfl)), (hw _ (List.mem_of_getElem? (i := 8) rfl))⟩
  | 12, _, _ => exact ⟨(hw _ (List.mem_of_getElem? (i := 144) rfl)), (hw _ (List.mem_of_getElem? (i := 8) rfl))⟩
  | 13, _, _ => exact ⟨(hw _ (List.mem_of_getElem? (i := 148) rfl)), (hw _ (List.mem_of_getElem? (i := 8) rfl))⟩
  | 14, _, _ => exact ⟨(hw _ (List.mem_of_getElem? (i := 152) rfl)), (hw _ (List.mem_of_getElem? (i := 151) rfl))⟩
  | 15, _, _ => exact ⟨(hw _ (List.mem_of_getElem? (i := 159) rfl)), (hw _ (List.mem_of_getElem? (i := 8) rfl))⟩
  | 16, _, _ => exact ⟨(hw _ (List.mem_of_getElem? (i := 164) rfl)), (hw _ (List.mem_of_getElem? (i := 8) rfl))⟩
  | 17, _, _ => exact ⟨(hw _ (List.mem_of_getElem? (i := 171) rfl)), (hw _ (List.mem_of_getElem? (i := 8) rfl))⟩
  | 18, _, _ => exact ⟨(hw _ (List.mem_of_getElem? (i := 175) rfl)), (hw _ (List.mem_of_getElem? (i := 8) rfl))⟩
  | 19, _, _ => exact ⟨(hw _ (List.mem_of_getElem? (i := 187) rfl)), (hw _ (List.mem_of_getElem? (i := 8) rfl))⟩
  | k + 20, h, _ => exact absurd h (Nat.not_lt.mpr (Nat.le_add_left _ _))
theorem site_ne0 {r : Nat} (h : r < nS) (hj : sJ r < nM) : sJ r ≠ 0 := by
  match r, h, hj with
  | 0, _, hj => exact (by decide : ¬ sJ 0 = 0)
  | 1, _, hj => exact (by decide : ¬ sJ 1 = 0)
  | 2, _, hj => exact (by decide : ¬ sJ 2 = 0)
  | 3, _, hj => exact (by decide : ¬ sJ 3 = 0)
  | 4, _, hj => exact (by decide : ¬ sJ 4 = 0)
  | 5, _, hj => exact (by decide : ¬ sJ 5 = 0)
  | 6, _, hj => exact (by decide : ¬ sJ 6 = 0)
  | 7, _, hj => exact (by decide : ¬ sJ 7 = 0)
  | 8, _, hj => exact (by decide : ¬ sJ 8 = 0)
  | 9, _, hj => exact (by decide : ¬ sJ 9 = 0)
  | 10, _, hj => exact (by decide : ¬ sJ 10 = 0)
  | 11, _, hj => exact (by decide : ¬ sJ 11 = 0)
  | 12, _, hj => exact (by decide : ¬ sJ 12 = 0)
  | 13, _, hj => exact (by decide : ¬ sJ 13 = 0)
  | 14, _, hj => exact (by decide : ¬ sJ 14 = 0)
  | 15, _, hj => exact (by decide : ¬ sJ 15 = 0)
  | 16, _, hj => exact (by decide : ¬ sJ 16 = 0)
  | 17, _, hj => exact (by decide : ¬ sJ 17 = 0)
  | 18, _, hj => exact (by decide : ¬ sJ 18 = 0)
  | 19, _, hj => exact (by decide : ¬ sJ 19 = 0)
  | 20, _, hj => exact (by decide : ¬ sJ 20 = 0)
  | 21, _, hj => exact (by decide : ¬ sJ 21 = 0)
  | k + 22, h, _ => exact absurd h (Nat.not_lt.mpr (Nat.le_add_left _ _))
theorem pd_0 : parseMethodDescriptor "(I)B" = some ⟨[.int], some .byte⟩ := by decide +kernel
theorem pd_1 : parseMethodDescriptor "()V" = some ⟨[], none⟩ := by decide +kernel
theorem pd_2 : parseMethodDescriptor "([Lcom/example/latticut/latticut/io/PlainTokens$Name;)I" = some ⟨[(.array (.object "com/example/latticut/latticut/io/PlainTokens$Name"))], some .int⟩ := by decide +kernel
theorem pd_3 : parseMethodDescriptor "(I)I" = some ⟨[.int], some .int⟩ := by decide +kernel
theorem pd_4 : parseMethodDescriptor "([BIIZ)V" = some ⟨[(.array .byte), .int, .int, .boolean], none⟩ := by decide +kernel
theorem pd_5 : parseMethodDescriptor "()Lcom/example/latticut/latticut/io/Token;" = some ⟨[], some (.object "com/example/latticut/latticut/io/Token")⟩ := by decide +kernel
theorem pd_6 : parseMethodDescriptor "([BII)I" = some ⟨[(.array .byte), .int, .int], some .int⟩ := by decide +kernel
theorem pd_7 : parseMethodDescriptor "(B)Z" = some ⟨[.byte], some .boolean⟩ := by decide +kernel
theorem pd_8 : parseMethodDescriptor "()Z" = some ⟨[], some .boolean⟩ := by decide +kernel
theorem pd_9 : parseMethodDescriptor "()B" = some ⟨[], some .byte⟩ := by decide +kernel
theorem pd_10 : parseMethodDescriptor "(II)I" = some ⟨[.int, .int], some .int⟩ := by decide +kernel
theorem pd_11 : parseMethodDescriptor "()I" = some ⟨[], some .int⟩ := by decide +kernel
theorem pd_12 : parseMethodDescriptor "(Z)V" = some ⟨[.boolean], none⟩ := by decide +kernel
theorem pd_13 : parseMethodDescriptor "(Lcom/example/latticut/latticut/io/Token;)Lcom/example/latticut/latticut/io/Token;" = some ⟨[(.object "com/example/latticut/latticut/io/Token")], some (.object "com/example/latticut/latticut/io/Token")⟩ := by decide +kernel
theorem site_ok {Z : State} {a0 : Array Value} (hw : ∀ d ∈ tables_1, d.before a0 Z = true) {r : Nat} (h : r < nS) (hj : sJ r < nM) : SiteG Z (kls (sK r)) (sOp r) (sI r) (mName (sJ r)) (mPar (sJ r)) (cname (sT r)) := by
  match r, h, hj with
  | 0, _, _ => exact siteS (hw _ (List.mem_of_getElem? (i := 1) rfl)) (hw _ (List.mem_of_getElem? (i := 2) rfl)) (hw _ (List.mem_of_getElem? (i := 3) rfl)) (hw _ (List.mem_of_getElem? (i := 4) rfl)) (by decide) pd_0 rfl
  | 1, _, _ => exact siteI rfl (hw _ (List.mem_of_getElem? (i := 9) rfl)) (hw _ (List.mem_of_getElem? (i := 10) rfl)) (hw _ (List.mem_of_getElem? (i := 11) rfl)) (by decide) pd_1 rfl
  | 2, _, hj => exact absurd hj (by decide)
  | 3, _, _ => exact siteR rfl (hw _ (List.mem_of_getElem? (i := 18) rfl)) (hw _ (List.mem_of_getElem? (i := 19) rfl)) (hw _ (List.mem_of_getElem? (i := 20) rfl)) (by decide) pd_1 rfl
  | 4, _, hj => exact absurd hj (by decide)
  | 5, _, _ => exact siteS (hw _ (List.mem_of_getElem? (i := 26) rfl)) (hw _ (List.mem_of_getElem? (i := 27) rfl)) (hw _ (List.mem_of_getElem? (i := 17) rfl)) (hw _ (List.mem_of_getElem? (i := 28) rfl)) (by decide) pd_2 rfl
  | 6, _, _ => exact siteS (hw _ (List.mem_of_getElem? (i := 29) rfl)) (hw _ (List.mem_of_getElem? (i := 30) rfl)) (hw _ (List.mem_of_getElem? (i := 31) rfl)) (hw _ (List.mem_of_getElem? (i := 32) rfl)) (by decide) pd_3 rfl
  | 7, _, _ => exact siteI rfl (hw _ (List.mem_of_getElem? (i := 43) rfl)) (hw _ (List.mem_of_getElem? (i := 44) rfl)) (hw _ (List.mem_of_getElem? (i := 45) rfl)) (by decide) pd_1 rfl
  | 8, _, hj => exact absurd hj (by decide)
  | 9, _, _ => exact siteV (hw _ (List.mem_of_getElem? (i := 86) rfl)) (hw _ (List.mem_of_getElem? (i := 87) rfl)) (fun s hZ => own_nf (args := #[]) (mvT hZ (hw _ (List.mem_of_getElem? (i := 89) rfl))) rfl) (hw _ (List.mem_of_getElem? (i := 89) rfl)) (hw _ (List.mem_of_getElem? (i := 88) rfl)) (by decide) pd_4 rfl
  | 10, _, _ => exact siteV (hw _ (List.mem_of_getElem? (i := 125) rfl)) (hw _ (List.mem_of_getElem? (i := 126) rfl)) (fun s hZ => own_nf (args := #[]) (mvT hZ (hw _ (List.mem_of_getElem? (i := 89) rfl))) rfl) (hw _ (List.mem_of_getElem? (i := 128) rfl)) (hw _ (List.mem_of_getElem? (i := 127) rfl)) (by decide) pd_5 rfl
  | 11, _, _ => exact siteS (hw _ (List.mem_of_getElem? (i := 130) rfl)) (hw _ (List.mem_of_getElem? (i := 131) rfl)) (hw _ (List.mem_of_getElem? (i := 3) rfl)) (hw _ (List.mem_of_getElem? (i := 132) rfl)) (by decide) pd_6 rfl
  | 12, _, _ => exact siteS (hw _ (List.mem_of_getElem? (i := 133) rfl)) (hw _ (List.mem_of_getElem? (i := 134) rfl)) (hw _ (List.mem_of_getElem? (i := 3) rfl)) (hw _ (List.mem_of_getElem? (i := 135) rfl)) (by decide) pd_7 rfl
  | 13, _, _ => exact siteV (hw _ (List.mem_of_getElem? (i := 136) rfl)) (hw _ (List.mem_of_getElem? (i := 137) rfl)) (fun s hZ => own_nf (args := #[]) (mvT hZ (hw _ (List.mem_of_getElem? (i := 89) rfl))) rfl) (hw _ (List.mem_of_getElem? (i := 139) rfl)) (hw _ (List.mem_of_getElem? (i := 138) rfl)) (by decide) pd_8 rfl
  | 14, _, _ => exact siteP (hw _ (List.mem_of_getElem? (i := 141) rfl)) (hw _ (List.mem_of_getElem? (i := 142) rfl)) (fun s hZ => own_nf (args := #[]) (mvT hZ (hw _ (List.mem_of_getElem? (i := 89) rfl))) rfl) (hw _ (List.mem_of_getElem? (i := 143) rfl)) (hw _ (List.mem_of_getElem? (i := 144) rfl)) (by decide) pd_1 rfl
  | 15, _, _ => exact siteP (hw _ (List.mem_of_getElem? (i := 145) rfl)) (hw _ (List.mem_of_getElem? (i := 146) rfl)) (fun s hZ => own_nf (args := #[]) (mvT hZ (hw _ (List.mem_of_getElem? (i := 89) rfl))) rfl) (hw _ (List.mem_of_getElem? (i := 147) rfl)) (hw _ (List.mem_of_getElem? (i := 148) rfl)) (by decide) pd_9 rfl
  | 16, _, _ => exact siteS (hw _ (List.mem_of_getElem? (i := 149) rfl)) (hw _ (List.mem_of_getElem? (i := 150) rfl)) (hw _ (List.mem_of_getElem? (i := 151) rfl)) (hw _ (List.mem_of_getElem? (i := 152) rfl)) (by decide) pd_10 rfl
  | 17, _, _ => exact siteV (hw _ (List.mem_of_getElem? (i := 155) rfl)) (hw _ (List.mem_of_getElem? (i := 156) rfl)) (fun s hZ => own_nf (args := #[]) (mvT hZ (hw _ (List.mem_of_getElem? (i := 89) rfl))) rfl) (hw _ (List.mem_of_getElem? (i := 158) rfl)) (hw _ (List.mem_of_getElem? (i := 157) rfl)) (by decide) pd_11 rfl
  | 18, _, _ => exact siteV (hw _ (List.mem_of_getElem? (i := 160) rfl)) (hw _ (List.mem_of_getElem? (i := 161) rfl)) (fun s hZ => own_nf (args := #[]) (mvT hZ (hw _ (List.mem_of_getElem? (i := 89) rfl))) rfl) (hw _ (List.mem_of_getElem? (i := 163) rfl)) (hw _ (List.mem_of_getElem? (i := 162) rfl)) (by decide) pd_5 rfl
  | 19, _, _ => exact siteP (hw _ (List.mem_of_getElem? (i := 168) rfl)) (hw _ (List.mem_of_getElem? (i := 169) rfl)) (fun s hZ => own_nf (args := #[]) (mvT hZ (hw _ (List.mem_of_getElem? (i := 89) rfl))) rfl) (hw _ (List.mem_of_getElem? (i := 170) rfl)) (hw _ (List.mem_of_getElem? (i := 171) rfl)) (by decide) pd_5 rfl
  | 20, _, _ => exact siteP (hw _ (List.mem_of_getElem? (i := 172) rfl)) (hw _ (List.mem_of_getElem? (i := 173) rfl)) (fun s hZ => own_nf (args := #[]) (mvT hZ (hw _ (List.mem_of_getElem? (i := 89) rfl))) rfl) (hw _ (List.mem_of_getElem? (i := 174) rfl)) (hw _ (List.mem_of_getElem? (i := 175) rfl)) (by decide) pd_12 rfl
  | 21, _, _ => exact siteP (hw _ (List.mem_of_getElem? (i := 184) rfl)) (hw _ (List.mem_of_getElem? (i := 185) rfl)) (fun s hZ => own_nf (args := #[]) (mvT hZ (hw _ (List.mem_of_getElem? (i := 89) rfl))) rfl) (hw _ (List.mem_of_getElem? (i := 186) rfl)) (hw _ (List.mem_of_getElem? (i := 187) rfl)) (by decide) pd_13 rfl
  | k + 22, h, _ => exact absurd h (Nat.not_lt.mpr (Nat.le_add_left _ _))
theorem site1_ok {Z : State} {a0 : Array Value} (hw : ∀ d ∈ tables_1, d.before a0 Z = true) {r : Nat} (h : r < nS) (hn : sNat r = 1) : sOp r = 1 ∧ (Jvm.Cond.methodLink (kls (sK r)) (sI r) Lib.objectInit).before a0 Z = true ∧ (Jvm.Cond.instanceMethod Lib.objectInit).before a0 Z = true ∧ (Jvm.Cond.code Lib.objectInit ⟨#[0xb1]⟩ 1 none).before a0 Z = true := by
  match r, h, hn with
  | 0, _, hn => exact absurd hn (by decide)
  | 1, _, hn => exact absurd hn (by decide)
  | 2, _, hn => exact ⟨rfl, (hw _ (List.mem_of_getElem? (i := 12) rfl)), (hw _ (List.mem_of_getElem? (i := 13) rfl)), (hw _ (List.mem_of_getElem? (i := 14) rfl))⟩
  | 3, _, hn => exact absurd hn (by decide)
  | 4, _, hn => exact ⟨rfl, (hw _ (List.mem_of_getElem? (i := 21) rfl)), (hw _ (List.mem_of_getElem? (i := 13) rfl)), (hw _ (List.mem_of_getElem? (i := 14) rfl))⟩
  | 5, _, hn => exact absurd hn (by decide)
  | 6, _, hn => exact absurd hn (by decide)
  | 7, _, hn => exact absurd hn (by decide)
  | 8, _, hn => exact ⟨rfl, (hw _ (List.mem_of_getElem? (i := 46) rfl)), (hw _ (List.mem_of_getElem? (i := 13) rfl)), (hw _ (List.mem_of_getElem? (i := 14) rfl))⟩
  | 9, _, hn => exact absurd hn (by decide)
  | 10, _, hn => exact absurd hn (by decide)
  | 11, _, hn => exact absurd hn (by decide)
  | 12, _, hn => exact absurd hn (by decide)
  | 13, _, hn => exact absurd hn (by decide)
  | 14, _, hn => exact absurd hn (by decide)
  | 15, _, hn => exact absurd hn (by decide)
  | 16, _, hn => exact absurd hn (by decide)
  | 17, _, hn => exact absurd hn (by decide)
  | 18, _, hn => exact absurd hn (by decide)
  | 19, _, hn => exact absurd hn (by decide)
  | 20, _, hn => exact absurd hn (by decide)
  | 21, _, hn => exact absurd hn (by decide)
  | k + 22, h, _ => exact absurd h (Nat.not_lt.mpr (Nat.le_add_left _ _))
theorem site2_ok {Z : State} {a0 : Array Value} (hw : ∀ d ∈ tables_1, d.before a0 Z = true) {r : Nat} (h : r < nS) (hn : sNat r = 2) : sOp r = 0 ∧ (Jvm.Cond.methodLink (kls (sK r)) (sI r) Jvm.Stand.acN).before a0 Z = true ∧ (Jvm.Cond.native Jvm.Stand.acN).before a0 Z = true ∧ (Jvm.Cond.static Jvm.Stand.acN).before a0 Z = true ∧ (Jvm.Cond.initialized "java/lang/System").before a0 Z = true := by
  match r, h, hn with
  | 0, _, hn => exact absurd hn (by decide)
  | 1, _, hn => exact absurd hn (by decide)
  | 2, _, hn => exact absurd hn (by decide)
  | 3, _, hn => exact absurd hn (by decide)
  | 4, _, hn => exact absurd hn (by decide)
  | 5, _, hn => exact absurd hn (by decide)
  | 6, _, hn => exact absurd hn (by decide)
  | 7, _, hn => exact absurd hn (by decide)
  | 8, _, hn => exact absurd hn (by decide)
  | 9, _, hn => exact absurd hn (by decide)
  | 10, _, hn => exact absurd hn (by decide)
  | 11, _, hn => exact absurd hn (by decide)
  | 12, _, hn => exact absurd hn (by decide)
  | 13, _, hn => exact absurd hn (by decide)
  | 14, _, hn => exact absurd hn (by decide)
  | 15, _, hn => exact absurd hn (by decide)
  | 16, _, hn => exact absurd hn (by decide)
  | 17, _, hn => exact absurd hn (by decide)
  | 18, _, hn => exact absurd hn (by decide)
  | 19, _, hn => exact absurd hn (by decide)
  | 20, _, hn => exact absurd hn (by decide)
  | 21, _, hn => exact absurd hn (by decide)
  | k + 22, h, _ => exact absurd h (Nat.not_lt.mpr (Nat.le_add_left _ _))
theorem site3_ok {Z : State} {a0 : Array Value} (hw : ∀ d ∈ tables_1, d.before a0 Z = true) {r : Nat} (h : r < nS) (hn : sNat r = 3) : sOp r = 2 ∧ (Jvm.Cond.methodLink (kls (sK r)) (sI r) ⟨cname (sT r), "clone", "()Ljava/lang/Object;"⟩).before a0 Z = true ∧ (Jvm.Cond.sameMethod (cname (sT r)) "java/lang/Object" "clone" "()Ljava/lang/Object;").before a0 Z = true ∧ (Jvm.Cond.native ⟨"java/lang/Object", "clone", "()Ljava/lang/Object;"⟩).before a0 Z = true ∧ (Jvm.Cond.instanceMethod ⟨"java/lang/Object", "clone", "()Ljava/lang/Object;"⟩).before a0 Z = true ∧ (Jvm.Cond.selects (cname (sT r)) ⟨cname (sT r), "clone", "()Ljava/lang/Object;"⟩ ⟨"java/lang/Object", "clone", "()Ljava/lang/Object;"⟩).before a0 Z = true ∧ (Jvm.Cond.castable (cname (sT r)) "java/lang/Cloneable").before a0 Z = true := by
  match r, h, hn with
  | 0, _, hn => exact absurd hn (by decide)
  | 1, _, hn => exact absurd hn (by decide)
  | 2, _, hn => exact absurd hn (by decide)
  | 3, _, hn => exact absurd hn (by decide)
  | 4, _, hn => exact absurd hn (by decide)
  | 5, _, hn => exact absurd hn (by decide)
  | 6, _, hn => exact absurd hn (by decide)
  | 7, _, hn => exact absurd hn (by decide)
  | 8, _, hn => exact absurd hn (by decide)
  | 9, _, hn => exact absurd hn (by decide)
  | 10, _, hn => exact absurd hn (by decide)
  | 11, _, hn => exact absurd hn (by decide)
  | 12, _, hn => exact absurd hn (by decide)
  | 13, _, hn => exact absurd hn (by decide)
  | 14, _, hn => exact absurd hn (by decide)
  | 15, _, hn => exact absurd hn (by decide)
  | 16, _, hn => exact absurd hn (by decide)
  | 17, _, hn => exact absurd hn (by decide)
  | 18, _, hn => exact absurd hn (by decide)
  | 19, _, hn => exact absurd hn (by decide)
  | 20, _, hn => exact absurd hn (by decide)
  | 21, _, hn => exact absurd hn (by decide)
  | k + 22, h, _ => exact absurd h (Nat.not_lt.mpr (Nat.le_add_left _ _))
section Sound
variable {Z : State} {w : Wl} {a0 : Array Value} {A : List Asm} {p : Program} {l : Launch} {e : Env} {R : Room} {s : State} {m : MethodId} {args : Array Value} {below : List Frame} {meth : Method} {c : Code} {T : State} {locs : List Loc} {cells slots : Nat} {mi pc k r : Nat} {Ls : List (Option Term)} {S : List Term} {H : AH} {st : St}
theorem st1 {t : Term} {S' : List Term} (h : isI t = true) : (t :: S').map (cv w) = .int (tv w.2.1 t) :: S'.map (cv w) := by rw [List.map_cons, cv_I h]
theorem st2 {a b : Term} {S' : List Term} (ha : isI a = true) (hb : isI b = true) : (b :: a :: S').map (cv w) = .int (tv w.2.1 b) :: .int (tv w.2.1 a) :: S'.map (cv w) := by rw [List.map_cons, List.map_cons, cv_I ha, cv_I hb]
theorem stD {a : Term} {k : Int32} {S' : List Term} (ha : isI a = true) : (Term.int k :: a :: S').map (cv w) = .int k :: .int (tv w.2.1 a) :: S'.map (cv w) := by rw [List.map_cons, List.map_cons, cv_I ha]; rfl
theorem stL {a : Term} {S' : List Term} (ha : isL a = true) : (a :: S').map (cv w) = .long (tl w.2.1 a) :: S'.map (cv w) := by rw [List.map_cons, cv_L ha]
theorem stLD {a : Term} {k : Int32} {S' : List Term} (ha : isL a = true) : (Term.int k :: a :: S').map (cv w) = .int k :: .long (tl w.2.1 a) :: S'.map (cv w) := by rw [List.map_cons, List.map_cons, cv_L ha]; rfl
theorem range_get {n j b : Nat} (h : j < n) : ((List.range n).map fun i => b + 1 + i)[j]? = some (b + 1 + j) := by simp [h]
theorem sBr_ok (hx : p.tables.exec = Jvm.exec) (hby : c.code = mCode mi) (hA : holds w.2.1 A) (X : Stand p l e R s m args below meth c T locs cells slots) (hN : Fr w.1 locs) (hR : Rep Z w T.heap H) (hsz : T.heap.size = s.heap.size + cells)
    {q ng : Bool} {a b : Term} {o : Int} {S0 : List Term}
    (hyes : ∀ t, (rel w.2.1 q a b != ng) = true → 0 ≤ (pc : Int) + o → Steps p.tables e below (T.setTop (mkF m ((pc : Int) + o).toNat (cL w Ls) (S.map (cv w)))) t → Steps p.tables e below (T.setTop (mkF m pc (cL w Ls) (S0.map (cv w)))) t)
    (hno : ∀ t, (rel w.2.1 q a b != ng) = false → Steps p.tables e below (T.setTop (mkF m (pc + 3) (cL w Ls) (S.map (cv w)))) t → Steps p.tables e below (T.setTop (mkF m pc (cL w Ls) (S0.map (cv w)))) t)
    (h : sBr A mi pc q ng a b o Ls S H = .inr st) : Nx Z w p l e R s m args below meth c T cells slots pc Ls S0 st := by
  unfold sBr at h
  cases hd : dcd A q a b with
  | some r =>
    simp only [hd] at h
    have hr := dcd_ok hA hd
    cases hq : (r != ng) with
    | true =>
      simp only [hq, cond_true] at h
      by_cases z : 0 ≤ (pc : Int) + o
      · simp [z] at h; subst h
        exact Nx.plain X hN hR hsz fun t k => hyes t (by rw [hr]; exact hq) z k
      · simp [z] at h
    | false =>
      simp only [hq, cond_false, Sum.inr.injEq] at h; subst h
      exact Nx.plain X hN hR hsz fun t k => hno t (by rw [hr]; exact hq) k
  | none =>
    simp only [hd] at h
    cases hq : dia mi pc o with
    | false => simp [hq] at h
    | true =>
      simp only [hq, cond_true, Sum.inr.injEq] at h; subst h
      refine Nx.plain X hN hR hsz fun t k => ?_
      simp only [dia, Bool.and_eq_true, decide_eq_true_eq] at hq
      obtain ⟨rfl, h1, h2, h3⟩ := hq
      have e1 : cv w (m2 (dop q ng) a b) = .int (if (rel w.2.1 q a b != ng) = true then 0 else 1) := by rw [cv_I (m2_ok (σ := w.2.1)).2, m2_ok.1, dop_ok]
      rw [List.map_cons, e1] at k
      cases g1 : ins mi (pc + 3) with
      | none => simp [g1] at h1
      | some x1 =>
        obtain ⟨i1, n1, r1⟩ := x1
        cases g2 : ins mi (pc + 4) with
        | none => simp [g2] at h2
        | some x2 =>
          obtain ⟨i2, n2, r2⟩ := x2
          cases g3 : ins mi (pc + 7) with
          | none => simp [g3] at h3
          | some x3 =>
            obtain ⟨i3, n3, r3⟩ := x3
            rw [g1] at h1; rw [g2] at h2; rw [g3] at h3
            cases i1 <;> simp at h1
            cases i2 <;> simp at h2
            cases i3 <;> simp at h3
            obtain ⟨rfl, h1'⟩ := h1; obtain ⟨rfl, h2'⟩ := h2; obtain ⟨rfl, h3'⟩ := h3
            subst h1' h2' h3'
            have d1 := hb hby (ins_ok g1); have d2 := hb hby (ins_ok g2); have d3 := hb hby (ins_ok g3)
            cases hq : (rel w.2.1 q a b != ng) with
            | true =>
              rw [hq] at k
              refine hyes t hq (by omega) ?_
              have e7 : ((pc : Int) + 7).toNat = pc + 7 := by omega
              rw [e7]
              exact XS.iconst X.here hx rfl d3 k
            | false =>
              rw [hq] at k
              refine hno t hq ?_
              refine XS.iconst X.here hx rfl d1 ?_
              refine XS.goto X.here hx rfl (pc0 := pc + 4) (pc' := pc + 8) rfl d2 (by omega) (by omega) ?_
              exact k
theorem exact_size {T' : State} {locs' : List Loc} {n k : Nat} (X' : Stand p l e R s m args below meth c T' locs' (cells + n) k) (hsz : T.heap.size = s.heap.size + cells) (hlt : T.heap.size + n ≤ T'.heap.size) : T'.heap.size = T.heap.size + n := by
  have := X'.same.2.2.1
  have e : T'.heap.size ≤ s.heap.size + (cells + n) := this
  omega
theorem sGetF_ok (hw : ∀ d ∈ tables_1, d.before a0 Z = true) (hx : p.tables.exec = Jvm.exec) (hZ : Z.Warmed39 s.vm) (hA : holds w.2.1 A) (hown : s.vm.findClass (kls (mK mi)) = some m.cls) (X : Stand p l e R s m args below meth c T locs cells slots) (hN : Fr w.1 locs) (hR : Rep Z w T.heap H) (hsz : T.heap.size = s.heap.size + cells)
    (hd : decode c.code pc = .ok (.getfield k, 3)) (h : sGetF A mi pc k r Ls S H = .inr st) : Nx Z w p l e R s m args below meth c T cells slots pc Ls S st := by
  unfold sGetF at h
  split at h
  · rename_i a S'
    cases q1 : (Nat.blt r nLF && (Nat.beq (lfI r) k && Nat.beq (lfK r) (mK mi))) <;> simp only [q1, cond_true, cond_false] at h
    · cases h
    split at h
    · rename_i t vs hH
      cases q2 : (Nat.beq t (lfT r) && isO t) <;> simp only [q2, cond_true, cond_false] at h
      · cases h
      split at h
      · rename_i v hv
        simp only [Bool.and_eq_true] at q1 q2
        have r1 : r < nLF := by have := q1.1; rwa [Nat.blt_eq] at this
        have r2 := Nat.eq_of_beq_eq_true q1.2.1
        have r3 := Nat.eq_of_beq_eq_true q1.2.2
        have r4 := Nat.eq_of_beq_eq_true q2.1
        subst r2 r4
        have F := (hR.2.2.2 a _ hH).fld (isO_ok q2.2) hv
        obtain ⟨T', X', e', st'⟩ := getF X hx hZ hown (host := "") (Or.inl (r3 ▸ lf_ok hw r1)) Via.refl rfl F (g := mkF m pc (cL w Ls) ((.index a :: S').map (cv w))) rfl rfl hd
        have e2 : cv w (bif isI v then nr A v else v) = cv w v := by
          cases hi : isI v with
          | true => simp only [cond_true]; rw [nr_cv hA hi, cv_I hi]
          | false => rfl
        simp only [Sum.inr.injEq] at h; subst h
        refine ⟨T', locs, X', hN, by rw [e']; exact hR, by rw [e']; exact hsz, fun t kk => st' t ?_⟩
        simp only [List.map_cons, e2] at kk
        exact kk
      · cases h
    · cases h
  · cases h
theorem sPutF_ok (hw : ∀ d ∈ tables_1, d.before a0 Z = true) (hx : p.tables.exec = Jvm.exec) (hZ : Z.Warmed39 s.vm) (hW : Wok w) (hown : s.vm.findClass (kls (mK mi)) = some m.cls) (hnm : meth.name = mNm mi) (X : Stand p l e R s m args below meth c T locs cells slots) (hN : Fr w.1 locs) (hR : Rep Z w T.heap H) (hsz : T.heap.size = s.heap.size + cells)
    (hd : decode c.code pc = .ok (.putfield k, 3)) (h : sPutF mi pc k r Ls S H = .inr st) : Nx Z w p l e R s m args below meth c T cells slots pc Ls S st := by
  unfold sPutF at h
  split at h
  · rename_i v a S'
    cases q1 : (Nat.blt r nLF && (Nat.beq (lfI r) k && Nat.beq (lfK r) (mK mi))) <;> simp only [q1, cond_true, cond_false] at h
    · cases h
    split at h
    · rename_i t vs hH
      cases q2 : (Nat.beq t (lfT r) && (isO t && (Nat.blt (lfP r) vs.length && (Nat.beq vs.length (nfl t) && (fitK (fK t (lfP r)) v && (!fFin t (lfP r) || (mInit mi && Nat.beq (mK mi) (fOk t (lfP r))))))))) <;> simp only [q2, cond_true, cond_false] at h
      · cases h
      simp only [Sum.inr.injEq] at h; subst h
      simp only [Bool.and_eq_true] at q1 q2
      have r1 : r < nLF := by have := q1.1; rwa [Nat.blt_eq] at this
      have r2 := Nat.eq_of_beq_eq_true q1.2.1
      have r3 := Nat.eq_of_beq_eq_true q1.2.2
      have r4 := Nat.eq_of_beq_eq_true q2.1
      have r6 : lfP r < vs.length := by have := q2.2.2.1; rwa [Nat.blt_eq] at this
      have r7 := Nat.eq_of_beq_eq_true q2.2.2.2.1
      have r8 := q2.2.2.2.2.1
      have r9 := q2.2.2.2.2.2
      subst r2 r4
      have hp : lfP r < nfl (lfT r) := r7 ▸ r6
      have C0 := hR.2.2.2 a _ hH
      have hO := isO_ok q2.2.1
      have F := C0.fld hO (List.getElem?_eq_getElem r6)
      have hk := fK_ok hp hW r8
      obtain ⟨T', h', X', e', W', st'⟩ := putF X hx hZ hown (host := "") (Or.inl (r3 ▸ lf_ok hw r1)) Via.refl rfl F C0.1 (own_lput hw hp r9 hnm) (inst_ok hw q2.2.1).1 (fT_ok hp) hk.1 hk.2 (g := mkF m pc (cL w Ls) ((v :: .index a :: S').map (cv w))) rfl rfl hd
      have ha : a < H.length := (List.getElem?_eq_some_iff.mp hH).1
      have F' : RC Z w h' (w.1 + a) (lfT r, vs.set (lfP r) v) := by
        refine ⟨C0.1.wr W', ?_⟩
        simp only [hO]
        intro i u hu
        by_cases z : lfP r = i
        · subst z
          rw [List.getElem?_set_self r6] at hu
          cases hu
          exact Fld.same W' F
        · rw [List.getElem?_set_ne z] at hu
          have hi : i < nfl (lfT r) := r7 ▸ (List.getElem?_eq_some_iff.mp hu).1
          exact (C0.fld hO hu).other W' (Or.inr (slot_ne (own_laid hw hi) (own_laid hw hp) (fN_ne hi hp (Ne.symm z)) (fT_ok hi) (fT_ok hp)))
      refine ⟨T', _, X', Fr.snoc X' hN (by omega), by rw [e']; exact hR.wr ha W' F', by rw [e', W'.size]; exact hsz, fun t kk => st' t kk⟩
    · cases h
  · cases h
theorem inB_lt {k : Int32} {n : Nat} (h : inB k n = true) : k.toNatClampNeg < n := by
  simp only [inB, Bool.and_eq_true] at h
  have := h.2
  rwa [Nat.blt_eq] at this
theorem sALoad_ok {q : FieldType → Bool} (hA : holds w.2.1 A) (X : Stand p l e R s m args below meth c T locs cells slots) (hN : Fr w.1 locs) (hR : Rep Z w T.heap H) (hsz : T.heap.size = s.heap.size + cells)
    (law : ∀ {a : Addr} {cl : Cell} {j : Int32} {v : Value} {ty : FieldType} {rest : List Value}, q ty = true → Arr Z T.heap a cl ty → ¬ (j < 0 ∨ cl.slots.size ≤ j.toNatClampNeg) → cl.slots[j.toNatClampNeg]? = some v → ∀ t, Steps p.tables e below (T.setTop (mkF m (pc + 1) (cL w Ls) (v :: rest))) t → Steps p.tables e below (T.setTop (mkF m pc (cL w Ls) (.int j :: .ref a :: rest))) t)
    (h : sALoad A q pc Ls S H = .inr st) : Nx Z w p l e R s m args below meth c T cells slots pc Ls S st := by
  unfold sALoad at h
  split at h
  · rename_i j a S'
    split at h
    · rename_i t vs hH
      split at h
      · rename_i ty hty
        cases q1 : (q ty && inB j vs.length) <;> simp only [q1, cond_true, cond_false] at h
        · cases h
        split at h
        · rename_i v hv
          simp only [Bool.and_eq_true] at q1
          obtain ⟨cl, Ar, Hs, Hf, -⟩ := (hR.2.2.2 a _ hH).arr hty
          have e2 : cv w (bif isI v then nr A v else v) = cv w v := by
            cases hi : isI v with
            | true => simp only [cond_true]; rw [nr_cv hA hi, cv_I hi]
            | false => rfl
          simp only [Sum.inr.injEq] at h; subst h
          refine Nx.plain X hN hR hsz fun t kk => ?_
          simp only [List.map_cons, e2] at kk
          exact law q1.1 Ar (inB_ok q1.2 (slots_len Hs)) (slots_get Hs hv) t kk
        · cases h
      · cases h
    · cases h
  · cases h
theorem sAStore_ok {q : FieldType → Bool} {f : Term → Option Term} (X : Stand p l e R s m args below meth c T locs cells slots) (hN : Fr w.1 locs) (hR : Rep Z w T.heap H) (hsz : T.heap.size = s.heap.size + cells)
    (law : ∀ {a : Addr} {cl : Cell} {j : Int32} {v v' : Term} {ty : FieldType} {rest : List Value}, q ty = true → f v = some v' → Arr Z T.heap a cl ty → ¬ (j < 0 ∨ cl.slots.size ≤ j.toNatClampNeg) →
      fits ty (cv w v') = true ∧ ∃ T' h', Stand p l e R s m args below meth c T' (locs ++ [⟨a, j.toNatClampNeg⟩]) cells slots ∧ T'.heap = h' ∧ Wr T.heap h' a j.toNatClampNeg (cv w v') ∧ ∀ t, Steps p.tables e below (T'.setTop (mkF m (pc + 1) (cL w Ls) rest)) t → Steps p.tables e below (T.setTop (mkF m pc (cL w Ls) (cv w v :: .int j :: .ref a :: rest))) t)
    (h : sAStore q f pc Ls S H = .inr st) : Nx Z w p l e R s m args below meth c T cells slots pc Ls S st := by
  unfold sAStore at h
  split at h
  · rename_i v j a S'
    split at h
    · rename_i t vs hH
      split at h
      · rename_i ty hty
        cases q1 : (q ty && inB j vs.length) <;> simp only [q1, cond_true, cond_false] at h
        · cases h
        split at h
        · rename_i v' hv
          simp only [Bool.and_eq_true] at q1
          have C0 := hR.2.2.2 a _ hH
          obtain ⟨cl, Ar, Hs, Hf, Ho⟩ := C0.arr hty
          obtain ⟨hfit, T', h', X', e', W', st'⟩ := law (rest := S'.map (cv w)) q1.1 hv Ar (inB_ok q1.2 (slots_len Hs))
          have ha : a < H.length := (List.getElem?_eq_some_iff.mp hH).1
          have F' : RC Z w h' (w.1 + a) (t, vs.set j.toNatClampNeg v') := RC.of_arr (C0.1.wr W') hty ⟨_, Ar.same W', slots_set Hs, fun u hu => by
            rcases List.mem_or_eq_of_mem_set hu with z | z
            · exact Hf u z
            · subst z; exact hfit, Ho⟩
          simp only [Sum.inr.injEq] at h; subst h
          exact ⟨T', _, X', Fr.snoc X' hN (by omega), by rw [e']; exact hR.wr ha W' F', by rw [e', W'.size]; exact hsz, st'⟩
        · cases h
      · cases h
    · cases h
  · cases h
theorem sto_of {a y : Addr} {cl : Cell} {h : Heap} {ty : FieldType} {t : Nat} (Ar : Arr Z h a cl ty) (hO : OV Z cl.cls t) (hC : hasC t = true) (E : Exa Z h y (cname (acT t))) : Sto Z h a (.ref y) := by
  unfold OV at hO
  simp only [acomp, hC, cond_true] at hO
  obtain ⟨kk, comp, ty', h1, h2, h3⟩ := hO
  obtain ⟨cy, ky, g1, g2, g3, g4, g5⟩ := E
  have ec : cy.cls = comp := Option.some.inj (g2.symm.trans h3)
  exact Or.inr ⟨cl, cy, kk, ky, ky, comp, ty', y, Ar.1, h1, h2, ec ▸ g3, rfl, g1, g4, g3, by rw [ec]; exact Vm.assignable_self _ _⟩
theorem sRStore_ok (hx : p.tables.exec = Jvm.exec) (hZ : Z.Warmed39 s.vm) (hW : Wok w) (X : Stand p l e R s m args below meth c T locs cells slots) (hN : Fr w.1 locs) (hR : Rep Z w T.heap H) (hsz : T.heap.size = s.heap.size + cells)
    (hd : decode c.code pc = .ok (.aastore, 1)) (h : sRStore pc Ls S H = .inr st) : Nx Z w p l e R s m args below meth c T cells slots pc Ls S st := by
  unfold sRStore at h
  split at h
  · rename_i v j a S'
    split at h
    · rename_i t vs hH
      split at h
      · rename_i ty hty
        generalize hz : (match v with | .null => true | .index b => (match H[b]? with | some (tb, _) => Nat.beq tb (acT t) | none => false) | _ => false) = z at h
        cases q1 : (ty.isReference && (inB j vs.length && (hasC t && z))) <;> simp only [q1, cond_true, cond_false] at h
        · cases h
        simp only [Bool.and_eq_true] at q1
        obtain ⟨q2, q3, q4, q5⟩ := q1
        subst q5
        have C0 := hR.2.2.2 a _ hH
        obtain ⟨cl, Ar, Hs, Hf, Ho⟩ := C0.arr hty
        have hv : isR v = true ∧ Sto Z T.heap (w.1 + a) (cv w v) := by
          cases v <;> first | cases hz | skip
          · exact ⟨rfl, Or.inl rfl⟩
          · rename_i b
            refine ⟨rfl, ?_⟩
            simp only at hz
            split at hz
            · rename_i tb vb hb
              have := Nat.eq_of_beq_eq_true hz
              subst this
              exact sto_of Ar Ho q4 (hR.2.2.2 b _ hb).1
            · cases hz
        obtain ⟨T', h', X', e', W', st'⟩ := stR X hx hZ rfl Ar (j := j) (inB_ok q3 (slots_len Hs)) q2 hv.2 (g := mkF m pc (cL w Ls) ((v :: .int j :: .index a :: S').map (cv w))) rfl rfl hd
        have ha : a < H.length := (List.getElem?_eq_some_iff.mp hH).1
        have F' : RC Z w h' (w.1 + a) (t, vs.set j.toNatClampNeg v) := RC.of_arr (C0.1.wr W') hty ⟨_, Ar.same W', slots_set Hs, fun u hu => by
          rcases List.mem_or_eq_of_mem_set hu with z | z
          · exact Hf u z
          · subst z; exact fits_ref hW q2 hv.1, Ho⟩
        simp only [Sum.inr.injEq] at h; subst h
        exact ⟨T', _, X', Fr.snoc X' hN (by omega), by rw [e']; exact hR.wr ha W' F', by rw [e', W'.size]; exact hsz, st'⟩
      · cases h
    · cases h
  · cases h
theorem sNew_ok (hw : ∀ d ∈ tables_1, d.before a0 Z = true) (hx : p.tables.exec = Jvm.exec) (hZ : Z.Warmed39 s.vm) (hown : s.vm.findClass (kls (mK mi)) = some m.cls) (X : Stand p l e R s m args below meth c T locs cells slots) (hN : Fr w.1 locs) (hR : Rep Z w T.heap H) (hsz : T.heap.size = s.heap.size + cells)
    (hd : decode c.code pc = .ok (.new k, 3)) (h : sNew mi pc k r Ls S H = .inr st) (hc : cells + st.2.2.2.2.1 ≤ R.cells) (hs : slots + st.2.2.2.2.2 ≤ R.slots) : Nx Z w p l e R s m args below meth c T cells slots pc Ls S st := by
  unfold sNew at h
  cases q1 : (Nat.blt r nLC && (Nat.beq (lcI r) k && (Nat.beq (lcK r) (mK mi) && isO (lcT r)))) <;> simp only [q1, cond_true, cond_false] at h
  · cases h
  simp only [Sum.inr.injEq] at h; subst h
  simp only [Bool.and_eq_true] at q1
  have r1 : r < nLC := by have := q1.1; rwa [Nat.blt_eq] at this
  have r2 := Nat.eq_of_beq_eq_true q1.2.1
  have r3 := Nat.eq_of_beq_eq_true q1.2.2.1
  have r4 := q1.2.2.2
  subst r2
  obtain ⟨T', h', X', e', E', A', D', -, st'⟩ := newO X hx hZ hown (r3 ▸ lc_ok hw r1) (inst_ok hw r4).1 (inst_ok hw r4).2 rfl (g := mkF m pc (cL w Ls) (S.map (cv w))) rfl hd hc hs
  have hsz' : T'.heap.size = T.heap.size + 1 := exact_size X' hsz (by rw [e']; exact A'.lt)
  refine ⟨T', locs, X', hN, ?_, by rw [hsz', hsz]; show _ = s.heap.size + (cells + 1); omega, fun t kk => st' t ?_⟩
  · refine Rep.push hR (e' ▸ E') hsz' ?_
    rw [e']
    refine ⟨A', ?_⟩
    simp only [isO_ok r4]
    intro i v hv
    simp only [List.getElem?_map, Option.map_eq_some_iff] at hv
    obtain ⟨i', hi', rfl⟩ := hv
    have hi : i < nfl (lcT r) := by have := (List.getElem?_eq_some_iff.mp hi').1; simpa using this
    have : i' = i := by
      have := (List.getElem?_eq_some_iff.mp hi').2; simpa using this.symm
    subst this
    rw [← fdef_ok hi]
    exact D' (own_laid hw hi) (fT_ok hi)
  · have : cv w (.index H.length) = .ref T.heap.size := by rw [hR.2.2.1]; rfl
    simp only [List.map_cons, this] at kk
    exact kk
theorem sNewP_ok {ty : ArrayType} (hw : ∀ d ∈ tables_1, d.before a0 Z = true) (hx : p.tables.exec = Jvm.exec) (hZ : Z.Warmed39 s.vm) (X : Stand p l e R s m args below meth c T locs cells slots) (hN : Fr w.1 locs) (hR : Rep Z w T.heap H) (hsz : T.heap.size = s.heap.size + cells)
    (hd : decode c.code pc = .ok (.newarray ty, 2)) (h : sNewP pc r ty Ls S H = .inr st) (hc : cells + st.2.2.2.2.1 ≤ R.cells) (hs : slots + st.2.2.2.2.2 ≤ R.slots) : Nx Z w p l e R s m args below meth c T cells slots pc Ls S st := by
  unfold sNewP at h
  split at h
  · rename_i n S'
    cases q1 : (decide (aty r = some (newarray.typeOf ty)) && (!decide (n < 0) && (Nat.ble n.toNatClampNeg 100000 && isP r))) <;> simp only [q1, cond_true, cond_false] at h
    · cases h
    simp only [Sum.inr.injEq] at h; subst h
    simp only [Bool.and_eq_true, decide_eq_true_eq, Bool.not_eq_true', decide_eq_false_iff_not] at q1
    obtain ⟨q1, q2, q3, q4⟩ := q1
    have q3 := Nat.le_of_ble_eq_true q3
    have hp := pa_ok hw q4 q1
    obtain ⟨T', h', cA, X', e', E', A', Ex, st'⟩ := newPE X hx hZ hp.1 rfl (g := mkF m pc (cL w Ls) ((.int n :: S').map (cv w))) rfl hd rfl q2 (cap := n.toNatClampNeg) (Nat.le_refl _) (by omega) hc hs hp.2.1
    have hsz' : T'.heap.size = T.heap.size + 1 := exact_size X' hsz (by rw [e']; exact A'.lt)
    refine ⟨T', locs, X', hN, ?_, by rw [hsz', hsz]; show _ = s.heap.size + (cells + 1); omega, fun t kk => st' t ?_⟩
    · refine Rep.push hR (e' ▸ E') hsz' ?_
      rw [e']
      refine RC.of_arr Ex q1 ⟨_, A', ?_, ?_, ?_⟩
      · simp only [newA, Array.toList_replicate, List.map_replicate]
        congr 1
        exact hp.2.2.1
      · intro v hv
        rw [List.eq_of_mem_replicate hv]
        show fits _ (.int 0) = true
        rw [← hp.2.2.1]; exact hp.2.2.2
      · unfold OV; rw [show acomp r = none from own_noC q4]; trivial
    · have : cv w (.index H.length) = .ref T.heap.size := by rw [hR.2.2.1]; rfl
      simp only [List.map_cons, this] at kk
      exact kk
  · cases h
theorem ov_of {cA : ClassId} {t : Nat} {C : String} (hC : hasC (arrT t) = true) (h : acT (arrT t) = t) (e : cname t = C) (O : ∃ (k : Class) (comp : ClassId) (ty : FieldType), Z.vm.classes[cA]? = some k ∧ k.kind = .array comp ty ∧ Z.vm.findClass C = some comp) : OV Z cA (arrT t) := by
  unfold OV
  simp only [acomp, hC, cond_true, h, e]
  exact O
theorem sNewR_ok (hw : ∀ d ∈ tables_1, d.before a0 Z = true) (hx : p.tables.exec = Jvm.exec) (hZ : Z.Warmed39 s.vm) (hown : s.vm.findClass (kls (mK mi)) = some m.cls) (X : Stand p l e R s m args below meth c T locs cells slots) (hN : Fr w.1 locs) (hR : Rep Z w T.heap H) (hsz : T.heap.size = s.heap.size + cells)
    (hd : decode c.code pc = .ok (.anewarray k, 3)) (h : sNewR mi pc k r Ls S H = .inr st) (hc : cells + st.2.2.2.2.1 ≤ R.cells) (hs : slots + st.2.2.2.2.2 ≤ R.slots) : Nx Z w p l e R s m args below meth c T cells slots pc Ls S st := by
  unfold sNewR at h
  split at h
  · rename_i n S'
    cases q1 : (Nat.blt r nLC && (Nat.beq (lcI r) k && (Nat.beq (lcK r) (mK mi) && (hasC (arrT (lcT r)) && (Nat.beq (acT (arrT (lcT r))) (lcT r) && (!decide (n < 0) && Nat.ble n.toNatClampNeg 100000)))))) <;> simp only [q1, cond_true, cond_false] at h
    · cases h
    simp only [Sum.inr.injEq] at h; subst h
    simp only [Bool.and_eq_true, Bool.not_eq_true', decide_eq_false_iff_not] at q1
    have r1 : r < nLC := by have := q1.1; rwa [Nat.blt_eq] at this
    have r2 := Nat.eq_of_beq_eq_true q1.2.1
    have r3 := Nat.eq_of_beq_eq_true q1.2.2.1
    have r4 := q1.2.2.2.1
    have r5 := Nat.eq_of_beq_eq_true q1.2.2.2.2.1
    have r6 := q1.2.2.2.2.2.1
    have r7 := Nat.le_of_ble_eq_true q1.2.2.2.2.2.2
    subst r2
    have lk := lc_ok hw r1
    rw [r3] at lk
    have fin : ∀ {T' : State} {h' : Heap} {cA : ClassId} {ty : FieldType}, Stand p l e R s m args below meth c T' locs (cells + 1) (slots + n.toNatClampNeg) → T'.heap = h' → Ext T.heap h' → Arr Z h' T.heap.size (newA cA ty n) ty → Exa Z h' T.heap.size (cname (arrT (lcT r))) → OV Z cA (arrT (lcT r)) → aty (arrT (lcT r)) = some ty → defaultValue ty = .null → fits ty .null = true →
        (∀ t, Steps p.tables e below (T'.setTop (mkF m (pc + 3) (cL w Ls) (.ref T.heap.size :: S'.map (cv w)))) t → Steps p.tables e below (T.setTop (mkF m pc (cL w Ls) ((.int n :: S').map (cv w)))) t) → Nx Z w p l e R s m args below meth c T cells slots pc Ls (.int n :: S') (pc + 3, Ls, .index H.length :: S', H ++ [(arrT (lcT r), List.replicate n.toNatClampNeg .null)], 1, n.toNatClampNeg) := by
      intro T' h' cA ty X' e' E' A' Ex Ov hty hdf hfn st'
      have hsz' : T'.heap.size = T.heap.size + 1 := exact_size X' hsz (by rw [e']; exact A'.lt)
      refine ⟨T', locs, X', hN, ?_, by rw [hsz', hsz]; show _ = s.heap.size + (cells + 1); omega, fun t kk => st' t ?_⟩
      · refine Rep.push hR (e' ▸ E') hsz' ?_
        rw [e']
        refine RC.of_arr Ex hty ⟨_, A', ?_, ?_, Ov⟩
        · simp only [newA, Array.toList_replicate, List.map_replicate, hdf]; rfl
        · intro v hv
          rw [List.eq_of_mem_replicate hv]
          exact hfn
      · have : cv w (.index H.length) = .ref T.heap.size := by rw [hR.2.2.1]; rfl
        simp only [List.map_cons, this] at kk
        exact kk
    rcases anew_ok hw r4 r5 with ⟨ty, -, -, h2, h3, h4, h5⟩ | ⟨-, h2, h4, h5⟩
    · obtain ⟨T', h', cA, X', e', E', A', Ex, ⟨kk, comp, o1, o2, o3⟩, st'⟩ := newRA X hx hZ hown h3 lk h5 rfl (g := mkF m pc (cL w Ls) ((.int n :: S').map (cv w))) rfl hd rfl r6 (cap := n.toNatClampNeg) (Nat.le_refl _) (by omega) hc hs h4
      exact fin X' e' E' A' Ex (ov_of r4 r5 rfl ⟨kk, comp, _, o1, o2, o3⟩) h2 rfl rfl st'
    · obtain ⟨T', h', cA, X', e', E', A', Ex, ⟨kk, comp, o1, o2, o3⟩, st'⟩ := newRE X hx hZ hown lk h5 rfl (g := mkF m pc (cL w Ls) ((.int n :: S').map (cv w))) rfl hd rfl r6 (cap := n.toNatClampNeg) (Nat.le_refl _) (by omega) hc hs h4
      exact fin X' e' E' A' Ex (ov_of r4 r5 rfl ⟨kk, comp, _, o1, o2, o3⟩) h2 rfl rfl st'
  · cases h
theorem sLen_ok (hx : p.tables.exec = Jvm.exec) (hZ : Z.Warmed39 s.vm) (X : Stand p l e R s m args below meth c T locs cells slots) (hN : Fr w.1 locs) (hR : Rep Z w T.heap H) (hsz : T.heap.size = s.heap.size + cells)
    (hd : decode c.code pc = .ok (.arraylength, 1)) (h : sLen pc Ls S H = .inr st) : Nx Z w p l e R s m args below meth c T cells slots pc Ls S st := by
  unfold sLen at h
  split at h
  · rename_i a S'
    split at h
    · rename_i t vs hH
      split at h
      · rename_i ty hty
        obtain ⟨cl, Ar, Hs, Hf, -⟩ := (hR.2.2.2 a _ hH).arr hty
        simp only [Sum.inr.injEq] at h; subst h
        refine Nx.plain X hN hR hsz fun t kk => ?_
        refine X.arraylength hx Ar.1 (State.isArrayOf_alike hZ.alike Ar.2.1) (g := mkF m pc (cL w Ls) ((.index a :: S').map (cv w))) rfl rfl hd _ ?_
        rw [slots_len Hs]
        exact kk
      · cases h
    · cases h
  · cases h
theorem sCast_ok (hw : ∀ d ∈ tables_1, d.before a0 Z = true) (hx : p.tables.exec = Jvm.exec) (hZ : Z.Warmed39 s.vm) (hown : s.vm.findClass (kls (mK mi)) = some m.cls) (X : Stand p l e R s m args below meth c T locs cells slots) (hN : Fr w.1 locs) (hR : Rep Z w T.heap H) (hsz : T.heap.size = s.heap.size + cells)
    (hd : decode c.code pc = .ok (.checkcast k, 3)) (h : sCast mi pc k r Ls S H = .inr st) : Nx Z w p l e R s m args below meth c T cells slots pc Ls S st := by
  unfold sCast at h
  split at h
  · rename_i S'
    simp only [Sum.inr.injEq] at h; subst h
    refine Nx.plain X hN hR hsz fun t kk => ?_
    exact X.checkcastNull hx (g := mkF m pc (cL w Ls) ((.null :: S').map (cv w))) rfl rfl hd _ kk
  · rename_i a S'
    split at h
    · rename_i t vs hH
      cases q1 : (Nat.blt r nLC && (Nat.beq (lcI r) k && (Nat.beq (lcK r) (mK mi) && Nat.beq (lcT r) t))) <;> simp only [q1, cond_true, cond_false] at h
      · cases h
      simp only [Sum.inr.injEq] at h; subst h
      simp only [Bool.and_eq_true] at q1
      have r1 : r < nLC := by have := q1.1; rwa [Nat.blt_eq] at this
      have r2 := Nat.eq_of_beq_eq_true q1.2.1
      have r3 := Nat.eq_of_beq_eq_true q1.2.2.1
      have r4 := Nat.eq_of_beq_eq_true q1.2.2.2
      subst r2 r4
      have lk := lc_ok hw r1
      rw [r3] at lk
      obtain ⟨T', X', e', st'⟩ := castY X hx hZ hown lk rfl (Ins.self (hR.2.2.2 a _ hH).1) (g := mkF m pc (cL w Ls) ((.index a :: S').map (cv w))) rfl rfl hd
      exact ⟨T', locs, X', hN, by rw [e']; exact hR, by rw [e']; exact hsz, st'⟩
    · cases h
  · cases h
theorem arv_list {h : Heap} {a : Addr} {kc : ClassId} {ty : FieldType} {z : Int32} {vs : List Value} {d : Value} (F : Arv Z h a kc ty z vs d) (hl : z.toNatClampNeg = vs.length) : ∃ cl : Cell, Arr Z h a cl ty ∧ cl.cls = kc ∧ cl.slots.toList = vs ∧ ∀ v ∈ vs, fits ty v = true := by
  obtain ⟨cl, Ar, q1, S1, -, H1, G1⟩ := F
  refine ⟨cl, Ar, q1, ?_, fun v hv => ?_⟩
  · refine List.ext_getElem? fun i => ?_
    by_cases q : i < cl.slots.size
    · rw [Array.getElem?_toList, H1 i q]
      have : i < vs.length := by omega
      rw [List.getElem?_eq_getElem this, List.getD_eq_getElem?_getD, List.getElem?_eq_getElem this]; rfl
    · rw [List.getElem?_eq_none (by simp; omega), List.getElem?_eq_none (by omega)]
  · obtain ⟨i, hi, rfl⟩ := List.mem_iff_getElem.mp hv
    have := G1 i (by omega)
    rwa [List.getD_eq_getElem?_getD, List.getElem?_eq_getElem hi] at this
theorem sGrid_ok (hw : ∀ d ∈ tables_1, d.before a0 Z = true) (hx : p.tables.exec = Jvm.exec) (hZ : Z.Warmed39 s.vm) (hown : s.vm.findClass (kls (mK mi)) = some m.cls) (X : Stand p l e R s m args below meth c T locs cells slots) (hN : Fr w.1 locs) (hR : Rep Z w T.heap H) (hsz : T.heap.size = s.heap.size + cells)
    (hd : decode c.code pc = .ok (.multianewarray k 2, 4)) (h : sGrid mi pc k r Ls S H = .inr st) (hc : cells + st.2.2.2.2.1 ≤ R.cells) (hs : slots + st.2.2.2.2.2 ≤ R.slots) : Nx Z w p l e R s m args below meth c T cells slots pc Ls S st := by
  unfold sGrid at h
  split at h
  · rename_i q n S'
    cases q1 : (Nat.blt r nLC && (Nat.beq (lcI r) k && (Nat.beq (lcK r) (mK mi) && (hasC (lcT r) && (Nat.beq (arrT (acT (lcT r))) (lcT r) && (isP (acT (lcT r)) && (!decide (n < 0) && (!decide (q < 0) && (Nat.ble q.toNatClampNeg 100000 && Nat.ble n.toNatClampNeg 100))))))))) <;> simp only [q1, cond_true, cond_false] at h
    · cases h
    simp only [Sum.inr.injEq] at h; subst h
    simp only [Bool.and_eq_true, Bool.not_eq_true', decide_eq_false_iff_not] at q1
    have r1 : r < nLC := by have := q1.1; rwa [Nat.blt_eq] at this
    have r2 := Nat.eq_of_beq_eq_true q1.2.1
    have r3 := Nat.eq_of_beq_eq_true q1.2.2.1
    have r4 := q1.2.2.2.1
    have r5 := Nat.eq_of_beq_eq_true q1.2.2.2.2.1
    have r6 := q1.2.2.2.2.2.1
    have r7 := q1.2.2.2.2.2.2.1
    have r8 := q1.2.2.2.2.2.2.2.1
    have r9 := Nat.le_of_ble_eq_true q1.2.2.2.2.2.2.2.2.1
    have r10 := Nat.le_of_ble_eq_true q1.2.2.2.2.2.2.2.2.2
    subst r2
    have lk := lc_ok hw r1
    rw [r3] at lk
    generalize hct : acT (lcT r) = ct at *
    generalize htt : lcT r = tt at *
    subst r5
    rcases anew_ok hw r4 hct with ⟨ty, g1, -, g2, g3, g4, g5⟩ | ⟨g2, -, -, -⟩
    · have hp := pa_ok hw r6 g1
      obtain ⟨T', h', cA, comp, X', e', E', A', ⟨kk, cmp, o1, o2, o3⟩, Ex, Rw, st'⟩ := gridM X hx hZ hown g3 g4 lk g5 hp.1 rfl (g := mkF m pc (cL w Ls) ((.int q :: .int n :: S').map (cv w))) rfl hd rfl r7 r8 (N := n.toNatClampNeg) rfl rfl (cap := q.toNatClampNeg) (Nat.le_refl _) (by omega) (by omega) hp.2.2.2 (by rw [hp.2.2.1]; rfl) hc hs
      have hge : T.heap.size + (1 + n.toNatClampNeg) ≤ T'.heap.size := by
        rw [e']
        by_cases z : n.toNatClampNeg = 0
        · have y : T.heap.size < h'.size := A'.lt
          omega
        · have y : T.heap.size + 1 + (n.toNatClampNeg - 1) < h'.size := (Rw (n.toNatClampNeg - 1) (T.heap.size + 1 + (n.toNatClampNeg - 1)) (range_get (by omega))).1.lt
          omega
      have hsz' : T'.heap.size = T.heap.size + (1 + n.toNatClampNeg) := exact_size X' hsz hge
      obtain ⟨cl, Ar, hk, Hs, Hf⟩ := arv_list A' (by simp)
      refine ⟨T', locs, X', hN, ?_, by rw [hsz', hsz]; show _ = s.heap.size + (cells + (1 + n.toNatClampNeg)); omega, fun t kk' => st' t ?_⟩
      · refine ⟨hR.1, ⟨Nat.le_trans hR.2.1.1 (e' ▸ E').1, fun a c0 z => (e' ▸ E').2 _ _ (hR.2.1.2 _ _ z)⟩, by rw [hsz', hR.2.2.1]; simp; omega, fun i d hd' => ?_⟩
        rw [e']
        by_cases z1 : i < (H ++ [(arrT ct, (List.range n.toNatClampNeg).map fun j => Term.index (H.length + 1 + j))]).length
        · rw [List.getElem?_append_left z1] at hd'
          rcases get_app hd' with y | ⟨rfl, rfl⟩
          · exact (hR.2.2.2 i d y).ext E'
          · have e3 : w.1 + H.length = T.heap.size := hR.2.2.1.symm
            rw [e3]
            refine RC.of_arr Ex g2 ⟨cl, Ar, ?_, fun v hv => ?_, ?_⟩
            · rw [Hs]
              simp only [List.map_map]
              refine List.map_congr_left fun j _ => ?_
              show Value.ref (T.heap.size + 1 + j) = .ref (w.1 + (H.length + 1 + j))
              rw [← e3, Nat.add_assoc, Nat.add_assoc, Nat.add_assoc]
            · simp only [List.mem_map] at hv
              obtain ⟨j, -, rfl⟩ := hv
              rfl
            · exact ov_of r4 hct rfl ⟨kk, cmp, _, hk ▸ o1, o2, o3⟩
        · rw [List.getElem?_append_right (Nat.le_of_not_lt z1)] at hd'
          have z3 : i - (H ++ [(arrT ct, (List.range n.toNatClampNeg).map fun j => Term.index (H.length + 1 + j))]).length < n.toNatClampNeg := by
            have := (List.getElem?_eq_some_iff.mp hd').1; simpa using this
          rw [List.getElem?_replicate, if_pos z3] at hd'
          cases hd'
          have z1 : H.length + 1 ≤ i := by have y := Nat.le_of_not_lt z1; simpa using y
          simp only [List.length_append, List.length_cons, List.length_nil] at z3
          have z4 : w.1 + i = T.heap.size + 1 + (i - (H.length + 1)) := by
            have y : T.heap.size = w.1 + H.length := hR.2.2.1
            omega
          rw [z4]
          obtain ⟨Ar2, Ex2⟩ := Rw (i - (H.length + 1)) (T.heap.size + 1 + (i - (H.length + 1))) (range_get z3)
          refine RC.of_arr Ex2 g1 ⟨_, Ar2, ?_, fun v hv => ?_, ?_⟩
          · simp only [newA, Array.toList_replicate, List.map_replicate]
            congr 1
            exact hp.2.2.1
          · rw [List.eq_of_mem_replicate hv]
            show fits _ (.int 0) = true
            rw [← hp.2.2.1]; exact hp.2.2.2
          · unfold OV; rw [show acomp ct = none from own_noC r6]; trivial
      · have : cv w (.index H.length) = .ref T.heap.size := by rw [hR.2.2.1]; rfl
        simp only [List.map_cons, this] at kk'
        exact kk'
    · rw [r6] at g2; cases g2
  · cases h
/-- what is known of the old objects: statics that the code reads, old arrays -/
theorem blD_ok (hby : c.code = mCode mi) {i : Nat} {o2 : Int} (h : blD mi pc = some (i, o2)) : ∃ k : Fin 4, k.val = i ∧ decode c.code (pc + 3) = .ok (.iload_n k, 1) ∧ decode c.code (pc + 4) = .ok (.bipush 9, 2) ∧ decode c.code (pc + 6) = .ok (.if_icmp .eq 9, 3) ∧ decode c.code (pc + 9) = .ok (.iload_n k, 1) ∧ decode c.code (pc + 10) = .ok (.bipush 13, 2) ∧ decode c.code (pc + 12) = .ok (.if_icmp .ne o2, 3) ∧ 0 ≤ ((pc + 12 : Nat) : Int) + o2 := by
  unfold blD at h
  split at h
  · rename_i k n1 _ g1
    split at h
    · rename_i x n2 _ g2
      split at h
      · rename_i c1 o1 n3 _ g3
        split at h
        · rename_i k' n4 _ g4
          split at h
          · rename_i y n5 _ g5
            split at h
            · rename_i c2 o2' n6 _ g6
              cases q : ((decide (x = 9) && (decide (c1 = .eq) && (decide (o1 = 9) && (decide (k' = k) && (decide (y = 13) && (decide (c2 = .ne) && decide (0 ≤ ((pc + 12 : Nat) : Int) + o2'))))))) && (Nat.beq n1 1 && (Nat.beq n2 2 && (Nat.beq n3 3 && (Nat.beq n4 1 && (Nat.beq n5 2 && Nat.beq n6 3)))))) <;> simp only [q, cond_true, cond_false] at h
              · cases h
              cases h
              simp only [Bool.and_eq_true, decide_eq_true_eq] at q
              obtain ⟨⟨rfl, rfl, rfl, rfl, rfl, rfl, q7⟩, m1, m2, m3, m4, m5, m6⟩ := q
              cases Nat.eq_of_beq_eq_true m1; cases Nat.eq_of_beq_eq_true m2; cases Nat.eq_of_beq_eq_true m3
              cases Nat.eq_of_beq_eq_true m4; cases Nat.eq_of_beq_eq_true m5; cases Nat.eq_of_beq_eq_true m6
              exact ⟨_, rfl, hb hby (ins_ok g1), hb hby (ins_ok g2), hb hby (ins_ok g3), hb hby (ins_ok g4), hb hby (ins_ok g5), hb hby (ins_ok g6), q7⟩
            · cases h
          · cases h
        · cases h
      · cases h
    · cases h
  · cases h
theorem blk_cases {v : Int32} {b : Bool} (h : decide (blk v = 1) = b) : (b = true → v = 32 ∨ v = 9 ∨ v = 13) ∧ (b = false → ¬ v = 32 ∧ ¬ v = 9 ∧ ¬ v = 13) := by
  unfold blk at h
  by_cases c : v = 32 ∨ v = 9 ∨ v = 13
  · rw [if_pos c] at h
    refine ⟨fun _ => c, fun z => ?_⟩
    rw [z] at h; exact absurd h (by decide)
  · rw [if_neg c] at h
    refine ⟨fun z => ?_, fun _ => ⟨fun y => c (Or.inl y), fun y => c (Or.inr (Or.inl y)), fun y => c (Or.inr (Or.inr y))⟩⟩
    rw [z] at h; exact absurd h (by decide)
theorem sBl_ok (hx : p.tables.exec = Jvm.exec) (hby : c.code = mCode mi) (hA : holds w.2.1 A) (X : Stand p l e R s m args below meth c T locs cells slots) (hN : Fr w.1 locs) (hR : Rep Z w T.heap H) (hsz : T.heap.size = s.heap.size + cells)
    {cd : ClassFile.Cond} {o : Int} {a b : Term} {S' : List Term} (hd : decode c.code pc = .ok (.if_icmp cd o, 3)) (h : sBl A mi pc cd o a b Ls S' H = .inr st) : Nx Z w p l e R s m args below meth c T cells slots pc Ls (b :: a :: S') st := by
  unfold sBl at h
  split at h
  · rename_i x y k
    cases q1 : (decide (cd = .eq) && (decide (o = 15) && decide (k = 32))) <;> simp only [q1, cond_true, cond_false] at h
    · cases h
    simp only [Bool.and_eq_true, decide_eq_true_eq] at q1
    obtain ⟨rfl, rfl, rfl⟩ := q1
    split at h
    · rename_i i o2 hB
      obtain ⟨kf, rfl, d1, d2, d3, d4, d5, d6, d7⟩ := blD_ok hby hB
      split at h
      · rename_i t hL
        cases q2 : (isI t && tEq t (.op2 .frem x y)) <;> simp only [q2, cond_true, cond_false] at h
        · cases h
        simp only [Bool.and_eq_true] at q2
        have hv : tv w.2.1 t = tv w.2.1 (.op2 .frem x y) := tEq_ok q2.2
        have hl : (cL w Ls)[kf.val]? = some (.val (.int (tv w.2.1 (.op2 .frem x y)))) := by rw [cL_get hL, cs_val (Or.inl q2.1), cv_I q2.1, hv]
        have hst : ((Term.int 32 :: Term.op2 .frem x y :: S').map (cv w)) = .int 32 :: .int (tv w.2.1 (.op2 .frem x y)) :: S'.map (cv w) := rfl
        split at h
        · rename_i hk
          have z := look_ok hA hk
          have z' := (blk_cases (v := tv w.2.1 (.op2 .frem x y)) (b := true) z).1 rfl
          simp only [Sum.inr.injEq] at h; subst h
          refine Nx.plain X hN hR hsz fun tt kk => ?_
          rw [hst]
          revert hl z'
          generalize tv w.2.1 (.op2 .frem x y) = v
          intro hl z'
          rcases z' with rfl | rfl | rfl
          · exact XS.icmpYes X.here hx rfl (pc0 := pc) (pc' := pc + 15) rfl hd rfl (by decide) (by omega) (by omega) kk
          · refine XS.icmpNo X.here hx rfl hd rfl (by decide) ?_
            refine XS.iloadN X.here hx rfl d1 hl ?_
            refine XS.bipush X.here hx rfl d2 ?_
            exact XS.icmpYes X.here hx rfl (pc0 := pc + 6) (pc' := pc + 15) rfl d3 rfl (by decide) (by omega) (by omega) kk
          · refine XS.icmpNo X.here hx rfl hd rfl (by decide) ?_
            refine XS.iloadN X.here hx rfl d1 hl ?_
            refine XS.bipush X.here hx rfl d2 ?_
            refine XS.icmpNo X.here hx rfl d3 rfl (by decide) ?_
            refine XS.iloadN X.here hx rfl d4 hl ?_
            refine XS.bipush X.here hx rfl d5 ?_
            exact XS.icmpNo X.here hx rfl d6 rfl (by decide) kk
        · rename_i hk
          have z := look_ok hA hk
          have z' := (blk_cases (v := tv w.2.1 (.op2 .frem x y)) (b := false) z).2 rfl
          simp only [Sum.inr.injEq] at h; subst h
          refine Nx.plain X hN hR hsz fun tt kk => ?_
          rw [hst]
          revert hl z'
          generalize tv w.2.1 (.op2 .frem x y) = v
          intro hl z'
          refine XS.icmpNo X.here hx rfl hd rfl (feq z'.1).1 ?_
          refine XS.iloadN X.here hx rfl d1 hl ?_
          refine XS.bipush X.here hx rfl d2 ?_
          refine XS.icmpNo X.here hx rfl d3 rfl (feq (show ¬ v = (Int8.ofInt 9).toInt32 from z'.2.1)).1 ?_
          refine XS.iloadN X.here hx rfl d4 hl ?_
          refine XS.bipush X.here hx rfl d5 ?_
          exact XS.icmpYes X.here hx rfl (pc0 := pc + 12) rfl d6 rfl (feq (show ¬ v = (Int8.ofInt 13).toInt32 from z'.2.2)).2 d7 rfl kk
        · cases h
      · cases h
    · cases h
  · cases h
theorem sNewJ_ok {ty : ArrayType} (hw : ∀ d ∈ tables_1, d.before a0 Z = true) (hx : p.tables.exec = Jvm.exec) (hZ : Z.Warmed39 s.vm) (X : Stand p l e R s m args below meth c T locs cells slots) (hN : Fr w.1 locs) (hR : Rep Z w T.heap H) (hsz : T.heap.size = s.heap.size + cells)
    (hd : decode c.code pc = .ok (.newarray ty, 2)) (h : sNewJ pc r ty Ls S H = .inr st) (hc : cells + st.2.2.2.2.1 ≤ R.cells) (hs : slots + st.2.2.2.2.2 ≤ R.slots) : Nx Z w p l e R s m args below meth c T cells slots pc Ls S st := by
  unfold sNewJ at h
  split at h
  · rename_i n S'
    cases q1 : (decide (newarray.typeOf ty = .long) && (isJ r && (!decide (n < 0) && Nat.ble n.toNatClampNeg 100000))) <;> simp only [q1, cond_true, cond_false] at h
    · cases h
    simp only [Sum.inr.injEq] at h; subst h
    simp only [Bool.and_eq_true, decide_eq_true_eq, Bool.not_eq_true', decide_eq_false_iff_not] at q1
    obtain ⟨q1, q4, q2, q3⟩ := q1
    have q3 := Nat.le_of_ble_eq_true q3
    have hp := pj_ok hw q4
    obtain ⟨T', h', cA, X', e', E', A', Ex, st'⟩ := newPE X hx hZ (by rw [q1]; exact hp.2.1) rfl (g := mkF m pc (cL w Ls) ((.int n :: S').map (cv w))) rfl hd rfl q2 (cap := n.toNatClampNeg) (Nat.le_refl _) (by omega) hc hs (ad := cname r) (by rw [q1]; exact hp.2.2.1)
    rw [q1] at A'
    have hsz' : T'.heap.size = T.heap.size + 1 := exact_size X' hsz (by rw [e']; exact A'.lt)
    refine ⟨T', locs, X', hN, ?_, by rw [hsz', hsz]; show _ = s.heap.size + (cells + 1); omega, fun t kk => st' t ?_⟩
    · refine Rep.push hR (e' ▸ E') hsz' ?_
      rw [e']
      refine RC.of_arr Ex hp.1 ⟨_, A', ?_, ?_, ?_⟩
      · simp only [newA, Array.toList_replicate, List.map_replicate]
        rfl
      · intro v hv
        rw [List.eq_of_mem_replicate hv]
        rfl
      · unfold OV; rw [hp.2.2.2]; trivial
    · have : cv w (.index H.length) = .ref T.heap.size := by rw [hR.2.2.1]; rfl
      simp only [List.map_cons, this] at kk
      exact kk
  · cases h
theorem tab_get {vs : List Term} (h : tabL vs = true) : vs = [.int 32, .int 9, .int 13, .int 10, .int 123, .int 125, .int 11, .int (-30)] := by
  unfold tabL at h
  split at h
  · simp only [Bool.and_eq_true, decide_eq_true_eq] at h
    obtain ⟨rfl, rfl, rfl, rfl, rfl, rfl, rfl, rfl⟩ := h
    rfl
  · cases h
theorem tab_at {j : Int32} (h0 : 0 ≤ j.toInt) (h1 : j.toInt ≤ 7) : ([Term.int 32, .int 9, .int 13, .int 10, .int 123, .int 125, .int 11, .int (-30)].map (cv w))[j.toNatClampNeg]? = some (.int (tab8 j)) := by
  have e : ∀ k : Int32, k.toInt = j.toInt → j = k := fun k q => (Int32.toInt_inj.mp q).symm
  rcases (show j.toInt = 0 ∨ j.toInt = 1 ∨ j.toInt = 2 ∨ j.toInt = 3 ∨ j.toInt = 4 ∨ j.toInt = 5 ∨ j.toInt = 6 ∨ j.toInt = 7 by omega) with q | q | q | q | q | q | q | q
  · rw [e 0 (by rw [q]; rfl)]; rfl
  · rw [e 1 (by rw [q]; rfl)]; rfl
  · rw [e 2 (by rw [q]; rfl)]; rfl
  · rw [e 3 (by rw [q]; rfl)]; rfl
  · rw [e 4 (by rw [q]; rfl)]; rfl
  · rw [e 5 (by rw [q]; rfl)]; rfl
  · rw [e 6 (by rw [q]; rfl)]; rfl
  · rw [e 7 (by rw [q]; rfl)]; rfl
theorem sTab_ok (hx : p.tables.exec = Jvm.exec) (hZ : Z.Warmed39 s.vm) (hA : holds w.2.1 A) (X : Stand p l e R s m args below meth c T locs cells slots) (hN : Fr w.1 locs) (hR : Rep Z w T.heap H) (hsz : T.heap.size = s.heap.size + cells)
    (hd : decode c.code pc = .ok (.baload, 1)) (h : sTab A pc Ls S H = .inr st) : Nx Z w p l e R s m args below meth c T cells slots pc Ls S st := by
  unfold sTab at h
  split at h
  · rename_i j a S'
    split at h
    · rename_i t vs hH
      cases q0 : isI j <;> simp only [q0, Bool.false_and, Bool.true_and, cond_false] at h
      · cases h
      cases q1 : rg j with
      | none => simp [q1] at h
      | some u =>
        simp only [q1] at h
        cases q2 : (decide (aty t = some .byte) && (tabL vs && Nat.ble u 7)) <;> simp only [q2, cond_true, cond_false] at h
        · cases h
        simp only [Sum.inr.injEq] at h; subst h
        simp only [Bool.and_eq_true, decide_eq_true_eq] at q2
        obtain ⟨q2, q3, q4⟩ := q2
        have q4 := Nat.le_of_ble_eq_true q4
        have hb := rg_ok (σ := w.2.1) q1
        obtain ⟨cl, Ar, Hs, Hf, -⟩ := (hR.2.2.2 a _ hH).arr q2
        rw [tab_get q3] at Hs
        have e0 : (0 : Int32).toInt = 0 := rfl
        have hlen : cl.slots.size = 8 := by have := congrArg List.length Hs; simpa using this
        have hat : cl.slots[(tv w.2.1 j).toNatClampNeg]? = some (.int (tab8 (tv w.2.1 j))) := by
          rw [← Array.getElem?_toList, Hs]; exact tab_at hb.1 (by omega)
        have hin : ¬ (tv w.2.1 j < 0 ∨ cl.slots.size ≤ (tv w.2.1 j).toNatClampNeg) := by
          rintro (z | z)
          · rw [Int32.lt_iff_toInt_lt] at z; omega
          · simp only [Int32.toNatClampNeg] at z; omega
        refine Nx.plain X hN hR hsz fun z kk => ?_
        have e1 : cv w (nr A (.op2 .frem j (.int 0))) = .int (tab8 (tv w.2.1 j)) := nr_cv (t := .op2 .frem j (.int 0)) hA rfl
        simp only [List.map_cons, e1] at kk
        simp only [List.map_cons, cv_I q0]
        exact X.baloadBytes hx Ar.1 (State.isArrayOf_alike hZ.alike Ar.2.1) Ar.2.2 hin hat (g := mkF m pc (cL w Ls) (.int (tv w.2.1 j) :: .ref (w.1 + a) :: S'.map (cv w))) rfl rfl hd _ kk
    · cases h
  · cases h
def Wst (Z : State) (a0 : Array Value) (w : Wl) : Prop := Wok w ∧ Wold w ∧
  (∀ r, r < nLS → (Jvm.Cond.fieldLink (kls (lsK r)) (lsI r) (lsC r) (lsN r) (lsD r)).before a0 Z = true ∧ Sta Z Z.heap (lsC r) (lsN r) (lsD r) (cv w (lsV r))) ∧
  ∀ k, 0 < oLen k → ∃ (cl : Cell) (ty : FieldType), Arr Z Z.heap (w.2.2.1 k) cl ty ∧ ty.isReference = true ∧ cl.slots.size = oLen k ∧ ∀ j : Int32, ¬ j < 0 → j.toNatClampNeg < oLen k → cl.slots[j.toNatClampNeg]? = some (w.2.2.2 k j)
theorem step_ok {i : Instr} {n : Nat} (hw : ∀ d ∈ tables_1, d.before a0 Z = true) (hx : p.tables.exec = Jvm.exec) (hZ : Z.Warmed39 s.vm) (hWs : Wst Z a0 w) (hA : holds w.2.1 A) (hby : c.code = mCode mi) (hown : s.vm.findClass (kls (mK mi)) = some m.cls) (hnm : meth.name = mNm mi)
    (X : Stand p l e R s m args below meth c T locs cells slots) (hN : Fr w.1 locs) (hR : Rep Z w T.heap H) (hsz : T.heap.size = s.heap.size + cells) (hd : decode c.code pc = .ok (i, n)) (hn : n = ilen i) (h : step A mi pc Ls S H (i, n, r) = .inr st) (hc : cells + st.2.2.2.2.1 ≤ R.cells) (hs : slots + st.2.2.2.2.2 ≤ R.slots) :
    Nx Z w p l e R s m args below meth c T cells slots pc Ls S st := by
  have hW := hWs.1
  subst hn
  cases i
  case iload_n k =>
    obtain ⟨t, h1, h2, rfl⟩ := sLdI_ok h
    refine Nx.plain X hN hR hsz fun z kk => ?_
    simp only [List.map_cons, nr_cv hA h2] at kk
    exact XS.iloadN X.here hx rfl hd (by rw [cL_get h1, cs_val (Or.inl h2), cv_I h2]) kk
  case iload k =>
    obtain ⟨t, h1, h2, rfl⟩ := sLdI_ok h
    refine Nx.plain X hN hR hsz fun z kk => ?_
    simp only [List.map_cons, nr_cv hA h2] at kk
    exact XS.iload X.here hx rfl hd (by rw [cL_get h1, cs_val (Or.inl h2), cv_I h2]) kk
  case aload_n k =>
    obtain ⟨t, h1, h2, rfl⟩ := sLdR_ok h
    refine Nx.plain X hN hR hsz fun z kk => ?_
    exact XS.aloadN X.here hx rfl hd (by rw [cL_get h1, cs_val (Or.inr (Or.inl h2))]) (cv_R hW h2) kk
  case aload k =>
    obtain ⟨t, h1, h2, rfl⟩ := sLdR_ok h
    refine Nx.plain X hN hR hsz fun z kk => ?_
    exact XS.aload X.here hx rfl hd (by rw [cL_get h1, cs_val (Or.inr (Or.inl h2))]) (cv_R hW h2) kk
  case lload_n k =>
    obtain ⟨t, h1, h2, rfl⟩ := sLdL_ok h
    refine Nx.plain X hN hR hsz fun z kk => ?_
    simp only [List.map_cons, cv_L h2] at kk
    exact XS.lloadN X.here hx rfl hd (by rw [cL_get h1, cs_val (Or.inr (Or.inr h2)), cv_L h2]) kk
  case lload k =>
    obtain ⟨t, h1, h2, rfl⟩ := sLdL_ok h
    refine Nx.plain X hN hR hsz fun z kk => ?_
    simp only [List.map_cons, cv_L h2] at kk
    exact XS.lload X.here hx rfl hd (by rw [cL_get h1, cs_val (Or.inr (Or.inr h2)), cv_L h2]) kk
  case istore_n k =>
    obtain ⟨t, S', o, rfl, h1, h2, h3, rfl⟩ := sSt_ok h
    refine Nx.plain X hN hR hsz fun z kk => ?_
    refine XS.istoreNS X.here hx rfl (x := tv w.2.1 t) hd (st1 h2) (cL_get h1) (cs_ok hW h3) ?_
    rw [← cv_I (w := w) h2]
    show Steps p.tables e below (T.setTop (mkF m (pc + 1) ((cL w Ls).setIfInBounds k.val (.val (cv w t))) (S'.map (cv w)))) z
    rw [cL_set (Or.inl h2)]
    exact kk
  case istore k =>
    obtain ⟨t, S', o, rfl, h1, h2, h3, rfl⟩ := sSt_ok h
    refine Nx.plain X hN hR hsz fun z kk => ?_
    refine XS.istoreS X.here hx rfl (x := tv w.2.1 t) hd (st1 h2) (cL_get h1) (cs_ok hW h3) ?_
    rw [← cv_I (w := w) h2]
    show Steps p.tables e below (T.setTop (mkF m (pc + 2) ((cL w Ls).setIfInBounds k (.val (cv w t))) (S'.map (cv w)))) z
    rw [cL_set (Or.inl h2)]
    exact kk
  case astore_n k =>
    obtain ⟨t, S', o, rfl, h1, h2, h3, rfl⟩ := sSt_ok h
    refine Nx.plain X hN hR hsz fun z kk => ?_
    refine XT.astoreNS X.here hx rfl (x := cv w t) hd rfl (cv_R hW h2) (cv_cat hW (nl_R h2)) (cL_get h1) (cs_ok hW h3) ?_
    show Steps p.tables e below (T.setTop (mkF m (pc + 1) ((cL w Ls).setIfInBounds k.val (.val (cv w t))) (S'.map (cv w)))) z
    rw [cL_set (Or.inr (Or.inl h2))]
    exact kk
  case astore k =>
    obtain ⟨t, S', o, rfl, h1, h2, h3, rfl⟩ := sSt_ok h
    refine Nx.plain X hN hR hsz fun z kk => ?_
    refine XS.astoreS X.here hx rfl (x := cv w t) hd rfl (cv_R hW h2) (cv_cat hW (nl_R h2)) (cL_get h1) (cs_ok hW h3) ?_
    show Steps p.tables e below (T.setTop (mkF m (pc + 2) ((cL w Ls).setIfInBounds k (.val (cv w t))) (S'.map (cv w)))) z
    rw [cL_set (Or.inr (Or.inl h2))]
    exact kk
  case iconst k =>
    simp only [step, Sum.inr.injEq] at h; subst h
    exact Nx.plain X hN hR hsz fun z kk => XS.iconst X.here hx rfl hd kk
  case bipush k =>
    simp only [step, Sum.inr.injEq] at h; subst h
    exact Nx.plain X hN hR hsz fun z kk => XS.bipush X.here hx rfl hd kk
  case sipush k =>
    simp only [step, Sum.inr.injEq] at h; subst h
    exact Nx.plain X hN hR hsz fun z kk => XS.sipush X.here hx rfl hd kk
  case aconst_null =>
    simp only [step, Sum.inr.injEq] at h; subst h
    exact Nx.plain X hN hR hsz fun z kk => XS.aconstNull X.here hx rfl hd kk
  case ldc k =>
    simp only [step, sLdc] at h
    cases q1 : (Nat.blt r nLK && (Nat.beq (lkI r) k && Nat.beq (lkK r) (mK mi))) <;> simp only [q1, cond_true, cond_false] at h
    · cases h
    simp only [Sum.inr.injEq] at h; subst h
    simp only [Bool.and_eq_true] at q1
    have r1 : r < nLK := by have := q1.1; rwa [Nat.blt_eq] at this
    have r2 := Nat.eq_of_beq_eq_true q1.2.1
    have r3 := Nat.eq_of_beq_eq_true q1.2.2
    subst r2
    have lk := lk_ok hw r1
    rw [r3] at lk
    refine Nx.plain X hN hR hsz fun z kk => ?_
    exact X.ldcInt hx hown (mvT hZ lk) (g := mkF m pc (cL w Ls) (S.map (cv w))) rfl hd _ kk
  case iadd =>
    obtain ⟨a, b, S', rfl, h1, h2, rfl⟩ := sBin_ok h
    refine Nx.plain X hN hR hsz fun z kk => ?_
    rw [List.map_cons, nr_cv hA (mAdd_ok (σ := w.2.1)).2, mAdd_ok.1] at kk
    exact XS.iadd X.here hx rfl hd (st2 h1 h2) kk
  case isub =>
    obtain ⟨a, b, S', rfl, h1, h2, rfl⟩ := sBin_ok h
    refine Nx.plain X hN hR hsz fun z kk => ?_
    rw [List.map_cons, nr_cv hA (mSub_ok (σ := w.2.1)).2, mSub_ok.1] at kk
    exact XS.isub X.here hx rfl hd (st2 h1 h2) kk
  case imul =>
    obtain ⟨a, b, S', rfl, h1, h2, rfl⟩ := sBin_ok h
    refine Nx.plain X hN hR hsz fun z kk => ?_
    rw [List.map_cons, nr_cv hA (mMul_ok (σ := w.2.1)).2, mMul_ok.1] at kk
    exact XS.imul X.here hx rfl hd (st2 h1 h2) kk
  case iand =>
    obtain ⟨a, b, S', rfl, h1, h2, rfl⟩ := sBin_ok h
    refine Nx.plain X hN hR hsz fun z kk => ?_
    simp only [List.map_cons, nr_cv hA (mAnd_ok hA).2, (mAnd_ok hA).1] at kk
    exact XS.iand X.here hx rfl hd (st2 h1 h2) kk
  case ior =>
    obtain ⟨a, b, S', rfl, h1, h2, rfl⟩ := sBin_ok h
    refine Nx.plain X hN hR hsz fun z kk => ?_
    rw [List.map_cons, nr_cv hA (m2_ok (σ := w.2.1)).2, m2_ok.1] at kk
    exact XS.ior X.here hx rfl hd (st2 h1 h2) kk
  case ixor =>
    obtain ⟨a, b, S', rfl, h1, h2, rfl⟩ := sBin_ok h
    refine Nx.plain X hN hR hsz fun z kk => ?_
    rw [List.map_cons, nr_cv hA (m2_ok (σ := w.2.1)).2, m2_ok.1] at kk
    exact XS.ixor X.here hx rfl hd (st2 h1 h2) kk
  case ishl =>
    obtain ⟨a, b, S', rfl, h1, h2, rfl⟩ := sBin_ok h
    refine Nx.plain X hN hR hsz fun z kk => ?_
    rw [List.map_cons, nr_cv hA (m2_ok (σ := w.2.1)).2, m2_ok.1] at kk
    exact XS.ishl X.here hx rfl hd (st2 h1 h2) kk
  case ishr =>
    obtain ⟨a, b, S', rfl, h1, h2, rfl⟩ := sBin_ok h
    refine Nx.plain X hN hR hsz fun z kk => ?_
    rw [List.map_cons, nr_cv hA (m2_ok (σ := w.2.1)).2, m2_ok.1] at kk
    exact XS.ishr X.here hx rfl hd (st2 h1 h2) kk
  case iushr =>
    obtain ⟨a, b, S', rfl, h1, h2, rfl⟩ := sBin_ok h
    refine Nx.plain X hN hR hsz fun z kk => ?_
    rw [List.map_cons, nr_cv hA (m2_ok (σ := w.2.1)).2, m2_ok.1] at kk
    exact XS.iushr X.here hx rfl hd (st2 h1 h2) kk
  case idiv =>
    obtain ⟨a, k, S', rfl, h1, h2, rfl⟩ := sDiv_ok h
    refine Nx.plain X hN hR hsz fun z kk => ?_
    rw [List.map_cons, nr_cv hA (mDiv_ok (σ := w.2.1)).2, mDiv_ok.1] at kk
    exact XS.idiv X.here hx rfl hd (stD h1) h2 kk
  case irem =>
    obtain ⟨a, k, S', rfl, h1, h2, rfl⟩ := sDiv_ok h
    refine Nx.plain X hN hR hsz fun z kk => ?_
    rw [List.map_cons, nr_cv hA (mRem_ok (σ := w.2.1)).2, mRem_ok.1] at kk
    exact iremM X hx rfl hd (stD h1) h2 kk
  case ineg =>
    obtain ⟨a, S', rfl, h1, rfl⟩ := sUn_ok h
    refine Nx.plain X hN hR hsz fun z kk => ?_
    rw [List.map_cons, nr_cv hA (m1_ok (σ := w.2.1) (o := .ineg) (by decide)).2, (m1_ok (o := .ineg) (by decide)).1] at kk
    exact XS.ineg X.here hx rfl hd (st1 h1) kk
  case i2b =>
    obtain ⟨a, S', rfl, h1, rfl⟩ := sUn_ok h
    refine Nx.plain X hN hR hsz fun z kk => ?_
    rw [List.map_cons, nr_cv hA (mB_ok (σ := w.2.1)).2, mB_ok.1] at kk
    exact XS.i2b X.here hx rfl hd (st1 h1) kk
  case i2c =>
    obtain ⟨a, S', rfl, h1, rfl⟩ := sUn_ok h
    refine Nx.plain X hN hR hsz fun z kk => ?_
    rw [List.map_cons, nr_cv hA (m1_ok (σ := w.2.1) (o := .i2c) (by decide)).2, (m1_ok (o := .i2c) (by decide)).1] at kk
    exact XS.i2c X.here hx rfl hd (st1 h1) kk
  case i2s =>
    obtain ⟨a, S', rfl, h1, rfl⟩ := sUn_ok h
    refine Nx.plain X hN hR hsz fun z kk => ?_
    rw [List.map_cons, nr_cv hA (m1_ok (σ := w.2.1) (o := .i2s) (by decide)).2, (m1_ok (o := .i2s) (by decide)).1] at kk
    exact XS.i2s X.here hx rfl hd (st1 h1) kk
  case lushr =>
    simp only [step] at h
    split at h
    · rename_i k a S'
      cases q1 : isL a <;> simp only [q1, cond_true, cond_false] at h
      · cases h
      simp only [Sum.inr.injEq] at h; subst h
      refine Nx.plain X hN hR hsz fun z kk => ?_
      exact XS.lushr X.here hx rfl hd (stLD q1) kk
    · cases h
  case l2i =>
    simp only [step] at h
    split at h
    · rename_i a S'
      cases q1 : isL a <;> simp only [q1, cond_true, cond_false] at h
      · cases h
      simp only [Sum.inr.injEq] at h; subst h
      refine Nx.plain X hN hR hsz fun z kk => ?_
      simp only [List.map_cons, nr_cv hA (show isI (.op1 .l2i a) = true from rfl)] at kk
      exact XS.l2i X.here hx rfl hd (stL q1) kk
    · cases h
  case iinc k d =>
    simp only [step] at h
    split at h
    · rename_i t ht
      cases q1 : isI t <;> simp only [q1, cond_true, cond_false] at h
      · cases h
      simp only [Sum.inr.injEq] at h; subst h
      refine Nx.plain X hN hR hsz fun z kk => ?_
      have hI : isI (mAdd t (.int (Int32.ofInt d))) = true := (mAdd_ok (σ := w.2.1)).2
      have e1 : cs w (some t) = .val (.int (tv w.2.1 t)) := by rw [cs_val (Or.inl q1), cv_I q1]
      have hst : storeLocals (cL w Ls) k (.int (tv w.2.1 t + Int32.ofInt d)) = some (cL w (Ls.set k (some (mAdd t (.int (Int32.ofInt d)))))) := by
        rw [← cL_set (Or.inl hI), cv_I hI, mAdd_ok.1]
        exact XS.store1 (cL_get ht) (by rw [e1]; exact Or.inr ⟨_, rfl, rfl⟩) rfl
      exact XS.iinc X.here hx rfl hd (by rw [cL_get ht, e1]) hst kk
    · cases h
  case dup =>
    simp only [step] at h
    split at h
    · rename_i t S'
      cases q1 : isL t <;> simp only [q1, Bool.not_false, Bool.not_true, cond_true, cond_false] at h
      · simp only [Sum.inr.injEq] at h; subst h
        exact Nx.plain X hN hR hsz fun z kk => XS.dup X.here hx rfl hd rfl (cv_cat hW q1) kk
      · cases h
    · cases h
  case dup_x1 =>
    simp only [step] at h
    split at h
    · rename_i t u S'
      cases q1 : isL t <;> cases q2 : isL u <;> simp only [q1, q2, Bool.not_false, Bool.not_true, Bool.and_self, Bool.and_false, Bool.false_and, Bool.and_true, cond_true, cond_false] at h <;> first | cases h; done | skip
      simp only [Sum.inr.injEq] at h; subst h
      exact Nx.plain X hN hR hsz fun z kk => XS.dupX1 X.here hx rfl hd rfl (cv_cat hW q1) (cv_cat hW q2) kk
    · cases h
  case dup_x2 =>
    simp only [step] at h
    split at h
    · rename_i t u v S'
      cases q1 : isL t <;> cases q2 : isL u <;> cases q3 : isL v <;> simp only [q1, q2, q3, Bool.not_false, Bool.not_true, Bool.and_self, Bool.and_false, Bool.false_and, Bool.and_true, cond_true, cond_false] at h <;> first | cases h; done | skip
      simp only [Sum.inr.injEq] at h; subst h
      refine Nx.plain X hN hR hsz fun z kk => ?_
      have c1 := cv_cat hW q1; have c2 := cv_cat hW q2; have c3 := cv_cat hW q3
      show Steps p.tables e below (T.setTop (mkF m pc (cL w Ls) (cv w t :: cv w u :: cv w v :: S'.map (cv w)))) z
      jvm_step X.here [X.here.top, hx, hd, c1, c2, c3]
      exact kk
    · cases h
  case dup2 =>
    simp only [step] at h
    split at h
    · rename_i t u S'
      cases q1 : isL t <;> cases q2 : isL u <;> simp only [q1, q2, Bool.not_false, Bool.not_true, Bool.and_self, Bool.and_false, Bool.false_and, Bool.and_true, cond_true, cond_false] at h <;> first | cases h; done | skip
      simp only [Sum.inr.injEq] at h; subst h
      refine Nx.plain X hN hR hsz fun z kk => ?_
      have c1 := cv_cat hW q1; have c2 := cv_cat hW q2
      show Steps p.tables e below (T.setTop (mkF m pc (cL w Ls) (cv w t :: cv w u :: S'.map (cv w)))) z
      jvm_step X.here [X.here.top, hx, hd, c1, c2]
      exact kk
    · cases h
  case pop =>
    simp only [step] at h
    split at h
    · rename_i t S'
      cases q1 : isL t <;> simp only [q1, Bool.not_false, Bool.not_true, cond_true, cond_false] at h
      · simp only [Sum.inr.injEq] at h; subst h
        exact Nx.plain X hN hR hsz fun z kk => XS.pop X.here hx rfl hd rfl (cv_cat hW q1) kk
      · cases h
    · cases h
  case goto o =>
    simp only [step] at h
    by_cases q : 0 ≤ (pc : Int) + o
    · simp [q] at h; subst h
      exact Nx.plain X hN hR hsz fun z kk => XS.goto X.here hx rfl (pc0 := pc) rfl hd q rfl kk
    · simp [q] at h
  case ifCond cd o =>
    simp only [step] at h
    split at h
    · rename_i a S'
      cases q1 : isI a <;> simp only [q1, cond_true, cond_false] at h
      · cases h
      have hr : ifCond.holds cd (tv w.2.1 a) = _ := (if0 cd _).trans (holds_rel (σ := w.2.1) cd a (.int 0))
      refine sBr_ok (S0 := a :: S') hx hby hA X hN hR hsz (fun z g1 g2 kk => ?_) (fun z g1 kk => ?_) h
      · exact XS.ifYes X.here hx rfl (pc0 := pc) rfl hd (st1 q1) (hr.trans g1) g2 rfl kk
      · exact XS.ifNo X.here hx rfl hd (st1 q1) (hr.trans g1) kk
    · cases h
  case if_icmp cd o =>
    simp only [step] at h
    split at h
    · rename_i b a S'
      cases q1 : isI a <;> cases q2 : isI b <;> simp only [q1, q2, Bool.and_self, Bool.and_false, Bool.false_and, Bool.and_true, cond_true, cond_false] at h <;> first | cases h; done | skip
      split at h
      · rename_i x hx'
        simp only [Sum.inr.injEq] at h; subst h
        exact sBl_ok hx hby hA X hN hR hsz hd hx'
      · cases h
      have hr := holds_rel (σ := w.2.1) cd a b
      refine sBr_ok (S0 := b :: a :: S') hx hby hA X hN hR hsz (fun z g1 g2 kk => ?_) (fun z g1 kk => ?_) h
      · exact XS.icmpYes X.here hx rfl (pc0 := pc) rfl hd (st2 q1 q2) (hr.trans g1) g2 rfl kk
      · exact XS.icmpNo X.here hx rfl hd (st2 q1 q2) (hr.trans g1) kk
    · cases h
  case if_acmp cd o =>
    simp only [step, sAc] at h
    split at h
    · rename_i b a S'
      cases q1 : isR a <;> cases q2 : isR b <;> simp only [q1, q2, Bool.and_self, Bool.and_false, Bool.false_and, Bool.and_true, cond_true, cond_false] at h <;> first | cases h; done | skip
      split at h
      · rename_i rr hrr
        have hq := rcmp_ok hWs.2.1 hrr
        cases q3 : acV cd rr <;> simp only [q3, cond_true, cond_false] at h
        · by_cases q : 0 ≤ (pc : Int) + o
          · simp [q] at h; subst h
            refine Nx.plain X hN hR hsz fun z kk => ?_
            exact Jvm.RoadKit.acmp (g := mkF m pc (cL w Ls) ((b :: a :: S').map (cv w))) X hx rfl (cv_R hW q1) (cv_R hW q2) (pc0 := pc) (pc' := pc + 3) (same := rr) rfl hd rfl hq q (by simp [q3]) kk
          · simp [q] at h
        · by_cases q : 0 ≤ (pc : Int) + o
          · simp [q] at h; subst h
            refine Nx.plain X hN hR hsz fun z kk => ?_
            exact Jvm.RoadKit.acmp (g := mkF m pc (cL w Ls) ((b :: a :: S').map (cv w))) X hx rfl (cv_R hW q1) (cv_R hW q2) (pc0 := pc) (same := rr) rfl hd rfl hq q (by simp [q3]) kk
          · simp [q] at h
      · cases h
    · cases h
  case ifnull o =>
    simp only [step, sNul] at h
    split at h
    · rename_i t S'
      split at h
      · rename_i rr hrr
        have hq := nul_ok (w := w) hrr
        cases rr with
        | true =>
          simp only [beq_self_eq_true, cond_true] at h
          by_cases q : 0 ≤ (pc : Int) + o
          · simp [q] at h; subst h
            refine Nx.plain X hN hR hsz fun z kk => ?_
            exact XT.nullYes X.here hx rfl (pc0 := pc) rfl hd rfl (of_decide_eq_true hq.1) q rfl kk
          · simp [q] at h
        | false =>
          simp only [show (false == true) = false from rfl, cond_false, Sum.inr.injEq] at h; subst h
          refine Nx.plain X hN hR hsz fun z kk => ?_
          exact XT.nullNo X.here hx rfl hd rfl (cv_R hW hq.2) (of_decide_eq_false hq.1) kk
      · cases h
    · cases h
  case ifnonnull o =>
    simp only [step, sNul] at h
    split at h
    · rename_i t S'
      split at h
      · rename_i rr hrr
        have hq := nul_ok (w := w) hrr
        cases rr with
        | false =>
          simp only [beq_self_eq_true, cond_true] at h
          by_cases q : 0 ≤ (pc : Int) + o
          · simp [q] at h; subst h
            refine Nx.plain X hN hR hsz fun z kk => ?_
            exact XT.nonnullYes X.here hx rfl (pc0 := pc) rfl hd rfl (cv_R hW hq.2) (of_decide_eq_false hq.1) q rfl kk
          · simp [q] at h
        | true =>
          simp only [show (true == false) = false from rfl, cond_false, Sum.inr.injEq] at h; subst h
          refine Nx.plain X hN hR hsz fun z kk => ?_
          exact XT.nonnullNo X.here hx rfl hd rfl (of_decide_eq_true hq.1) kk
      · cases h
    · cases h
  case getfield k => exact sGetF_ok hw hx hZ hA hown X hN hR hsz hd h
  case putfield k => exact sPutF_ok hw hx hZ hW hown hnm X hN hR hsz hd h
  case getstatic k =>
    simp only [step, sGetS] at h
    cases q1 : (Nat.blt r nLS && (Nat.beq (lsI r) k && Nat.beq (lsK r) (mK mi))) <;> simp only [q1, cond_true, cond_false] at h
    · cases h
    simp only [Sum.inr.injEq] at h; subst h
    simp only [Bool.and_eq_true] at q1
    have r1 : r < nLS := by have := q1.1; rwa [Nat.blt_eq] at this
    have r2 := Nat.eq_of_beq_eq_true q1.2.1
    have r3 := Nat.eq_of_beq_eq_true q1.2.2
    subst r2
    obtain ⟨lk, Sv⟩ := hWs.2.2.1 r r1
    rw [r3] at lk
    obtain ⟨T', X', e', st'⟩ := getS2 X hx hZ hown (host := "") (Or.inl lk) Via.refl rfl (Sv.ext hR.2.1) (g := mkF m pc (cL w Ls) (S.map (cv w))) rfl hd
    exact ⟨T', locs, X', hN, by rw [e']; exact hR, by rw [e']; exact hsz, st'⟩
  case iaload =>
    refine sALoad_ok hA X hN hR hsz (fun {a cl j v ty rest} q0 Ar hin hat t kk => ?_) h
    have := of_decide_eq_true q0; subst this
    exact X.iaload hx Ar.1 (State.isArrayOf_alike hZ.alike Ar.2.1) Ar.2.2 hin hat (g := mkF m pc (cL w Ls) (.int j :: .ref a :: rest)) rfl rfl hd _ kk
  case laload =>
    refine sALoad_ok hA X hN hR hsz (fun {a cl j v ty rest} q0 Ar hin hat t kk => ?_) h
    have := of_decide_eq_true q0; subst this
    exact X.laload hx Ar.1 (State.isArrayOf_alike hZ.alike Ar.2.1) Ar.2.2 hin hat (g := mkF m pc (cL w Ls) (.int j :: .ref a :: rest)) rfl rfl hd _ kk
  case lastore =>
    refine sAStore_ok X hN hR hsz (fun {a cl j v v' ty rest} q0 q1 Ar hin => ?_) h
    have := of_decide_eq_true q0; subst this
    simp only [lNar] at q1
    cases q2 : isL v <;> simp only [q2, cond_true, cond_false, Option.some.injEq] at q1 <;> first | cases q1; done | skip
    subst q1
    refine ⟨by rw [cv_L q2]; rfl, ?_⟩
    rw [cv_L q2]
    exact stJ X hx hZ rfl Ar (j := j) hin (g := mkF m pc (cL w Ls) (.long (tl w.2.1 v) :: .int j :: .ref a :: rest)) rfl rfl hd
  case ldc_w k =>
    simp only [step, sLdc] at h
    cases q1 : (Nat.blt r nLK && (Nat.beq (lkI r) k && Nat.beq (lkK r) (mK mi))) <;> simp only [q1, cond_true, cond_false] at h
    · cases h
    simp only [Sum.inr.injEq] at h; subst h
    simp only [Bool.and_eq_true] at q1
    have r1 : r < nLK := by have := q1.1; rwa [Nat.blt_eq] at this
    have r2 := Nat.eq_of_beq_eq_true q1.2.1
    have r3 := Nat.eq_of_beq_eq_true q1.2.2
    subst r2
    have lk := lk_ok hw r1
    rw [r3] at lk
    refine Nx.plain X hN hR hsz fun z kk => ?_
    exact X.ldcWInt hx hown (mvT hZ lk) (g := mkF m pc (cL w Ls) (S.map (cv w))) rfl hd _ kk
  case lconst k =>
    simp only [step, Sum.inr.injEq] at h; subst h
    refine Nx.plain X hN hR hsz fun z kk => ?_
    exact XT.lconstV X.here hx rfl (Int64.ofNat k) hd rfl kk
  case ladd =>
    simp only [step] at h
    split at h
    · simp only [Sum.inr.injEq] at h; subst h
      refine Nx.plain X hN hR hsz fun z kk => ?_
      exact XT.ladd X.here hx rfl hd rfl kk
    · cases h
  case lcmp =>
    simp only [step] at h
    split at h
    · simp only [Sum.inr.injEq] at h; subst h
      refine Nx.plain X hN hR hsz fun z kk => ?_
      exact XT.lcmp X.here hx rfl hd rfl kk
    · cases h
  case dup2_x1 =>
    simp only [step] at h
    split at h
    · rename_i x u S'
      cases q1 : isL u <;> simp only [q1, Bool.not_false, Bool.not_true, cond_true, cond_false] at h <;> first | cases h; done | skip
      simp only [Sum.inr.injEq] at h; subst h
      refine Nx.plain X hN hR hsz fun z kk => ?_
      have c1 := cv_cat hW q1
      show Steps p.tables e below (T.setTop (mkF m pc (cL w Ls) (.long x :: cv w u :: S'.map (cv w)))) z
      jvm_step X.here [X.here.top, hx, hd, c1, Value.category]
      exact ⟨c1, kk⟩
    · cases h
  case lookupswitch d ps =>
    simp only [step] at h
    split at h
    · rename_i k S'
      cases q1 : (ps.toList.zip (ps.toList.drop 1)).all (fun (a, next) => decide (a.1 < next.1)) <;> simp only [q1, cond_true, cond_false] at h
      · cases h
      split at h
      · rename_i a o hf
        by_cases z : 0 ≤ (pc : Int) + o
        · simp [z] at h; subst h
          refine Nx.plain X hN hR hsz fun t kk => ?_
          exact X.lookupswitchHit hx (g := mkF m pc (cL w Ls) ((.int k :: S').map (cv w))) rfl rfl hd q1 hf z t kk
        · simp [z] at h
      · rename_i hf
        by_cases z : 0 ≤ (pc : Int) + d
        · simp [z] at h; subst h
          refine Nx.plain X hN hR hsz fun t kk => ?_
          exact X.lookupswitchMiss hx (g := mkF m pc (cL w Ls) ((.int k :: S').map (cv w))) rfl rfl hd q1 hf z t kk
        · simp [z] at h
    · cases h
  case baload =>
    simp only [step] at h
    split at h
    rotate_left
    · exact sTab_ok hx hZ hA X hN hR hsz hd h
    rename_i x hx'
    simp only [Sum.inr.injEq] at h; subst h
    refine sALoad_ok hA X hN hR hsz (fun {a cl j v ty rest} q0 Ar hin hat t kk => ?_) hx'
    simp only [Bool.or_eq_true, decide_eq_true_eq] at q0
    rcases q0 with rfl | rfl
    · exact X.baloadBooleans hx Ar.1 (State.isArrayOf_alike hZ.alike Ar.2.1) Ar.2.2 hin hat (g := mkF m pc (cL w Ls) (.int j :: .ref a :: rest)) rfl rfl hd _ kk
    · exact X.baloadBytes hx Ar.1 (State.isArrayOf_alike hZ.alike Ar.2.1) Ar.2.2 hin hat (g := mkF m pc (cL w Ls) (.int j :: .ref a :: rest)) rfl rfl hd _ kk
  case aaload =>
    simp only [step] at h
    split at h
    · rename_i j cc k S'
      cases q1 : isI j <;> simp only [q1, Bool.false_and, Bool.true_and, cond_false] at h
      · cases h
      cases q2 : rg j with
      | none => simp [q2] at h
      | some u =>
        simp only [q2] at h
        cases q3 : Nat.blt u (oLen k) <;> simp only [q3, cond_true, cond_false] at h
        · cases h
        simp only [Sum.inr.injEq] at h; subst h
        rw [Nat.blt_eq] at q3
        obtain ⟨cl, ty, Ar, hty, hsl, hel⟩ := hWs.2.2.2 k (by omega)
        have hb := rg_ok (σ := w.2.1) q2
        have e0 : (0 : Int32).toInt = 0 := rfl
        have j0 : ¬ tv w.2.1 j < 0 := by rw [Int32.lt_iff_toInt_lt]; omega
        have j1 : (tv w.2.1 j).toNatClampNeg < oLen k := by simp only [Int32.toNatClampNeg]; omega
        have A2 := Ar.ext hR.2.1
        refine Nx.plain X hN hR hsz fun z kk => ?_
        simp only [List.map_cons, cv_I q1]
        exact X.aaload hx (j := tv w.2.1 j) A2.1 (State.isArrayOf_alike hZ.alike A2.2.1) hty A2.2.2 (fun z => z.elim j0 fun y => by omega) (hel _ j0 j1) (g := mkF m pc (cL w Ls) (.int (tv w.2.1 j) :: cv w (.string cc k) :: S'.map (cv w))) rfl rfl hd _ kk
    · refine sALoad_ok hA X hN hR hsz (fun {a cl j v ty rest} q0 Ar hin hat t kk => ?_) h
      exact X.aaload hx Ar.1 (State.isArrayOf_alike hZ.alike Ar.2.1) q0 Ar.2.2 hin hat (g := mkF m pc (cL w Ls) (.int j :: .ref a :: rest)) rfl rfl hd _ kk
  case iastore =>
    refine sAStore_ok X hN hR hsz (fun {a cl j v v' ty rest} q0 q1 Ar hin => ?_) h
    have := of_decide_eq_true q0; subst this
    simp only [iNar] at q1
    cases q2 : isI v <;> simp only [q2, cond_true, cond_false, Option.some.injEq] at q1 <;> first | cases q1; done | skip
    subst q1
    refine ⟨by rw [cv_I q2]; rfl, ?_⟩
    rw [cv_I q2]
    exact stI X hx hZ rfl Ar (j := j) hin (g := mkF m pc (cL w Ls) (.int (tv w.2.1 v) :: .int j :: .ref a :: rest)) rfl rfl hd
  case bastore =>
    simp only [step] at h
    split at h
    · rename_i x hx'
      simp only [Sum.inr.injEq] at h; subst h
      refine sAStore_ok X hN hR hsz (fun {a cl j v v' ty rest} q0 q1 Ar hin => ?_) hx'
      have := of_decide_eq_true q0; subst this
      simp only [zNar] at q1
      cases q2 : fitK 2 v <;> simp only [q2, cond_true, cond_false, Option.some.injEq] at q1 <;> first | cases q1; done | skip
      subst q1
      have f2 := fitK2 (w := w) q2
      refine ⟨f2.2.2, ?_⟩
      obtain ⟨T', h', X', e', W', st'⟩ := stZ X hx hZ rfl Ar (j := j) (x := tv w.2.1 v) hin (g := mkF m pc (cL w Ls) (.int (tv w.2.1 v) :: .int j :: .ref a :: rest)) rfl rfl hd
      refine ⟨T', h', X', e', ?_, fun t kk => ?_⟩
      · have e1 : nar .boolean (tv w.2.1 v) = tv w.2.1 v := f2.2.1
        rw [cv_I f2.1]
        rw [show (Value.int (tv w.2.1 v)) = .int (nar .boolean (tv w.2.1 v)) by rw [e1]]
        exact W'
      · rw [cv_I f2.1]; exact st' t kk
    · refine sAStore_ok X hN hR hsz (fun {a cl j v v' ty rest} q0 q1 Ar hin => ?_) h
      have := of_decide_eq_true q0; subst this
      simp only [bNar] at q1
      cases q2 : isI v <;> simp only [q2, cond_true, cond_false, Option.some.injEq] at q1 <;> first | cases q1; done | skip
      subst q1
      have e1 : cv w (mB v) = .int (tv w.2.1 v).toInt8.toInt32 := by rw [cv_I (mB_ok (σ := w.2.1)).2, mB_ok.1]
      refine ⟨by rw [e1]; exact fits_nar_byte _, ?_⟩
      rw [cv_I q2, e1]
      exact stB X hx hZ rfl Ar (j := j) hin (g := mkF m pc (cL w Ls) (.int (tv w.2.1 v) :: .int j :: .ref a :: rest)) rfl rfl hd
  case aastore => exact sRStore_ok hx hZ hW X hN hR hsz hd h
  case arraylength => exact sLen_ok hx hZ X hN hR hsz hd h
  case new k => exact sNew_ok hw hx hZ hown X hN hR hsz hd h hc hs
  case newarray ty =>
    simp only [step] at h
    split at h
    · rename_i x hx'
      simp only [Sum.inr.injEq] at h; subst h
      exact sNewP_ok hw hx hZ X hN hR hsz hd hx' hc hs
    · exact sNewJ_ok hw hx hZ X hN hR hsz hd h hc hs
  case anewarray k => exact sNewR_ok hw hx hZ hown X hN hR hsz hd h hc hs
  case multianewarray k d =>
    simp only [step] at h
    cases q1 : Nat.beq d 2 <;> simp only [q1, cond_true, cond_false] at h
    · cases h
    have := Nat.eq_of_beq_eq_true q1; subst this
    exact sGrid_ok hw hx hZ hown X hN hR hsz hd h hc hs
  case checkcast k => exact sCast_ok hw hx hZ hown X hN hR hsz hd h
  all_goals (simp only [step] at h; cases h)
end Sound

/-! the run -/
abbrev GR := Sum Nd (Option Term × AH × Nat × Nat)
def ent (av : List Term) (n : Nat) : List (Option Term) := av.map some ++ List.replicate (n - av.length) none
def rtk (kd : Nat) (t : Term) : Option Term := match kd with
  | 1 => bif isI t then some t else none
  | 2 => bif fitK 2 t then some t else none
  | 4 => bif isI t then some (mB t) else none
  | _ => none
/-- the calls that the library steps itself: Object.<init>, System.arraycopy, an array's clone -/
def nstep (mi pc op k r : Nat) (Ls : List (Option Term)) (S : List Term) (H : AH) (fb lb : Nat) : Rs :=
  bif Nat.blt r nS && (Nat.beq (sI r) k && (Nat.beq (sK r) (mK mi) && (Nat.beq (sOp r) op && (Nat.ble 1 fb && Nat.beq Ls.length (mMax mi))))) then (match sNat r with
    | 1 => match S with
      | .index _ :: S' => bif S'.all (fun t => !isL t) && Nat.ble (12 + S'.length) lb then .inr (pc + 3, Ls, S', H, 0, 0) else .inl none
      | _ => .inl none
    | 2 => match S with
      | .int n :: .int dp :: .index b :: .int sp :: .index a :: S' => match H[a]?, H[b]? with
        | some (ta, va), some (tb, vb) => bif S'.all (fun t => !isL t) && (Nat.ble (40 + S'.length) lb && (Nat.beq ta tb && (isP ta && ((Nat.ble va.length 100000 && Nat.ble vb.length 100000) && (!decide (sp < 0) && (!decide (dp < 0) && (!decide (n < 0) && (Nat.ble (sp.toNatClampNeg + n.toNatClampNeg) va.length && Nat.ble (dp.toNatClampNeg + n.toNatClampNeg) vb.length)))))))) then
            .inr (pc + 3, Ls, S', H.set b (tb, vb.take dp.toNatClampNeg ++ (va.drop sp.toNatClampNeg).take n.toNatClampNeg ++ vb.drop (dp.toNatClampNeg + n.toNatClampNeg)), 0, 0) else .inl none
        | _, _ => .inl none
      | _ => .inl none
    | 3 => match S with
      | .index a :: S' => match H[a]? with
        | some (t, vs) => bif S'.all (fun t => !isL t) && (Nat.ble (14 + S'.length) lb && (isP t && (Nat.beq (sT r) t && Nat.ble vs.length 100000))) then .inr (pc + 3, Ls, .index H.length :: S', H ++ [(t, vs)], 1, vs.length) else .inl none
        | none => .inl none
      | _ => .inl none
    | _ => .inl none) else .inl none
def rcv (op r : Nat) (av : List Term) (H : AH) : Bool := match op with
  | 0 => true
  | _ => match av with
    | .index a :: _ => match H[a]? with
      | some (t, _) => Nat.beq t (sT r)
      | none => false
    | _ => false
def okA : List Term → Bool
  | [] => true
  | t :: r => (isI t || isR t) && okA r
def contG (g : Nat → Nat → List (Option Term) → List Term → AH → Nat → Nat → GR) (mi fb lb : Nat) (x : Rs) : GR := match x with
  | .inl x => .inl x
  | .inr (pc, Ls, S, H, dc, ds) => match g mi pc Ls S H fb lb with
    | .inl x => .inl x
    | .inr (v, H2, c2, s2) => .inr (v, H2, dc + c2, ds + s2)
def callG (g : Nat → Nat → List (Option Term) → List Term → AH → Nat → Nat → GR) (mi pc op k r : Nat) (Ls : List (Option Term)) (S : List Term) (H : AH) (fb lb : Nat) : GR :=
  match nstep mi pc op k r Ls S H fb lb with
  | .inr x => contG g mi fb lb (.inr x)
  | .inl _ => bif Nat.blt r nS && (Nat.beq (sI r) k && (Nat.beq (sK r) (mK mi) && (Nat.beq (sOp r) op && (Nat.blt (sJ r) nM && (Nat.ble (mPar (sJ r)) S.length && (Nat.beq Ls.length (mMax mi) && Nat.ble (mPar (sJ r)) (mMax (sJ r)))))))) then
      (bif okA (S.take (mPar (sJ r))) && (rcv op r (S.take (mPar (sJ r))).reverse H && ((S.drop (mPar (sJ r))).all (fun t => !isL t) && (Nat.ble 1 fb && Nat.ble ((S.drop (mPar (sJ r))).length + (mMax (sJ r) + 11)) lb))) then
        (match g (sJ r) 0 (ent (S.take (mPar (sJ r))).reverse (mMax (sJ r))) [] H (fb - 1) (lb - ((S.drop (mPar (sJ r))).length + (mMax (sJ r) + 11))) with
        | .inl x => .inl x
        | .inr (v, H1, c1, s1) => contG g mi fb lb (.inr (pc + 3, Ls, v.toList ++ S.drop (mPar (sJ r)), H1, c1, s1))) else .inl none) else .inl none
def lit : Term → Bool
  | .int _ => true
  | _ => false
/-- a step; at some places of the law an int must be known -/
def stepC (A : List Asm) (mi pc : Nat) (Ls : List (Option Term)) (S : List Term) (H : AH) (x : Instr × Nat × Nat) : Rs :=
  bif Nat.beq mi 0 && cz pc then (match S with
    | t :: _ => bif isI t && !lit t then .inl (some (true, t, .null)) else step A mi pc Ls S H x
    | [] => step A mi pc Ls S H x) else step A mi pc Ls S H x
theorem stepC_ok {A : List Asm} {mi pc : Nat} {Ls : List (Option Term)} {S : List Term} {H : AH} {x : Instr × Nat × Nat} {st : St} (h : stepC A mi pc Ls S H x = .inr st) : step A mi pc Ls S H x = .inr st := by
  unfold stepC at h
  cases q : (Nat.beq mi 0 && cz pc) <;> simp only [q, cond_true, cond_false] at h
  · exact h
  split at h
  · rename_i t S'
    cases q2 : (isI t && !lit t) <;> simp only [q2, cond_true, cond_false] at h
    · exact h
    · cases h
  · exact h
def go (A : List Asm) : Nat → Nat → Nat → List (Option Term) → List Term → AH → Nat → Nat → GR
  | 0, _, _, _, _, _, _, _ => .inl none
  | f + 1, mi, pc, Ls, S, H, fb, lb => match ins mi pc with
    | none => .inl none
    | some (i, n, r) => bif Nat.beq n (ilen i) then (match i with
      | .ireturn => match S with
        | t :: _ => match rtk (mRk mi) t with
          | some t' => .inr (some t', H, 0, 0)
          | none => .inl none
        | _ => .inl none
      | .areturn => match S with
        | t :: _ => bif isR t && Nat.beq (mRk mi) 3 then .inr (some t, H, 0, 0) else .inl none
        | _ => .inl none
      | .return_ => match S with
        | [] => bif Nat.beq (mRk mi) 0 then .inr (none, H, 0, 0) else .inl none
        | _ => .inl none
      | .invokestatic k => callG (go A f) mi pc 0 k r Ls S H fb lb
      | .invokespecial k => callG (go A f) mi pc 1 k r Ls S H fb lb
      | .invokevirtual k => callG (go A f) mi pc 2 k r Ls S H fb lb
      | i => contG (go A f) mi fb lb (stepC A mi pc Ls S H (i, n, r))) else .inl none

/-! what a run says of the machine -/
def GoOk (Z : State) (a0 : Array Value) (w : Wl) (A : List Asm) (f : Nat) : Prop := ∀ (mi pc : Nat) (Ls : List (Option Term)) (S : List Term) (H : AH) (fb lb : Nat) (v : Option Term) (H' : AH) (dc ds : Nat), go A f mi pc Ls S H fb lb = .inr (v, H', dc, ds) →
  ∀ ⦃p : Program⦄ ⦃l : Launch⦄ ⦃e : Env⦄ ⦃R : Room⦄ ⦃s : State⦄ ⦃m : MethodId⦄ ⦃args : Array Value⦄ ⦃below : List Frame⦄ ⦃meth : Method⦄ ⦃c : Code⦄ ⦃T : State⦄ ⦃locs : List Loc⦄ ⦃cells slots : Nat⦄, p.tables.exec = Jvm.exec → Z.Warmed39 s.vm → c.code = mCode mi → c.maxLocals = mMax mi → s.vm.findClass (kls (mK mi)) = some m.cls → meth.name = mNm mi → meth.sig.returnType = mRet mi →
    Stand p l e R s m args below meth c T locs cells slots → Fr w.1 locs → Rep Z w T.heap H → T.heap.size = s.heap.size + cells → fb ≤ R.frames → lb ≤ R.locals → cells + dc ≤ R.cells → slots + ds ≤ R.slots →
    (mRet mi = none → v = none) ∧ ∃ (T' : State) (locs' : List Loc), Stand p l e R s m args below meth c T' locs' (cells + dc) (slots + ds) ∧ Fr w.1 locs' ∧ Rep Z w T'.heap H' ∧ T'.heap.size = s.heap.size + (cells + dc) ∧
      ∀ fs, (∀ (f : JFrame) (acts : List Action), f.method = m → f.locked = none → f.entered = [] → (doReturn e (T'.setTop f) acts (v.map (cv w))).1 = T'.setFrames fs) → Steps p.tables e below (T.setTop (mkF m pc (cL w Ls) (S.map (cv w)))) (T'.setFrames fs)

def QQ (Z : State) (w : Wl) (v : Option Term) (H1 : AH) (c1 : Nat) (h0 : Heap) (v' : Option Value) (h : Heap) (L : List Loc) : Prop := v' = v.map (cv w) ∧ Fr w.1 L ∧ Rep Z w h H1 ∧ h.size = h0.size + c1
section Run
variable {Z : State} {w : Wl} {a0 : Array Value} {A : List Asm}
set_option maxHeartbeats 4000000 in
theorem met {f mj fb lb c1 s1 : Nat} {Ls0 : List (Option Term)} {H H1 : AH} {v : Option Term} {h0 : Heap} {av : Array Value} {R : Room} (ih : GoOk Z a0 w A f) (h : go A f mj 0 Ls0 [] H fb lb = .inr (v, H1, c1, s1)) (hj : mj < nM)
    (hent : Jvm.Sym.laidSlots av.toList ++ List.replicate (mMax mj - (Jvm.Sym.laidSlots av.toList).length) .unset = (cL w Ls0).toList) (hR : Rep Z w h0 H) (hfb : fb ≤ R.frames) (hlb : lb ≤ R.locals) (hc : c1 ≤ R.cells) (hs : s1 ≤ R.slots) (l : Launch) (ws : List Jvm.Cond) :
    MetFree l (mName mj) (head1 (Jvm.Cond.code (mName mj) (mCode mj) (mMax mj) (mRet mj) :: ws) R) (fun a U => a = av ∧ Z.Warmed39 U.vm ∧ U.heap = h0) (fun _ _ _ _ _ => True) (fun _ U o U' => ∃ v' L, o = .returned v' ∧ QQ Z w v H1 c1 h0 v' U'.heap L ∧ FrameEnd U o U' L c1 s1) := by
  refine MetFree.of_bodySF (mPl_ok hj) hisR ?_
  intro p e s m args below meth c s₁ Bd hml0 hP hK
  obtain ⟨rfl, hZ, hh⟩ := hP
  have hx := Bd.exec
  have hby := Bd.bytes
  have hown : s.vm.findClass (kls (mK mj)) = some m.cls := findClass_of_methodNamed Bd.named
  have hnm := (name_of_methodNamed Bd.named Bd.method).1
  have X0 : Stand p l e R s m args below meth c s₁ [] 0 0 := Stand.of_body Bd
  have e0 : s₁.heap = h0 := by rw [← hh, Bd.state]; rfl
  obtain ⟨hv, T', locs', X', hN', hR', hsz', hst⟩ := ih mj 0 Ls0 [] H fb lb v H1 c1 s1 h hx hZ hby hml0 hown hnm Bd.returns X0 (Fr.nil _) (by rw [e0]; exact hR) (by rw [e0, ← hh]; rfl) hfb hlb (by omega) (by omega)
  obtain ⟨fs, hr, hrun, hended, hW, hsame⟩ := X'.leave (v := v.map (cv w)) (fun z => by rw [Bd.returns] at z; rw [hv z]; rfl)
  refine ⟨_, _, (XT.entry hent).trans (hst fs hr), hrun, hended, _, _, rfl, ⟨rfl, hN', hR', ?_⟩, ⟨_, rfl⟩, hW, hsame.mono (by omega) (by omega)⟩
  show T'.heap.size = h0.size + c1
  rw [hsz', ← hh]; omega
theorem laid_map (hW : Wok w) : ∀ {av : List Term}, okA av = true → Jvm.Sym.laidSlots (av.map (cv w)) = av.map fun t => .val (cv w t)
  | [], _ => rfl
  | t :: r, h => by
    simp only [okA, Bool.and_eq_true, Bool.or_eq_true] at h
    have hc : (cv w t).category = 1 := cv_cat hW (by rcases h.1 with z | z; exact nl_I z; exact nl_R z)
    simp only [List.map_cons, Jvm.Sym.laidSlots, hc, laid_map hW h.2]
    rfl
theorem okA_mem {av : List Term} (h : okA av = true) : ∀ t ∈ av, isI t = true ∨ isR t = true := by
  induction av with
  | nil => intro t ht; cases ht
  | cons a r ih =>
    simp only [okA, Bool.and_eq_true, Bool.or_eq_true] at h
    intro t ht
    rcases List.mem_cons.mp ht with rfl | ht
    · exact h.1
    · exact ih h.2 t ht
theorem okA_of {av : List Term} (h : ∀ t ∈ av, isI t = true ∨ isR t = true) : okA av = true := by
  induction av with
  | nil => rfl
  | cons a r ih =>
    simp only [okA, Bool.and_eq_true, Bool.or_eq_true]
    exact ⟨h a (List.mem_cons_self ..), ih fun t ht => h t (List.mem_cons_of_mem _ ht)⟩
theorem ent_ok (hW : Wok w) {av : List Term} {n : Nat} (h : okA av = true) : Jvm.Sym.laidSlots (av.map (cv w)).toArray.toList ++ List.replicate (n - (Jvm.Sym.laidSlots (av.map (cv w)).toArray.toList).length) .unset = (cL w (ent av n)).toList := by
  simp only [List.toList_toArray, laid_map hW h, cL, ent, List.map_append, List.map_map, List.map_replicate, List.length_map]
  congr 1
  refine List.map_congr_left fun t ht => ?_
  have := okA_mem h t ht
  rcases this with z | z
  · exact (cs_val (Or.inl z)).symm
  · exact (cs_val (Or.inr (Or.inl z))).symm
theorem cat_sum (hW : Wok w) : ∀ {L : List Term}, L.all (fun t => !isL t) = true → ((L.map (cv w)).map fun v => v.category).sum = L.length
  | [], _ => rfl
  | t :: r, h => by
    simp only [List.all_cons, Bool.and_eq_true, Bool.not_eq_true'] at h
    simp only [List.map_cons, List.sum_cons, cv_cat hW h.1, cat_sum hW h.2, List.length_cons]; omega

theorem acw : nativeFrameWords "java/lang/System" "arraycopy" 5 + 11 ≤ 40 := by decide
theorem list_arv {h : Heap} {a : Addr} {t : Nat} {vs : List Term} {ty : FieldType} (C : RC Z w h a (t, vs)) (hty : aty t = some ty) (hl : vs.length ≤ 100000) : ∃ z : Int32, ¬ z < 0 ∧ z.toNatClampNeg = vs.length ∧ ∃ kc, Arv Z h a kc ty z (vs.map (cv w)) .null := by
  obtain ⟨cl, Ar, Hs, Hf, -⟩ := C.arr hty
  have e1 : vs.length.toInt32.toInt = vs.length := len_toInt (by omega)
  have e2 : vs.length.toInt32.toNatClampNeg = vs.length := by simp only [Int32.toNatClampNeg, e1]; rfl
  refine ⟨vs.length.toInt32, ?_, e2, cl.cls, cl, Ar, rfl, by rw [e2]; exact slots_len Hs, ?_, fun i hi => ?_, fun i hi => ?_⟩
  · rw [Int32.lt_iff_toInt_lt, e1]; have e0 : (0 : Int32).toInt = 0 := rfl; omega
  · rw [Int32.lt_iff_toInt_lt, e1]; have e0 : (0 : Int32).toInt = 0 := rfl; omega
  · have hi' : i < vs.length := by rw [slots_len Hs] at hi; exact hi
    rw [slots_get Hs (List.getElem?_eq_getElem hi'), List.getD_eq_getElem?_getD, List.getElem?_map, List.getElem?_eq_getElem hi']; rfl
  · have hi' : i < vs.length := by rw [slots_len Hs] at hi; exact hi
    rw [List.getD_eq_getElem?_getD, List.getElem?_map, List.getElem?_eq_getElem hi']
    exact Hf _ (List.getElem_mem hi')
theorem app_take {S : List Term} {n : Nat} : S.map (cv w) = ((S.take n).reverse.map (cv w)).reverse ++ (S.drop n).map (cv w) := by
  rw [← List.map_reverse, List.reverse_reverse, ← List.map_append, List.take_append_drop]
set_option maxHeartbeats 8000000 in
theorem nstep_ok {mi pc op k r fb lb : Nat} {Ls : List (Option Term)} {S : List Term} {H : AH} {st : St} {p : Program} {l : Launch} {e : Env} {R : Room} {s : State} {m : MethodId} {args : Array Value} {below : List Frame} {meth : Method} {c : Code} {T : State} {locs : List Loc} {cells slots : Nat}
    (hw : ∀ d ∈ tables_1, d.before a0 Z = true) (hWs : Wst Z a0 w) (hx : p.tables.exec = Jvm.exec) (hZ : Z.Warmed39 s.vm) (hml : c.maxLocals = mMax mi) (hown : s.vm.findClass (kls (mK mi)) = some m.cls) (X : Stand p l e R s m args below meth c T locs cells slots) (hN : Fr w.1 locs) (hR : Rep Z w T.heap H) (hsz : T.heap.size = s.heap.size + cells)
    (hd : decode c.code pc = .ok ((opI op k), 3)) (hfb : fb ≤ R.frames) (hlb : lb ≤ R.locals) (h : nstep mi pc op k r Ls S H fb lb = .inr st) (hc : cells + st.2.2.2.2.1 ≤ R.cells) (hs : slots + st.2.2.2.2.2 ≤ R.slots) :
    Nx Z w p l e R s m args below meth c T cells slots pc Ls S st := by
  have hW := hWs.1
  unfold nstep at h
  cases q1 : (Nat.blt r nS && (Nat.beq (sI r) k && (Nat.beq (sK r) (mK mi) && (Nat.beq (sOp r) op && (Nat.ble 1 fb && Nat.beq Ls.length (mMax mi)))))) <;> simp only [q1, cond_true, cond_false] at h
  · cases h
  simp only [Bool.and_eq_true] at q1
  have r1 : r < nS := by have := q1.1; rwa [Nat.blt_eq] at this
  have r2 := Nat.eq_of_beq_eq_true q1.2.1
  have r3 := Nat.eq_of_beq_eq_true q1.2.2.1
  have r4 := Nat.eq_of_beq_eq_true q1.2.2.2.1
  have r5 := Nat.le_of_ble_eq_true q1.2.2.2.2.1
  have r6 := Nat.eq_of_beq_eq_true q1.2.2.2.2.2
  subst r2 r4
  have hsize : (cL w Ls).size = c.maxLocals := by rw [cL_size, hml, r6]
  rw [← r3] at hown
  split at h
  · rename_i hn
    split at h
    · rename_i a S'
      cases q2 : (S'.all (fun t => !isL t) && Nat.ble (12 + S'.length) lb) <;> simp only [q2, cond_true, cond_false] at h
      · cases h
      simp only [Sum.inr.injEq] at h; subst h
      simp only [Bool.and_eq_true] at q2
      have q3 := Nat.le_of_ble_eq_true q2.2
      obtain ⟨ho, w1, w2, w3⟩ := site1_ok hw r1 hn
      rw [ho] at hd
      obtain ⟨T', X', e', st'⟩ := initO X hx hZ hown w1 w2 w3 rfl (g := mkF m pc (cL w Ls) ((.index a :: S').map (cv w))) rfl hsize rfl hd (by omega) (W := S'.length) (by show 2 * 0 + _ ≤ _; rw [cat_sum hW q2.1]; omega) (by omega)
      exact ⟨T', locs, X', hN, by rw [e']; exact hR, by rw [e']; exact hsz, st'⟩
    · cases h
  · rename_i hn
    split at h
    · rename_i n dp b sp a S'
      split at h
      · rename_i ta va tb vb ha hb'
        cases q2 : (S'.all (fun t => !isL t) && (Nat.ble (40 + S'.length) lb && (Nat.beq ta tb && (isP ta && ((Nat.ble va.length 100000 && Nat.ble vb.length 100000) && (!decide (sp < 0) && (!decide (dp < 0) && (!decide (n < 0) && (Nat.ble (sp.toNatClampNeg + n.toNatClampNeg) va.length && Nat.ble (dp.toNatClampNeg + n.toNatClampNeg) vb.length))))))))) <;> simp only [q2, cond_true, cond_false] at h
        · cases h
        simp only [Sum.inr.injEq] at h; subst h
        simp only [Bool.and_eq_true, Bool.not_eq_true', decide_eq_false_iff_not] at q2
        obtain ⟨u1', u2, u3, u4, ul, u5, u6, u7, u8, u9⟩ := q2
        have u2 := Nat.le_of_ble_eq_true u2
        have u3 := Nat.eq_of_beq_eq_true u3
        have u8 := Nat.le_of_ble_eq_true u8
        have u9 := Nat.le_of_ble_eq_true u9
        subst u3
        obtain ⟨ty, hty, hnr⟩ := own_prim u4
        obtain ⟨ho, w1, w2, w3, w4⟩ := site2_ok hw r1 hn
        rw [ho] at hd
        have Ca := hR.2.2.2 a _ ha
        have Cb := hR.2.2.2 b _ hb'
        have Fa := list_arv Ca hty (Nat.le_of_ble_eq_true ul.1)
        have Fb := list_arv Cb hty (Nat.le_of_ble_eq_true ul.2)
        obtain ⟨na, hna, ea, ka, Va⟩ := Fa
        obtain ⟨nb, hnb, eb, kb, Vb⟩ := Fb
        have hus : ((va.drop sp.toNatClampNeg).take n.toNatClampNeg).map (cv w) = (List.range n.toNatClampNeg).map fun i => (va.map (cv w)).getD (sp.toNatClampNeg + i) .null := by
          refine List.ext_getElem? fun i => ?_
          by_cases z : i < n.toNatClampNeg
          · simp only [List.getElem?_map, List.getElem?_take, z, if_true, List.getElem?_drop, List.getElem?_range z, Option.map_some, List.getD_eq_getElem?_getD]
            have : sp.toNatClampNeg + i < va.length := by omega
            rw [List.getElem?_eq_getElem this]; rfl
          · rw [List.getElem?_eq_none (by simp; omega), List.getElem?_eq_none (by simp; omega)]
        obtain ⟨T', h', L', X', e', N', K', V', st'⟩ := cpA X hx hZ hown w1 w2 w3 w4 rfl Va Vb (Or.inl ⟨rfl, hnr⟩) (sp := sp) (dp := dp) (nn := n) u5 u6 u7 (by rw [ea]; exact u8) (by rw [eb]; exact u9) hus (by simpa using u9) hN (by omega) (g := mkF m pc (cL w Ls) ((.int n :: .int dp :: .index b :: .int sp :: .index a :: S').map (cv w))) rfl hsize rfl hd (by omega) (W := S'.length) (by show 2 * 0 + _ ≤ _; rw [cat_sum hW u1']; omega) (by have y := acw; omega)
        have hb2 : b < H.length := (List.getElem?_eq_some_iff.mp hb').1
        have hsz' : T'.heap.size = T.heap.size := by
          have h1 := size_of X'
          have h2 := K'.1
          rw [e'] at h1 ⊢
          omega
        refine ⟨T', L', X', N', ?_, by rw [hsz']; exact hsz, st'⟩
        rw [e']
        refine hR.keep hb2 K' (by rw [← e']; exact hsz') ?_
        obtain ⟨cl, Ar, hk, Hs, Hf⟩ := arv_list V' (by rw [eb]; simp; omega)
        obtain ⟨clb, Arb, -, -, Ob⟩ := Cb.arr hty
        refine RC.of_arr (Cb.1.keep K') hty ⟨cl, Ar, ?_, ?_, ?_⟩
        · rw [Hs]; simp only [List.map_append, List.map_take, List.map_drop]
        · intro v hv
          refine Hf (cv w v) ?_
          have := List.mem_map_of_mem (f := cv w) hv
          simpa only [List.map_append, List.map_take, List.map_drop] using this
        · unfold OV; rw [show acomp ta = none from own_noC u4]; trivial
      · cases h
    · cases h
  · rename_i hn
    split at h
    · rename_i a S'
      split at h
      · rename_i t vs ha
        cases q2 : (S'.all (fun t => !isL t) && (Nat.ble (14 + S'.length) lb && (isP t && (Nat.beq (sT r) t && Nat.ble vs.length 100000)))) <;> simp only [q2, cond_true, cond_false] at h
        · cases h
        simp only [Sum.inr.injEq] at h; subst h
        simp only [Bool.and_eq_true] at q2
        obtain ⟨u1', u2, u3, u4, u5⟩ := q2
        have u2 := Nat.le_of_ble_eq_true u2
        have u4 := Nat.eq_of_beq_eq_true u4
        have u5 := Nat.le_of_ble_eq_true u5
        subst u4
        obtain ⟨ty, hty, hnr⟩ := own_prim u3
        obtain ⟨ho, w1, w2, w3, w4, w5, w6⟩ := site3_ok hw r1 hn
        rw [ho] at hd
        have Ca := hR.2.2.2 a _ ha
        obtain ⟨na, hna, ea, ka, Va⟩ := list_arv Ca hty u5
        obtain ⟨T', h', X', e', E', A', Ex, st'⟩ := cloneH X hx hZ hown w1 w2 w3 w4 w5 w6 rfl Va.arh Ca.1 (g := mkF m pc (cL w Ls) ((.index a :: S').map (cv w))) rfl hsize rfl hd (by omega) (W := S'.length) (cap := vs.length) (by show 2 * 0 + _ ≤ _; rw [cat_sum hW u1']; omega) (by omega) (by rw [ea]; exact Nat.le_refl _) hc hs
        have hsz' : T'.heap.size = T.heap.size + 1 := exact_size X' hsz (by rw [e']; exact A'.lt)
        refine ⟨T', locs, X', hN, ?_, by rw [hsz', hsz]; show _ = s.heap.size + (cells + 1); omega, fun t kk => st' t ?_⟩
        · refine Rep.push hR (e' ▸ E') hsz' ?_
          rw [e']
          have A2 : Arv Z h' T.heap.size _ ty na (vs.map (cv w)) .null := A'
          obtain ⟨cl, Ar, hk, Hs, Hf⟩ := arv_list A2 (by rw [ea]; simp)
          refine RC.of_arr Ex hty ⟨cl, Ar, Hs, fun v hv => Hf _ (List.mem_map_of_mem hv), ?_⟩
          unfold OV; rw [show acomp (sT r) = none from own_noC u3]; trivial
        · have : cv w (.index H.length) = .ref T.heap.size := by rw [hR.2.2.1]; rfl
          simp only [List.map_cons, this] at kk
          exact kk
      · cases h
    · cases h
  · cases h

set_option maxHeartbeats 8000000 in
theorem go_ok (hw : ∀ d ∈ tables_1, d.before a0 Z = true) (hWs : Wst Z a0 w) (hA : holds w.2.1 A) : ∀ f, GoOk Z a0 w A f
  | 0 => by intro mi pc Ls S H fb lb v H' dc ds h; cases h
  | f + 1 => by
    have ih := go_ok hw hWs hA f
    have hW := hWs.1
    intro mi pc Ls S H fb lb v H' dc ds h p l e R s m args below meth c T locs cells slots hx hZ hby hml hown hnm hret X hN hR hsz hfb hlb hc hs
    simp only [go] at h
    cases hins : ins mi pc with
    | none => simp [hins] at h
    | some xx =>
      obtain ⟨i, n, r⟩ := xx
      simp only [hins] at h
      cases qn : Nat.beq n (ilen i) with
      | false => simp [qn] at h
      | true =>
        simp only [qn, cond_true] at h
        have hn := Nat.eq_of_beq_eq_true qn
        have hd := hb hby (ins_ok hins)
        have hk := mRk_ok mi
        -- the rest of the road
        have cont : ∀ st : St, (cells + st.2.2.2.2.1 ≤ R.cells → slots + st.2.2.2.2.2 ≤ R.slots → Nx Z w p l e R s m args below meth c T cells slots pc Ls S st) → contG (go A f) mi fb lb (.inr st) = .inr (v, H', dc, ds) →
            (mRet mi = none → v = none) ∧ ∃ (T' : State) (locs' : List Loc), Stand p l e R s m args below meth c T' locs' (cells + dc) (slots + ds) ∧ Fr w.1 locs' ∧ Rep Z w T'.heap H' ∧ T'.heap.size = s.heap.size + (cells + dc) ∧
              ∀ fs, (∀ (f : JFrame) (acts : List Action), f.method = m → f.locked = none → f.entered = [] → (doReturn e (T'.setTop f) acts (v.map (cv w))).1 = T'.setFrames fs) → Steps p.tables e below (T.setTop (mkF m pc (cL w Ls) (S.map (cv w)))) (T'.setFrames fs) := by
          intro st hst hg
          obtain ⟨pc1, Ls1, S1, H1, c1, s1⟩ := st
          simp only [contG] at hg
          cases hgo : go A f mi pc1 Ls1 S1 H1 fb lb with
          | inl y => simp [hgo] at hg
          | inr y =>
            obtain ⟨v2, H2, c2, s2⟩ := y
            simp only [hgo, Sum.inr.injEq, Prod.mk.injEq] at hg
            obtain ⟨rfl, rfl, rfl, rfl⟩ := hg
            obtain ⟨T1, locs1, X1, hN1, hR1, hsz1, hst1⟩ := hst (by show cells + c1 ≤ _; omega) (by show slots + s1 ≤ _; omega)
            obtain ⟨hv, T2, locs2, X2, hN2, hR2, hsz2, hst2⟩ := ih mi pc1 Ls1 S1 H1 fb lb v2 H2 c2 s2 hgo hx hZ hby hml hown hnm hret X1 hN1 hR1 hsz1 hfb hlb (by show cells + c1 + c2 ≤ _; omega) (by show slots + s1 + s2 ≤ _; omega)
            refine ⟨hv, T2, locs2, ?_, hN2, hR2, ?_, fun fs hl => hst1 _ (hst2 fs hl)⟩
            · rw [← Nat.add_assoc, ← Nat.add_assoc]; exact X2
            · rw [hsz2]; show s.heap.size + (cells + c1 + c2) = _; omega
        have call : ∀ (op k : Nat), ilen i = 3 → i = (opI op k) → callG (go A f) mi pc op k r Ls S H fb lb = .inr (v, H', dc, ds) →
            (mRet mi = none → v = none) ∧ ∃ (T' : State) (locs' : List Loc), Stand p l e R s m args below meth c T' locs' (cells + dc) (slots + ds) ∧ Fr w.1 locs' ∧ Rep Z w T'.heap H' ∧ T'.heap.size = s.heap.size + (cells + dc) ∧
              ∀ fs, (∀ (f : JFrame) (acts : List Action), f.method = m → f.locked = none → f.entered = [] → (doReturn e (T'.setTop f) acts (v.map (cv w))).1 = T'.setFrames fs) → Steps p.tables e below (T.setTop (mkF m pc (cL w Ls) (S.map (cv w)))) (T'.setFrames fs) := by
          intro op k hlen hi hg
          rw [hn, hlen, hi] at hd
          unfold callG at hg
          cases hns : nstep mi pc op k r Ls S H fb lb with
          | inr st =>
            simp only [hns] at hg
            exact cont st (fun g1 g2 => nstep_ok hw hWs hx hZ hml hown X hN hR hsz hd hfb hlb hns g1 g2) hg
          | inl y =>
            simp only [hns] at hg
            cases q1 : (Nat.blt r nS && (Nat.beq (sI r) k && (Nat.beq (sK r) (mK mi) && (Nat.beq (sOp r) op && (Nat.blt (sJ r) nM && (Nat.ble (mPar (sJ r)) S.length && (Nat.beq Ls.length (mMax mi) && Nat.ble (mPar (sJ r)) (mMax (sJ r))))))))) <;> simp only [q1, cond_true, cond_false] at hg
            · cases hg
            cases q2 : (okA (S.take (mPar (sJ r))) && (rcv op r (S.take (mPar (sJ r))).reverse H && ((S.drop (mPar (sJ r))).all (fun t => !isL t) && (Nat.ble 1 fb && Nat.ble ((S.drop (mPar (sJ r))).length + (mMax (sJ r) + 11)) lb)))) <;> simp only [q2, cond_true, cond_false] at hg
            · cases hg
            simp only [Bool.and_eq_true] at q1 q2
            have r1 : r < nS := by have := q1.1; rwa [Nat.blt_eq] at this
            have r2 := Nat.eq_of_beq_eq_true q1.2.1
            have r3 := Nat.eq_of_beq_eq_true q1.2.2.1
            have r4 := Nat.eq_of_beq_eq_true q1.2.2.2.1
            have r5 : sJ r < nM := by have := q1.2.2.2.2.1; rwa [Nat.blt_eq] at this
            have r6 := Nat.le_of_ble_eq_true q1.2.2.2.2.2.1
            have r7 := Nat.eq_of_beq_eq_true q1.2.2.2.2.2.2.1
            have r8 := Nat.le_of_ble_eq_true q1.2.2.2.2.2.2.2
            obtain ⟨u1', u2, u3, u4, u5⟩ := q2
            have u4 := Nat.le_of_ble_eq_true u4
            have u5 := Nat.le_of_ble_eq_true u5
            subst r2 r4
            generalize hre : S.drop (mPar (sJ r)) = rest at *
            cases hgo : go A f (sJ r) 0 (ent (S.take (mPar (sJ r))).reverse (mMax (sJ r))) [] H (fb - 1) (lb - (rest.length + (mMax (sJ r) + 11))) with
            | inl z => simp [hgo] at hg
            | inr z =>
              obtain ⟨v1, H1, c1, s1⟩ := z
              simp only [hgo] at hg
              refine cont _ (fun g1 g2 => ?_) hg
              have hok : okA (S.take (mPar (sJ r))).reverse = true := okA_of fun t ht => okA_mem u1' t (List.mem_reverse.mp ht)
              have M := met (R := { frames := fb - 1, cells := c1, slots := s1, locals := lb - (rest.length + (mMax (sJ r) + 11)) }) ih hgo r5 (ent_ok hW hok) hR (Nat.le_refl _) (Nat.le_refl _) (Nat.le_refl _) (Nat.le_refl _) l []
              have hcw := mcode_ok hw r5 (site_ne0 r1 r5)
              have B := backOf (R := R) (p := p) (e := e) (below := below) (args := args) (len := 3) (W := rest.length) M hZ hcw.1 hcw.2 (show fb - 1 + 1 ≤ R.frames by omega) (show rest.length + (mMax (sJ r) + 11) + (lb - (rest.length + (mMax (sJ r) + 11))) ≤ R.locals by omega)
              have hav : (((S.take (mPar (sJ r))).reverse.map (cv w))).length = mPar (sJ r) := by simp; omega
              rw [← r3] at hown
              have hrc : sOp r ≠ 0 → ∃ a av', (S.take (mPar (sJ r))).reverse.map (cv w) = .ref a :: av' ∧ Exa Z T.heap a (cname (sT r)) := by
                intro ho
                unfold rcv at u2
                split at u2
                · rename_i z; exact absurd z ho
                · split at u2
                  · rename_i a av' hav'
                    split at u2
                    · rename_i t vs hH
                      have := Nat.eq_of_beq_eq_true u2
                      subst this
                      exact ⟨_, av'.map (cv w), by rw [hav']; rfl, (hR.2.2.2 a _ hH).1⟩
                    · cases u2
                  · cases u2
              obtain ⟨v', vm1, ⟨T1, L1, k1, n1⟩, -, X1, ⟨Lc, hQ, l1, y1, z1⟩, st1⟩ := site_ok hw r1 r5 X hx hZ hown B (show (mkF m pc (cL w Ls) (S.map (cv w))).method = m from rfl) (by rw [cL_size, hml, r7]) hav (show (mkF m pc (cL w Ls) (S.map (cv w))).stack = ((S.take (mPar (sJ r))).reverse.map (cv w)).reverse ++ rest.map (cv w) by rw [← hre]; exact app_take) (by show 2 * 0 + _ ≤ _; rw [cat_sum hW u3]; omega) hd hrc (fun _ _ => ⟨rfl, rfl, g1, g2⟩)
              dsimp only [Pt.U, Pt.locs, Pt.cells, Pt.slots] at X1 l1 y1 z1 st1 hQ
              subst l1 y1 z1
              obtain ⟨rfl, hNq, hR1, hsz1⟩ := hQ
              refine ⟨T1, _, X1, hN.app hNq, hR1, ?_, fun t kk => st1 t ?_⟩
              · rw [hsz1, hsz]; show s.heap.size + cells + c1 = s.heap.size + (cells + c1); omega
              · have e3 : (v1.toList ++ rest).map (cv w) = (v1.map (cv w)).toList ++ rest.map (cv w) := by cases v1 <;> simp
                rw [← e3]; exact kk
        cases i
        case ireturn =>
          simp only at h
          split at h
          · rename_i t S'
            split at h
            · rename_i t' ht'
              simp only [Sum.inr.injEq, Prod.mk.injEq] at h
              obtain ⟨rfl, rfl, rfl, rfl⟩ := h
              rw [hn] at hd
              unfold rtk at ht'
              split at ht'
              · rename_i hk1
                have hr1 := hk.2.1 hk1
                cases q : isI t <;> simp [q] at ht'
                subst ht'
                refine ⟨fun z => (by rw [hr1] at z; cases z), T, locs, X, hN, hR, hsz, fun fs hl => ?_⟩
                simp only [List.map_cons, cv_I q, Option.map_some] at hl ⊢
                exact retI X hx (hret.trans hr1) hd hl
              · rename_i hk1
                have hr1 := hk.2.2.1 hk1
                cases q : fitK 2 t <;> simp [q] at ht'
                subst ht'
                have f2 := fitK2 (w := w) q
                refine ⟨fun z => (by rw [hr1] at z; cases z), T, locs, X, hN, hR, hsz, fun fs hl => ?_⟩
                simp only [List.map_cons, cv_I f2.1, Option.map_some] at hl ⊢
                refine retN X hx (t := .boolean) (hret.trans hr1) (by simp) hd ?_
                have e1 : nar .boolean (tv w.2.1 t) = tv w.2.1 t := f2.2.1
                rw [e1]; exact hl
              · rename_i hk1
                have hr1 := hk.2.2.2.1 hk1
                cases q : isI t <;> simp [q] at ht'
                subst ht'
                refine ⟨fun z => (by rw [hr1] at z; cases z), T, locs, X, hN, hR, hsz, fun fs hl => ?_⟩
                have e1 : cv w (mB t) = .int (tv w.2.1 t).toInt8.toInt32 := by rw [cv_I (mB_ok (σ := w.2.1)).2, mB_ok.1]
                simp only [List.map_cons, cv_I q, Option.map_some, e1] at hl ⊢
                exact retN X hx (t := .byte) (hret.trans hr1) (by simp) hd hl
              · cases ht'
            · cases h
          · cases h
        case areturn =>
          simp only at h
          split at h
          · rename_i t S'
            cases q : (isR t && Nat.beq (mRk mi) 3) <;> simp only [q, cond_true, cond_false] at h
            · cases h
            simp only [Sum.inr.injEq, Prod.mk.injEq] at h
            obtain ⟨rfl, rfl, rfl, rfl⟩ := h
            simp only [Bool.and_eq_true] at q
            obtain ⟨ty, hr1, hr2⟩ := hk.2.2.2.2 (Nat.eq_of_beq_eq_true q.2)
            rw [hn] at hd
            refine ⟨fun z => (by rw [hr1] at z; cases z), T, locs, X, hN, hR, hsz, fun fs hl => ?_⟩
            have hv := cv_R hW q.1
            simp only [List.map_cons, Option.map_some] at hl ⊢
            refine retOut X hx (hret.trans hr1) ?_ (Or.inr (Or.inr (Or.inr (Or.inr ⟨rfl, hr2, hv⟩)))) hd hl
            cases hz : cv w t <;> rw [hz] at hv <;> first | cases hv | skip
            all_goals (cases ty <;> first | (cases hr2; done) | rfl)
          · cases h
        case return_ =>
          simp only at h
          split at h
          · cases q : Nat.beq (mRk mi) 0 <;> simp only [q, cond_true, cond_false] at h
            · cases h
            simp only [Sum.inr.injEq, Prod.mk.injEq] at h
            obtain ⟨rfl, rfl, rfl, rfl⟩ := h
            rw [hn] at hd
            exact ⟨fun _ => rfl, T, locs, X, hN, hR, hsz, fun fs hl => X.returnOut hx (hret.trans (hk.1 (Nat.eq_of_beq_eq_true q))) hd hl⟩
          · cases h
        case invokestatic k => exact call 0 k rfl rfl h
        case invokespecial k => exact call 1 k rfl rfl h
        case invokevirtual k => exact call 2 k rfl rfl h
        all_goals
          simp only at h
          cases hst : stepC A mi pc Ls S H (_, n, r) with
          | inl y => rw [hst] at h; cases h
          | inr st =>
            rw [hst] at h
            exact cont st (fun g1 g2 => step_ok hw hx hZ hWs hA hby hown hnm X hN hR hsz hd hn (stepC_ok hst) g1 g2) h
end Run

/-- the same as a table of closed rules: the kernel looks each up once -/
def opF (i : Instr) : Option (List Asm → Nat → Nat → List (Option Term) → List Term → AH → Nat → Rs) := match i with
  | .iload_n k => some fun A mi pc Ls S H r => sLdI A (pc + 1) k.val Ls S H
  | .iload k => some fun A mi pc Ls S H r => sLdI A (pc + 2) k Ls S H
  | .aload_n k => some fun A mi pc Ls S H r => sLdR (pc + 1) k.val Ls S H
  | .aload k => some fun A mi pc Ls S H r => sLdR (pc + 2) k Ls S H
  | .istore_n k => some fun A mi pc Ls S H r => sSt isI (pc + 1) k.val Ls S H
  | .istore k => some fun A mi pc Ls S H r => sSt isI (pc + 2) k Ls S H
  | .astore_n k => some fun A mi pc Ls S H r => sSt isR (pc + 1) k.val Ls S H
  | .astore k => some fun A mi pc Ls S H r => sSt isR (pc + 2) k Ls S H
  | .iconst k => some fun A mi pc Ls S H r => .inr (pc + 1, Ls, .int (Int32.ofInt k) :: S, H, 0, 0)
  | .bipush k => some fun A mi pc Ls S H r => .inr (pc + 2, Ls, .int (Int8.ofInt k).toInt32 :: S, H, 0, 0)
  | .sipush k => some fun A mi pc Ls S H r => .inr (pc + 3, Ls, .int (Int16.ofInt k).toInt32 :: S, H, 0, 0)
  | .aconst_null => some fun A mi pc Ls S H r => .inr (pc + 1, Ls, .null :: S, H, 0, 0)
  | .ldc k => some fun A mi pc Ls S H r => sLdc mi pc 2 k r Ls S H
  | .ldc_w k => some fun A mi pc Ls S H r => sLdc mi pc 3 k r Ls S H
  | .lconst k => some fun A mi pc Ls S H r => .inr (pc + 1, Ls, .long (Int64.ofNat k) :: S, H, 0, 0)
  | .ladd => some fun A mi pc Ls S H r => match S with
    | .long y :: .long x :: S' => .inr (pc + 1, Ls, .long (x + y) :: S', H, 0, 0)
    | _ => .inl none
  | .lcmp => some fun A mi pc Ls S H r => match S with
    | .long y :: .long x :: S' => .inr (pc + 1, Ls, .int (cmp64 x y) :: S', H, 0, 0)
    | _ => .inl none
  | .dup2_x1 => some fun A mi pc Ls S H r => match S with
    | .long x :: u :: S' => bif !isL u then .inr (pc + 1, Ls, .long x :: u :: .long x :: S', H, 0, 0) else .inl none
    | _ => .inl none
  | .lookupswitch d ps => some fun A mi pc Ls S H r => match S with
    | .int k :: S' => bif (ps.toList.zip (ps.toList.drop 1)).all (fun (a, next) => a.1 < next.1) then (match ps.find? (·.1 == k.toInt) with
      | some (_, o) => bif decide (0 ≤ (pc : Int) + o) then .inr (((pc : Int) + o).toNat, Ls, S', H, 0, 0) else .inl none
      | none => bif decide (0 ≤ (pc : Int) + d) then .inr (((pc : Int) + d).toNat, Ls, S', H, 0, 0) else .inl none) else .inl none
    | _ => .inl none
  | .iadd => some fun A mi pc Ls S H r => sBin A mAdd (pc + 1) Ls S H
  | .isub => some fun A mi pc Ls S H r => sBin A mSub (pc + 1) Ls S H
  | .imul => some fun A mi pc Ls S H r => sBin A mMul (pc + 1) Ls S H
  | .iand => some fun A mi pc Ls S H r => sBin A (mAnd A) (pc + 1) Ls S H
  | .ior => some fun A mi pc Ls S H r => sBin A (m2 .ior) (pc + 1) Ls S H
  | .ixor => some fun A mi pc Ls S H r => sBin A (m2 .ixor) (pc + 1) Ls S H
  | .ishl => some fun A mi pc Ls S H r => sBin A (m2 .ishl) (pc + 1) Ls S H
  | .ishr => some fun A mi pc Ls S H r => sBin A (m2 .ishr) (pc + 1) Ls S H
  | .iushr => some fun A mi pc Ls S H r => sBin A (m2 .iushr) (pc + 1) Ls S H
  | .idiv => some fun A mi pc Ls S H r => sDiv A mDiv (pc + 1) Ls S H
  | .irem => some fun A mi pc Ls S H r => sDiv A mRem (pc + 1) Ls S H
  | .ineg => some fun A mi pc Ls S H r => sUn A (m1 .ineg) (pc + 1) Ls S H
  | .i2b => some fun A mi pc Ls S H r => sUn A mB (pc + 1) Ls S H
  | .lload_n k => some fun A mi pc Ls S H r => sLdL (pc + 1) k.val Ls S H
  | .lload k => some fun A mi pc Ls S H r => sLdL (pc + 2) k Ls S H
  | .lushr => some fun A mi pc Ls S H r => match S with
    | .int k :: a :: S' => bif isL a then .inr (pc + 1, Ls, .old (.sub a (.int k)) :: S', H, 0, 0) else .inl none
    | _ => .inl none
  | .l2i => some fun A mi pc Ls S H r => match S with
    | a :: S' => bif isL a then .inr (pc + 1, Ls, nr A (.op1 .l2i a) :: S', H, 0, 0) else .inl none
    | _ => .inl none
  | .i2c => some fun A mi pc Ls S H r => sUn A (m1 .i2c) (pc + 1) Ls S H
  | .i2s => some fun A mi pc Ls S H r => sUn A (m1 .i2s) (pc + 1) Ls S H
  | .iinc k d => some fun A mi pc Ls S H r => match Ls[k]? with
    | some (some t) => bif isI t then .inr (pc + 3, Ls.set k (some (mAdd t (.int (Int32.ofInt d)))), S, H, 0, 0) else .inl none
    | _ => .inl none
  | .dup => some fun A mi pc Ls S H r => match S with
    | t :: S' => bif !isL t then .inr (pc + 1, Ls, t :: t :: S', H, 0, 0) else .inl none
    | _ => .inl none
  | .dup_x1 => some fun A mi pc Ls S H r => match S with
    | t :: u :: S' => bif !isL t && !isL u then .inr (pc + 1, Ls, t :: u :: t :: S', H, 0, 0) else .inl none
    | _ => .inl none
  | .dup_x2 => some fun A mi pc Ls S H r => match S with
    | t :: u :: v :: S' => bif !isL t && (!isL u && !isL v) then .inr (pc + 1, Ls, t :: u :: v :: t :: S', H, 0, 0) else .inl none
    | _ => .inl none
  | .dup2 => some fun A mi pc Ls S H r => match S with
    | t :: u :: S' => bif !isL t && !isL u then .inr (pc + 1, Ls, t :: u :: t :: u :: S', H, 0, 0) else .inl none
    | _ => .inl none
  | .pop => some fun A mi pc Ls S H r => match S with
    | t :: S' => bif !isL t then .inr (pc + 1, Ls, S', H, 0, 0) else .inl none
    | _ => .inl none
  | .goto o => some fun A mi pc Ls S H r => bif decide (0 ≤ (pc : Int) + o) then .inr (((pc : Int) + o).toNat, Ls, S, H, 0, 0) else .inl none
  | .ifCond cd o => some fun A mi pc Ls S H r => match S with
    | a :: S' => bif isI a then sBr A mi pc (cq cd).1 (cq cd).2.2 (sw (cq cd).2.1 a (.int 0)).1 (sw (cq cd).2.1 a (.int 0)).2 o Ls S' H else .inl none
    | _ => .inl none
  | .if_icmp cd o => some fun A mi pc Ls S H r => match S with
    | b :: a :: S' => bif isI a && isI b then (match sBl A mi pc cd o a b Ls S' H with
      | .inr x => .inr x
      | .inl (some x) => .inl (some x)
      | .inl none => sBr A mi pc (cq cd).1 (cq cd).2.2 (sw (cq cd).2.1 a b).1 (sw (cq cd).2.1 a b).2 o Ls S' H) else .inl none
    | _ => .inl none
  | .if_acmp cd o => some fun A mi pc Ls S H r => sAc pc cd o Ls S H
  | .ifnull o => some fun A mi pc Ls S H r => sNul true pc o Ls S H
  | .ifnonnull o => some fun A mi pc Ls S H r => sNul false pc o Ls S H
  | .getfield k => some fun A mi pc Ls S H r => sGetF A mi pc k r Ls S H
  | .putfield k => some fun A mi pc Ls S H r => sPutF mi pc k r Ls S H
  | .getstatic k => some fun A mi pc Ls S H r => sGetS mi pc k r Ls S H
  | .iaload => some fun A mi pc Ls S H r => sALoad A (fun t => decide (t = .int)) pc Ls S H
  | .baload => some fun A mi pc Ls S H r => match sALoad A (fun t => decide (t = .boolean) || decide (t = .byte)) pc Ls S H with
    | .inr x => .inr x
    | .inl _ => sTab A pc Ls S H
  | .laload => some fun A mi pc Ls S H r => sALoad A (fun t => decide (t = .long)) pc Ls S H
  | .lastore => some fun A mi pc Ls S H r => sAStore (fun t => decide (t = .long)) lNar pc Ls S H
  | .aaload => some fun A mi pc Ls S H r => match S with
    | j :: .string cc k :: S' => bif isI j && (match rg j with | some u => Nat.blt u (oLen k) | none => false) then .inr (pc + 1, Ls, .elem (.string cc k) j :: S', H, 0, 0) else .inl none
    | S => sALoad A FieldType.isReference pc Ls S H
  | .iastore => some fun A mi pc Ls S H r => sAStore (fun t => decide (t = .int)) iNar pc Ls S H
  | .bastore => some fun A mi pc Ls S H r => match sAStore (fun t => decide (t = .boolean)) zNar pc Ls S H with
    | .inr x => .inr x
    | .inl _ => sAStore (fun t => decide (t = .byte)) bNar pc Ls S H
  | .aastore => some fun A mi pc Ls S H r => sRStore pc Ls S H
  | .arraylength => some fun A mi pc Ls S H r => sLen pc Ls S H
  | .new k => some fun A mi pc Ls S H r => sNew mi pc k r Ls S H
  | .newarray ty => some fun A mi pc Ls S H r => match sNewP pc r ty Ls S H with
    | .inr x => .inr x
    | .inl _ => sNewJ pc r ty Ls S H
  | .anewarray k => some fun A mi pc Ls S H r => sNewR mi pc k r Ls S H
  | .multianewarray k d => some fun A mi pc Ls S H r => bif Nat.beq d 2 then sGrid mi pc k r Ls S H else .inl none
  | .checkcast k => some fun A mi pc Ls S H r => sCast mi pc k r Ls S H
  | _ => none
def opG (i : Instr) (A : List Asm) (mi pc : Nat) (Ls : List (Option Term)) (S : List Term) (H : AH) (r : Nat) : Rs := match opF i with
  | some f => f A mi pc Ls S H r
  | none => .inl none
theorem opG_ok {A : List Asm} {mi pc : Nat} {Ls : List (Option Term)} {S : List Term} {H : AH} {i : Instr} {n r : Nat} : opG i A mi pc Ls S H r = step A mi pc Ls S H (i, n, r) := by cases i <;> rfl
def stepC2 (A : List Asm) (mi pc : Nat) (Ls : List (Option Term)) (S : List Term) (H : AH) (i : Instr) (r : Nat) : Rs :=
  bif Nat.beq mi 0 && cz pc then (match S with
    | t :: _ => bif isI t && !lit t then .inl (some (true, t, .null)) else opG i A mi pc Ls S H r
    | [] => opG i A mi pc Ls S H r) else opG i A mi pc Ls S H r
theorem stepC2_ok {A : List Asm} {mi pc : Nat} {Ls : List (Option Term)} {S : List Term} {H : AH} {i : Instr} {n r : Nat} : stepC2 A mi pc Ls S H i r = stepC A mi pc Ls S H (i, n, r) := by
  unfold stepC2 stepC
  rw [opG_ok (n := n)]
def frN {β : Type} (n : Nat) (K : Nat → β) : β := match n + 1 with
  | 0 => K 0
  | m + 1 => K m
theorem frN_ok {β : Type} {n : Nat} {K : Nat → β} : frN n K = K n := rfl
def frT {β : Type} (t : Term) (K : Term → β) : β := match t with
  | .int k => frN k.toBitVec.toNat fun n => K (.int (Int32.ofNat n))
  | t => K t
theorem of_toNat (k : Int32) : Int32.ofNat k.toBitVec.toNat = k := by
  apply Int32.toBitVec_inj.mp
  simp
theorem frT_ok {β : Type} {t : Term} {K : Term → β} : frT t K = K t := by
  unfold frT
  split
  · rw [frN_ok, of_toNat]
  · rfl
def frS {β : Type} (S : List Term) (K : List Term → β) : β := match S with
  | t :: r => frT t fun t => K (t :: r)
  | [] => K []
theorem frS_ok {β : Type} {S : List Term} {K : List Term → β} : frS S K = K S := by
  cases S with
  | nil => rfl
  | cons t r => exact frT_ok (K := fun t => K (t :: r))
def contG2 (g : Nat → Nat → List (Option Term) → List Term → AH → Nat → Nat → GR) (mi fb lb : Nat) (x : Rs) : GR := match x with
  | .inl x => .inl x
  | .inr (pc, Ls, S, H, dc, ds) => frN pc fun pc => frS S fun S => match g mi pc Ls S H fb lb with
    | .inl x => .inl x
    | .inr (v, H2, c2, s2) => frN (dc + c2) fun c => frN (ds + s2) fun s => .inr (v, H2, c, s)
theorem contG2_ok {g : Nat → Nat → List (Option Term) → List Term → AH → Nat → Nat → GR} {mi fb lb : Nat} {x : Rs} : contG2 g mi fb lb x = contG g mi fb lb x := by
  unfold contG2 contG
  split
  · rfl
  · rw [frN_ok, frS_ok]
    split
    · rfl
    · rw [frN_ok, frN_ok]
def callG2 (g : Nat → Nat → List (Option Term) → List Term → AH → Nat → Nat → GR) (mi pc op k r : Nat) (Ls : List (Option Term)) (S : List Term) (H : AH) (fb lb : Nat) : GR :=
  match nstep mi pc op k r Ls S H fb lb with
  | .inr x => contG2 g mi fb lb (.inr x)
  | .inl _ => bif Nat.blt r nS && (Nat.beq (sI r) k && (Nat.beq (sK r) (mK mi) && (Nat.beq (sOp r) op && (Nat.blt (sJ r) nM && (Nat.ble (mPar (sJ r)) S.length && (Nat.beq Ls.length (mMax mi) && Nat.ble (mPar (sJ r)) (mMax (sJ r)))))))) then
      (bif okA (S.take (mPar (sJ r))) && (rcv op r (S.take (mPar (sJ r))).reverse H && ((S.drop (mPar (sJ r))).all (fun t => !isL t) && (Nat.ble 1 fb && Nat.ble ((S.drop (mPar (sJ r))).length + (mMax (sJ r) + 11)) lb))) then
        (match frN (sJ r) fun j => frN (fb - 1) fun fb => frN (lb - ((S.drop (mPar (sJ r))).length + (mMax (sJ r) + 11))) fun lb => g j 0 (ent (S.take (mPar (sJ r))).reverse (mMax (sJ r))) [] H fb lb with
        | .inl x => .inl x
        | .inr (v, H1, c1, s1) => contG2 g mi fb lb (.inr (pc + 3, Ls, v.toList ++ S.drop (mPar (sJ r)), H1, c1, s1))) else .inl none) else .inl none
theorem callG2_ok {g : Nat → Nat → List (Option Term) → List Term → AH → Nat → Nat → GR} {mi pc op k r : Nat} {Ls : List (Option Term)} {S : List Term} {H : AH} {fb lb : Nat} : callG2 g mi pc op k r Ls S H fb lb = callG g mi pc op k r Ls S H fb lb := by
  unfold callG2 callG
  simp only [contG2_ok, frN_ok]
def goF (i : Instr) : Option (List Asm → (Nat → Nat → List (Option Term) → List Term → AH → Nat → Nat → GR) → Nat → Nat → Nat → List (Option Term) → List Term → AH → Nat → Nat → GR) := match i with
  | .ireturn => some fun _ _ mi _ _ _ S H _ _ => match S with
    | t :: _ => match rtk (mRk mi) t with
      | some t' => .inr (some t', H, 0, 0)
      | none => .inl none
    | _ => .inl none
  | .areturn => some fun _ _ mi _ _ _ S H _ _ => match S with
    | t :: _ => bif isR t && Nat.beq (mRk mi) 3 then .inr (some t, H, 0, 0) else .inl none
    | _ => .inl none
  | .return_ => some fun _ _ mi _ _ _ S H _ _ => match S with
    | [] => bif Nat.beq (mRk mi) 0 then .inr (none, H, 0, 0) else .inl none
    | _ => .inl none
  | .invokestatic k => some fun _ g mi pc r Ls S H fb lb => callG2 g mi pc 0 k r Ls S H fb lb
  | .invokespecial k => some fun _ g mi pc r Ls S H fb lb => callG2 g mi pc 1 k r Ls S H fb lb
  | .invokevirtual k => some fun _ g mi pc r Ls S H fb lb => callG2 g mi pc 2 k r Ls S H fb lb
  | i => some fun A g mi pc r Ls S H fb lb => contG2 g mi fb lb (stepC2 A mi pc Ls S H i r)
def go2 (A : List Asm) : Nat → Nat → Nat → List (Option Term) → List Term → AH → Nat → Nat → GR
  | 0, _, _, _, _, _, _, _ => .inl none
  | f + 1, mi, pc, Ls, S, H, fb, lb => match ins mi pc with
    | none => .inl none
    | some (i, n, r) => bif Nat.beq n (ilen i) then (match goF i with | some g => g A (go2 A f) mi pc r Ls S H fb lb | none => .inl none) else .inl none
theorem go2_ok {A : List Asm} : ∀ f, go2 A f = go A f
  | 0 => rfl
  | f + 1 => by
    funext mi pc Ls S H fb lb
    simp only [go2, go, go2_ok f]
    cases ins mi pc with
    | none => rfl
    | some x =>
      obtain ⟨i, n, r⟩ := x
      show (bif Nat.beq n (ilen i) then _ else _) = (bif Nat.beq n (ilen i) then _ else _)
      cases Nat.beq n (ilen i) with
      | false => rfl
      | true =>
        simp only [cond_true]
        cases i
        all_goals first
          | rfl
          | exact callG2_ok
          | exact (contG2_ok.trans (congrArg _ (stepC2_ok (n := n))))

/-! a run of the law from one place to another -/
def callS (g : Nat → Nat → List (Option Term) → List Term → AH → Nat → Nat → GR) (mi pc op k r : Nat) (Ls : List (Option Term)) (S : List Term) (H : AH) (fb lb : Nat) : Option St :=
  match nstep mi pc op k r Ls S H fb lb with
  | .inr x => some x
  | .inl _ => bif Nat.blt r nS && (Nat.beq (sI r) k && (Nat.beq (sK r) (mK mi) && (Nat.beq (sOp r) op && (Nat.blt (sJ r) nM && (Nat.ble (mPar (sJ r)) S.length && (Nat.beq Ls.length (mMax mi) && Nat.ble (mPar (sJ r)) (mMax (sJ r)))))))) then
      (bif okA (S.take (mPar (sJ r))) && (rcv op r (S.take (mPar (sJ r))).reverse H && ((S.drop (mPar (sJ r))).all (fun t => !isL t) && (Nat.ble 1 fb && Nat.ble ((S.drop (mPar (sJ r))).length + (mMax (sJ r) + 11)) lb))) then
        (match g (sJ r) 0 (ent (S.take (mPar (sJ r))).reverse (mMax (sJ r))) [] H (fb - 1) (lb - ((S.drop (mPar (sJ r))).length + (mMax (sJ r) + 11))) with
        | .inl _ => none
        | .inr (v, H1, c1, s1) => some (pc + 3, Ls, v.toList ++ S.drop (mPar (sJ r)), H1, c1, s1)) else none) else none
def oneP (g : Nat → Nat → List (Option Term) → List Term → AH → Nat → Nat → GR) (A : List Asm) (pc : Nat) (Ls : List (Option Term)) (S : List Term) (H : AH) (fb lb : Nat) : Option St := match ins 0 pc with
  | none => none
  | some (i, n, r) => bif Nat.beq n (ilen i) then (match i with
    | .ireturn => none
    | .areturn => none
    | .return_ => none
    | .invokestatic k => callS g 0 pc 0 k r Ls S H fb lb
    | .invokespecial k => callS g 0 pc 1 k r Ls S H fb lb
    | .invokevirtual k => callS g 0 pc 2 k r Ls S H fb lb
    | i => match stepC A 0 pc Ls S H (i, n, r) with
      | .inl _ => none
      | .inr st => some st) else none
def goP (g : Nat → Nat → List (Option Term) → List Term → AH → Nat → Nat → GR) (A : List Asm) (stop fb lb : Nat) : Nat → Nat → List (Option Term) → List Term → AH → Option St
  | 0, _, _, _, _ => none
  | n + 1, pc, Ls, S, H => bif Nat.beq pc stop then some (pc, Ls, S, H, 0, 0) else (match oneP g A pc Ls S H fb lb with
    | none => none
    | some (pc1, Ls1, S1, H1, c1, s1) => match goP g A stop fb lb n pc1 Ls1 S1 H1 with
      | none => none
      | some (pc2, Ls2, S2, H2, c2, s2) => some (pc2, Ls2, S2, H2, c1 + c2, s1 + s2))
section Cut
variable {Z : State} {w : Wl} {a0 : Array Value} {A : List Asm} {p : Program} {l : Launch} {e : Env} {R : Room} {s : State} {m : MethodId} {args : Array Value} {below : List Frame} {meth : Method} {c : Code}
set_option maxHeartbeats 4000000 in
theorem callNx {f mi pc op k r fb lb : Nat} {Ls : List (Option Term)} {S : List Term} {H : AH} {st : St} {T : State} {locs : List Loc} {cells slots : Nat} (hw : ∀ d ∈ tables_1, d.before a0 Z = true) (hWs : Wst Z a0 w) (ih : GoOk Z a0 w A f) (hx : p.tables.exec = Jvm.exec) (hZ : Z.Warmed39 s.vm) (hml : c.maxLocals = mMax mi) (hown : s.vm.findClass (kls (mK mi)) = some m.cls)
    (X : Stand p l e R s m args below meth c T locs cells slots) (hN : Fr w.1 locs) (hR : Rep Z w T.heap H) (hsz : T.heap.size = s.heap.size + cells) (hfb : fb ≤ R.frames) (hlb : lb ≤ R.locals) (hd : decode c.code pc = .ok ((opI op k), 3)) (hg : callS (go A f) mi pc op k r Ls S H fb lb = some st) (g1 : cells + st.2.2.2.2.1 ≤ R.cells) (g2 : slots + st.2.2.2.2.2 ≤ R.slots) :
    Nx Z w p l e R s m args below meth c T cells slots pc Ls S st := by
  have hW := hWs.1
  unfold callS at hg
  cases hns : nstep mi pc op k r Ls S H fb lb with
  | inr st' =>
    simp only [hns] at hg
    cases hg
    exact nstep_ok hw hWs hx hZ hml hown X hN hR hsz hd hfb hlb hns g1 g2
  | inl y =>
    simp only [hns] at hg
    cases q1 : (Nat.blt r nS && (Nat.beq (sI r) k && (Nat.beq (sK r) (mK mi) && (Nat.beq (sOp r) op && (Nat.blt (sJ r) nM && (Nat.ble (mPar (sJ r)) S.length && (Nat.beq Ls.length (mMax mi) && Nat.ble (mPar (sJ r)) (mMax (sJ r))))))))) <;> simp only [q1, cond_true, cond_false] at hg
    · cases hg
    cases q2 : (okA (S.take (mPar (sJ r))) && (rcv op r (S.take (mPar (sJ r))).reverse H && ((S.drop (mPar (sJ r))).all (fun t => !isL t) && (Nat.ble 1 fb && Nat.ble ((S.drop (mPar (sJ r))).length + (mMax (sJ r) + 11)) lb)))) <;> simp only [q2, cond_true, cond_false] at hg
    · cases hg
    simp only [Bool.and_eq_true] at q1 q2
    have r1 : r < nS := by have := q1.1; rwa [Nat.blt_eq] at this
    have r2 := Nat.eq_of_beq_eq_true q1.2.1
    have r3 := Nat.eq_of_beq_eq_true q1.2.2.1
    have r4 := Nat.eq_of_beq_eq_true q1.2.2.2.1
    have r5 : sJ r < nM := by have := q1.2.2.2.2.1; rwa [Nat.blt_eq] at this
    have r6 := Nat.le_of_ble_eq_true q1.2.2.2.2.2.1
    have r7 := Nat.eq_of_beq_eq_true q1.2.2.2.2.2.2.1
    have r8 := Nat.le_of_ble_eq_true q1.2.2.2.2.2.2.2
    obtain ⟨u1', u2, u3, u4, u5⟩ := q2
    have u4 := Nat.le_of_ble_eq_true u4
    have u5 := Nat.le_of_ble_eq_true u5
    subst r2 r4
    generalize hre : S.drop (mPar (sJ r)) = rest at *
    cases hgo : go A f (sJ r) 0 (ent (S.take (mPar (sJ r))).reverse (mMax (sJ r))) [] H (fb - 1) (lb - (rest.length + (mMax (sJ r) + 11))) with
    | inl z => simp [hgo] at hg
    | inr z =>
      obtain ⟨v1, H1, c1, s1⟩ := z
      simp only [hgo] at hg
      cases hg
      have hok : okA (S.take (mPar (sJ r))).reverse = true := okA_of fun t ht => okA_mem u1' t (List.mem_reverse.mp ht)
      have M := met (R := { frames := fb - 1, cells := c1, slots := s1, locals := lb - (rest.length + (mMax (sJ r) + 11)) }) ih hgo r5 (ent_ok hW hok) hR (Nat.le_refl _) (Nat.le_refl _) (Nat.le_refl _) (Nat.le_refl _) l []
      have hcw := mcode_ok hw r5 (site_ne0 r1 r5)
      have B := backOf (R := R) (p := p) (e := e) (below := below) (args := args) (len := 3) (W := rest.length) M hZ hcw.1 hcw.2 (show fb - 1 + 1 ≤ R.frames by omega) (show rest.length + (mMax (sJ r) + 11) + (lb - (rest.length + (mMax (sJ r) + 11))) ≤ R.locals by omega)
      have hav : (((S.take (mPar (sJ r))).reverse.map (cv w))).length = mPar (sJ r) := by simp; omega
      rw [← r3] at hown
      have hrc : sOp r ≠ 0 → ∃ a av', (S.take (mPar (sJ r))).reverse.map (cv w) = .ref a :: av' ∧ Exa Z T.heap a (cname (sT r)) := by
        intro ho
        unfold rcv at u2
        split at u2
        · rename_i z; exact absurd z ho
        · split at u2
          · rename_i a av' hav'
            split at u2
            · rename_i t vs hH
              have := Nat.eq_of_beq_eq_true u2
              subst this
              exact ⟨_, av'.map (cv w), by rw [hav']; rfl, (hR.2.2.2 a _ hH).1⟩
            · cases u2
          · cases u2
      obtain ⟨v', vm1, ⟨T1, L1, k1, n1⟩, -, X1, ⟨Lc, hQ, l1, y1, z1⟩, st1⟩ := site_ok hw r1 r5 X hx hZ hown B (show (mkF m pc (cL w Ls) (S.map (cv w))).method = m from rfl) (by rw [cL_size, hml, r7]) hav (show (mkF m pc (cL w Ls) (S.map (cv w))).stack = ((S.take (mPar (sJ r))).reverse.map (cv w)).reverse ++ rest.map (cv w) by rw [← hre]; exact app_take) (by show 2 * 0 + _ ≤ _; rw [cat_sum hW u3]; omega) hd hrc (fun _ _ => ⟨rfl, rfl, g1, g2⟩)
      dsimp only [Pt.U, Pt.locs, Pt.cells, Pt.slots] at X1 l1 y1 z1 st1 hQ
      subst l1 y1 z1
      obtain ⟨rfl, hNq, hR1, hsz1⟩ := hQ
      refine ⟨T1, _, X1, hN.app hNq, hR1, ?_, fun t kk => st1 t ?_⟩
      · rw [hsz1, hsz]; show s.heap.size + cells + c1 = s.heap.size + (cells + c1); omega
      · have e3 : (v1.toList ++ rest).map (cv w) = (v1.map (cv w)).toList ++ rest.map (cv w) := by cases v1 <;> simp
        rw [← e3]; exact kk
set_option maxHeartbeats 4000000 in
theorem oneNx {f pc fb lb : Nat} {Ls : List (Option Term)} {S : List Term} {H : AH} {st : St} {T : State} {locs : List Loc} {cells slots : Nat} (hw : ∀ d ∈ tables_1, d.before a0 Z = true) (hWs : Wst Z a0 w) (hA : holds w.2.1 A) (ih : GoOk Z a0 w A f) (hx : p.tables.exec = Jvm.exec) (hZ : Z.Warmed39 s.vm) (hby : c.code = mCode 0) (hml : c.maxLocals = mMax 0) (hown : s.vm.findClass (kls (mK 0)) = some m.cls) (hnm : meth.name = mNm 0)
    (X : Stand p l e R s m args below meth c T locs cells slots) (hN : Fr w.1 locs) (hR : Rep Z w T.heap H) (hsz : T.heap.size = s.heap.size + cells) (hfb : fb ≤ R.frames) (hlb : lb ≤ R.locals) (h : oneP (go A f) A pc Ls S H fb lb = some st) (g1 : cells + st.2.2.2.2.1 ≤ R.cells) (g2 : slots + st.2.2.2.2.2 ≤ R.slots) :
    Nx Z w p l e R s m args below meth c T cells slots pc Ls S st := by
  unfold oneP at h
  cases hins : ins 0 pc with
  | none => simp [hins] at h
  | some xx =>
    obtain ⟨i, n, r⟩ := xx
    simp only [hins] at h
    cases qn : Nat.beq n (ilen i) with
    | false => simp [qn] at h
    | true =>
      simp only [qn, cond_true] at h
      have hn := Nat.eq_of_beq_eq_true qn
      have hd := hb hby (ins_ok hins)
      cases i
      case ireturn => cases h
      case areturn => cases h
      case return_ => cases h
      case invokestatic k => rw [hn] at hd; exact callNx hw hWs ih hx hZ hml hown X hN hR hsz hfb hlb (op := 0) hd h g1 g2
      case invokespecial k => rw [hn] at hd; exact callNx hw hWs ih hx hZ hml hown X hN hR hsz hfb hlb (op := 1) hd h g1 g2
      case invokevirtual k => rw [hn] at hd; exact callNx hw hWs ih hx hZ hml hown X hN hR hsz hfb hlb (op := 2) hd h g1 g2
      all_goals
        simp only at h
        cases hst : stepC A 0 pc Ls S H (_, n, r) with
        | inl y => rw [hst] at h; cases h
        | inr st' =>
          rw [hst] at h
          cases h
          exact step_ok hw hx hZ hWs hA hby hown hnm X hN hR hsz hd hn (stepC_ok hst) g1 g2
theorem goP_ok {f stop fb lb : Nat} (hw : ∀ d ∈ tables_1, d.before a0 Z = true) (hWs : Wst Z a0 w) (hA : holds w.2.1 A) (ih : GoOk Z a0 w A f) (hx : p.tables.exec = Jvm.exec) (hZ : Z.Warmed39 s.vm) (hby : c.code = mCode 0) (hml : c.maxLocals = mMax 0) (hown : s.vm.findClass (kls (mK 0)) = some m.cls) (hnm : meth.name = mNm 0) (hfb : fb ≤ R.frames) (hlb : lb ≤ R.locals) :
    ∀ (n pc : Nat) (Ls : List (Option Term)) (S : List Term) (H : AH) (st : St) {T : State} {locs : List Loc} {cells slots : Nat}, Stand p l e R s m args below meth c T locs cells slots → Fr w.1 locs → Rep Z w T.heap H → T.heap.size = s.heap.size + cells → goP (go A f) A stop fb lb n pc Ls S H = some st → cells + st.2.2.2.2.1 ≤ R.cells → slots + st.2.2.2.2.2 ≤ R.slots →
    Nx Z w p l e R s m args below meth c T cells slots pc Ls S st
  | 0, _, _, _, _, _, _, _, _, _, _, _, _, _, h, _, _ => by cases h
  | n + 1, pc, Ls, S, H, st, T, locs, cells, slots, X, hN, hR, hsz, h, g1, g2 => by
    simp only [goP] at h
    cases q : Nat.beq pc stop with
    | true =>
      simp only [q, cond_true, Option.some.injEq] at h
      subst h
      exact ⟨T, locs, X, hN, hR, hsz, fun _ k => k⟩
    | false =>
      simp only [q, cond_false] at h
      cases h1 : oneP (go A f) A pc Ls S H fb lb with
      | none => simp [h1] at h
      | some st1 =>
        obtain ⟨pc1, Ls1, S1, H1, c1, s1⟩ := st1
        simp only [h1] at h
        cases h2 : goP (go A f) A stop fb lb n pc1 Ls1 S1 H1 with
        | none => simp [h2] at h
        | some st2 =>
          obtain ⟨pc2, Ls2, S2, H2, c2, s2⟩ := st2
          simp only [h2, Option.some.injEq] at h
          subst h
          have g1' : cells + (c1 + c2) ≤ R.cells := g1
          have g2' : slots + (s1 + s2) ≤ R.slots := g2
          obtain ⟨T1, locs1, X1, hN1, hR1, hsz1, hst1⟩ := oneNx hw hWs hA ih hx hZ hby hml hown hnm X hN hR hsz hfb hlb h1 (by show cells + c1 ≤ _; omega) (by show slots + s1 ≤ _; omega)
          obtain ⟨T2, locs2, X2, hN2, hR2, hsz2, hst2⟩ := goP_ok hw hWs hA ih hx hZ hby hml hown hnm hfb hlb n pc1 Ls1 S1 H1 _ X1 hN1 hR1 hsz1 h2 (by show cells + c1 + c2 ≤ _; omega) (by show slots + s1 + s2 ≤ _; omega)
          refine ⟨T2, locs2, ?_, hN2, hR2, ?_, fun t k => hst1 t (hst2 t k)⟩
          · show Stand p l e R s m args below meth c T2 locs2 (cells + (c1 + c2)) (slots + (s1 + s2))
            rw [← Nat.add_assoc, ← Nat.add_assoc]; exact X2
          · rw [hsz2]; show s.heap.size + (cells + c1 + c2) = s.heap.size + (cells + (c1 + c2)); omega
end Cut

/-! states that are alike under what is assumed -/
def vEq (lg : Option Int64) (A : List Asm) : Term → Term → Bool
  | .null, .null => true
  | .index i, .index j => Nat.beq i j
  | .string _ i, .string _ j => Nat.beq i j
  | .long i, .long j => decide (i = j)
  | .long i, .result => lg == some i
  | a, b => (isI a && isI b) && (tEq a b || (look A false a b == some true || look A false b a == some true))
theorem vEq_ok {lg : Option Int64} {A : List Asm} {w : Wl} (hA : holds w.2.1 A) (hl : ∀ x, lg = some x → w.2.1.2 = x) {a b : Term} (h : vEq lg A a b = true) : cv w a = cv w b := by
  have gen : ((isI a && isI b) && (tEq a b || (look A false a b == some true || look A false b a == some true))) = true → cv w a = cv w b := fun h => by
    simp only [Bool.and_eq_true, Bool.or_eq_true, beq_iff_eq] at h
    obtain ⟨⟨ha, hb⟩, h⟩ := h
    rw [cv_I ha, cv_I hb]
    rcases h with h | h | h
    · rw [tEq_ok h]
    · have := look_ok hA h
      simp only [rel, cond_false, decide_eq_true_eq] at this
      rw [this]
    · have := look_ok hA h
      simp only [rel, cond_false, decide_eq_true_eq] at this
      rw [this]
  unfold vEq at h
  split at h
  · rfl
  · rw [Nat.eq_of_beq_eq_true h]
  · have := Nat.eq_of_beq_eq_true h
    subst this; rfl
  · rw [of_decide_eq_true h]
  · rw [beq_iff_eq] at h
    rw [show cv w Term.result = .long w.2.1.2 from rfl, hl _ h]; rfl
  · exact gen h
def nTh : Term → Bool
  | .thrown => false
  | _ => true
def oEq (lg : Option Int64) (A : List Asm) : Option Term → Option Term → Bool
  | none, none => true
  | some a, some b => (nTh a && nTh b) && vEq lg A a b
  | _, _ => false
theorem oEq_ok {lg : Option Int64} {A : List Asm} {w : Wl} (hA : holds w.2.1 A) (hl : ∀ x, lg = some x → w.2.1.2 = x) {a b : Option Term} (h : oEq lg A a b = true) : cs w a = cs w b := by
  unfold oEq at h
  split at h
  · rfl
  · rename_i a b
    simp only [Bool.and_eq_true] at h
    have e := vEq_ok hA hl h.2
    have c1 : cs w (some a) = .val (cv w a) := by cases a <;> first | rfl | (cases h.1.1; done)
    have c2 : cs w (some b) = .val (cv w b) := by cases b <;> first | rfl | (cases h.1.2; done)
    rw [c1, c2, e]
  · cases h
def lEq {α : Type} (f : α → α → Bool) : List α → List α → Bool
  | [], [] => true
  | a :: r, b :: r' => f a b && lEq f r r'
  | _, _ => false
theorem lEq_ok {α β : Type} {f : α → α → Bool} {g : α → β} (hf : ∀ a b, f a b = true → g a = g b) : ∀ {L L' : List α}, lEq f L L' = true → L.map g = L'.map g
  | [], [], _ => rfl
  | a :: r, b :: r', h => by
    simp only [lEq, Bool.and_eq_true] at h
    rw [List.map_cons, List.map_cons, hf a b h.1, lEq_ok hf h.2]
  | [], _ :: _, h => by cases h
  | _ :: _, [], h => by cases h
def cEq (lg : Option Int64) (A : List Asm) (c d : Nat × List Term) : Bool := Nat.beq c.1 d.1 && lEq (vEq lg A) c.2 d.2
theorem RC.alike {Z : State} {w : Wl} {h : Heap} {a : Addr} {t : Nat} {vs vs' : List Term} (e : vs.map (cv w) = vs'.map (cv w)) (F : RC Z w h a (t, vs)) : RC Z w h a (t, vs') := by
  refine ⟨F.1, ?_⟩
  have F2 := F.2
  revert F2
  show (match aty t with | none => _ | some ty => _) → (match aty t with | none => _ | some ty => _)
  cases aty t with
  | none =>
    intro F2 i v hv
    have e1 : (vs.map (cv w))[i]? = (vs'.map (cv w))[i]? := by rw [e]
    rw [List.getElem?_map, List.getElem?_map, show vs'[i]? = some v from hv] at e1
    cases hu : vs[i]? with
    | none => rw [hu] at e1; cases e1
    | some u =>
      rw [hu] at e1
      have e2 : cv w u = cv w v := Option.some.inj e1
      have := F2 i u hu
      rw [e2] at this
      exact this
  | some ty =>
    intro ⟨cl, A1, A2, A3, A4⟩
    refine ⟨cl, A1, by rw [A2]; exact e, fun v hv => ?_, A4⟩
    have : cv w v ∈ vs'.map (cv w) := List.mem_map_of_mem hv
    rw [← e] at this
    obtain ⟨u, hu, eu⟩ := List.mem_map.mp this
    rw [← eu]; exact A3 u hu
theorem Rep.alike {Z : State} {w : Wl} {h : Heap} {lg : Option Int64} {A : List Asm} (hA : holds w.2.1 A) (hl : ∀ x, lg = some x → w.2.1.2 = x) {H H' : AH} (e : lEq (cEq lg A) H H' = true) (F : Rep Z w h H) : Rep Z w h H' := by
  have key : ∀ {K K' : AH}, lEq (cEq lg A) K K' = true → K.length = K'.length ∧ ∀ (i : Nat) (c' : Nat × List Term), K'[i]? = some c' → ∃ c : Nat × List Term, K[i]? = some c ∧ cEq lg A c c' = true := by
    intro K
    induction K with
    | nil => intro K' q; cases K' with
      | nil => exact ⟨rfl, fun i c' z => by cases z⟩
      | cons _ _ => cases q
    | cons a r ih =>
      intro K' q
      cases K' with
      | nil => cases q
      | cons b r' =>
        simp only [lEq, Bool.and_eq_true] at q
        obtain ⟨h1, h2⟩ := ih q.2
        refine ⟨by simp [h1], fun i c' z => ?_⟩
        cases i with
        | zero => cases z; exact ⟨a, rfl, q.1⟩
        | succ i => exact h2 i c' z
  obtain ⟨k1, k2⟩ := key e
  refine ⟨F.1, F.2.1, by rw [← k1]; exact F.2.2.1, fun i c' z => ?_⟩
  obtain ⟨c, z1, z2⟩ := k2 i c' z
  obtain ⟨t, vs⟩ := c
  obtain ⟨t', vs'⟩ := c'
  simp only [cEq, Bool.and_eq_true] at z2
  have := Nat.eq_of_beq_eq_true z2.1
  subst this
  exact RC.alike (lEq_ok (fun a b q => vEq_ok hA hl q) z2.2) (F.2.2.2 i _ z1)
def stEq (lg : Option Int64) (A : List Asm) (x : Option St) (pc : Nat) (Ls : List (Option Term)) (H : AH) (c s : Nat) : Bool := match x with
  | some (pc', Ls', [], H', c', s') => Nat.beq pc' pc && (lEq (oEq lg A) Ls' Ls && (lEq (cEq lg A) H' H && (Nat.beq c' c && Nat.beq s' s)))
  | _ => false
section Cut2
variable {Z : State} {w : Wl} {a0 : Array Value} {A : List Asm} {p : Program} {l : Launch} {e : Env} {R : Room} {s : State} {m : MethodId} {args : Array Value} {below : List Frame} {meth : Method} {c : Code}
theorem cL_alike {lg : Option Int64} (hA : holds w.2.1 A) (hl : ∀ x, lg = some x → w.2.1.2 = x) {Ls Ls' : List (Option Term)} (h : lEq (oEq lg A) Ls Ls' = true) : cL w Ls = cL w Ls' := by
  unfold cL; rw [lEq_ok (fun a b q => oEq_ok hA hl q) h]
/-- a part of the law's run, and the state behind it in other words -/
theorem part {lg : Option Int64} {f stop fb lb n pc pc1 c1 s1 : Nat} {Ls Ls1 : List (Option Term)} {H H1 : AH} {T : State} {locs : List Loc} {cells slots : Nat} (hw : ∀ d ∈ tables_1, d.before a0 Z = true) (hWs : Wst Z a0 w) (hA : holds w.2.1 A) (hl : ∀ x, lg = some x → w.2.1.2 = x) (hx : p.tables.exec = Jvm.exec) (hZ : Z.Warmed39 s.vm) (hby : c.code = mCode 0) (hml : c.maxLocals = mMax 0) (hown : s.vm.findClass (kls (mK 0)) = some m.cls) (hnm : meth.name = mNm 0) (hfb : fb ≤ R.frames) (hlb : lb ≤ R.locals)
    (X : Stand p l e R s m args below meth c T locs cells slots) (hN : Fr w.1 locs) (hR : Rep Z w T.heap H) (hsz : T.heap.size = s.heap.size + cells) (h : stEq lg A (goP (go2 A f) A stop fb lb n pc Ls [] H) pc1 Ls1 H1 c1 s1 = true) (g1 : cells + c1 ≤ R.cells) (g2 : slots + s1 ≤ R.slots) :
    Nx Z w p l e R s m args below meth c T cells slots pc Ls [] (pc1, Ls1, [], H1, c1, s1) := by
  rw [go2_ok] at h
  cases hg : goP (go A f) A stop fb lb n pc Ls [] H with
  | none => rw [hg] at h; cases h
  | some st =>
    obtain ⟨pc', Ls', S', H', c', s'⟩ := st
    rw [hg] at h
    cases S' with
    | cons _ _ => cases h
    | nil =>
      simp only [stEq, Bool.and_eq_true] at h
      obtain ⟨h1, h2, h3, h4, h5⟩ := h
      have h1 := Nat.eq_of_beq_eq_true h1
      have h4 := Nat.eq_of_beq_eq_true h4
      have h5 := Nat.eq_of_beq_eq_true h5
      subst h1 h4 h5
      obtain ⟨T1, locs1, X1, hN1, hR1, hsz1, hst1⟩ := goP_ok hw hWs hA (go_ok hw hWs hA f) hx hZ hby hml hown hnm hfb hlb n pc Ls [] H _ X hN hR hsz hg g1 g2
      refine ⟨T1, locs1, X1, hN1, Rep.alike hA hl h3 hR1, hsz1, fun t k => hst1 t ?_⟩
      show Steps p.tables e below (T1.setTop (mkF m pc' (cL w Ls') [])) t
      rw [cL_alike hA hl h2]; exact k
end Cut2
set_option maxHeartbeats 4000000 in
/-- the law's run in three parts -/
theorem cutmet {Z : State} {w : Wl} {a0 : Array Value} {A1 A2 A3 : List Asm} {lg1 lg2 : Option Int64} {f stop1 stop2 fb lb n pc1 pc2 c1 s1 c2 s2 c3 s3 : Nat} {Ls0 Ls1 Ls2 Ls3 : List (Option Term)} {H1 H2 H2' H3 : AH} {v : Option Term} {h0 : Heap} {av : Array Value} {R : Room} (hw : ∀ d ∈ tables_1, d.before a0 Z = true) (hWs : Wst Z a0 w) (hA1 : holds w.2.1 A1) (hA2 : holds w.2.1 A2) (hA3 : holds w.2.1 A3) (hl1 : ∀ x, lg1 = some x → w.2.1.2 = x) (hl2 : ∀ x, lg2 = some x → w.2.1.2 = x)
    (p1 : stEq lg1 A1 (goP (go2 A1 f) A1 stop1 fb lb n 0 Ls0 [] []) pc1 Ls1 H1 c1 s1 = true) (p2 : stEq lg2 A2 (goP (go2 A2 f) A2 stop2 fb lb n pc1 Ls1 [] H1) pc2 Ls2 H2 c2 s2 = true) (p3 : lEq (oEq lg1 A1) Ls2 Ls3 = true) (p3' : lEq (cEq lg1 A1) H2 H2' = true) (p4 : go2 A3 f 0 pc2 Ls3 [] H2' fb lb = .inr (v, H3, c3, s3)) (hj : 0 < nM)
    (hent : Jvm.Sym.laidSlots av.toList ++ List.replicate (mMax 0 - (Jvm.Sym.laidSlots av.toList).length) .unset = (cL w Ls0).toList) (hR : Rep Z w h0 []) (hfb : fb ≤ R.frames) (hlb : lb ≤ R.locals) (hc : c1 + c2 + c3 ≤ R.cells) (hs : s1 + s2 + s3 ≤ R.slots) (l : Launch) (ws : List Jvm.Cond) :
    MetFree l (mName 0) (head1 (Jvm.Cond.code (mName 0) (mCode 0) (mMax 0) (mRet 0) :: ws) R) (fun a U => a = av ∧ Z.Warmed39 U.vm ∧ U.heap = h0) (fun _ _ _ _ _ => True) (fun _ U o U' => ∃ v' L, o = .returned v' ∧ (v' = v.map (cv w) ∧ Fr w.1 L) ∧ FrameEnd U o U' L (c1 + c2 + c3) (s1 + s2 + s3)) := by
  refine MetFree.of_bodySF (mPl_ok hj) hisR ?_
  intro p e s m args below meth c s₁ Bd hml0 hP hK
  obtain ⟨rfl, hZ, hh⟩ := hP
  have hx := Bd.exec
  have hby := Bd.bytes
  have hown : s.vm.findClass (kls (mK 0)) = some m.cls := findClass_of_methodNamed Bd.named
  have hnm := (name_of_methodNamed Bd.named Bd.method).1
  have X0 : Stand p l e R s m args below meth c s₁ [] 0 0 := Stand.of_body Bd
  have e0 : s₁.heap = h0 := by rw [← hh, Bd.state]; rfl
  obtain ⟨T1, locs1, X1, hN1, hR1, hsz1, hst1⟩ := part hw hWs hA1 hl1 hx hZ hby hml0 hown hnm hfb hlb X0 (Fr.nil _) (by rw [e0]; exact hR) (by rw [e0, ← hh]; rfl) p1 (by omega) (by omega)
  obtain ⟨T2, locs2, X2, hN2, hR2, hsz2, hst2⟩ := part hw hWs hA2 hl2 hx hZ hby hml0 hown hnm hfb hlb X1 hN1 hR1 hsz1 p2 (by show 0 + c1 + c2 ≤ _; omega) (by show 0 + s1 + s2 ≤ _; omega)
  rw [go2_ok] at p4
  obtain ⟨hv, T', locs', X', hN', hR', hsz', hst⟩ := go_ok hw hWs hA3 f 0 pc2 Ls3 [] H2' fb lb v H3 c3 s3 p4 hx hZ hby hml0 hown hnm Bd.returns X2 hN2 (Rep.alike hA1 hl1 p3' hR2) hsz2 hfb hlb (by show 0 + c1 + c2 + c3 ≤ _; omega) (by show 0 + s1 + s2 + s3 ≤ _; omega)
  obtain ⟨fs, hr, hrun, hended, hW, hsame⟩ := X'.leave (v := v.map (cv w)) (fun z => by rw [Bd.returns] at z; rw [hv z]; rfl)
  have hst3 := hst fs hr
  rw [← cL_alike hA1 hl1 p3] at hst3
  exact ⟨_, _, (XT.entry hent).trans (hst1 _ (hst2 _ hst3)), hrun, hended, _, _, rfl, ⟨rfl, hN'⟩, ⟨_, rfl⟩, hW, hsame.mono (by show 0 + c1 + c2 + c3 ≤ _; omega) (by show 0 + s1 + s2 + s3 ≤ _; omega)⟩

def L0 : List (Option Term) := [some (.arg 0), some (.arg 1), some (.arg 2), some (.arg 3), none, none, none, none, none, none, none, none, none, none]
def L93 : List (Option Term) := [some (.arg 0), some (.arg 1), some (.arg 2), some (.arg 3), some (.index 0), some (.arg 4), some (.arg 5), some (.op2 .dcmpl (.op2 .iand (.arg 3) (.int 1)) (.int 0)), none, none, none, none, none, none]
def H93 : AH := [(3, [(.op2 .frem (.op2 .iand (.arg 0) (.int 7)) (.int 0)), (.op2 .frem (.op2 .iand (.op2 .iushr (.arg 0) (.int 3)) (.int 7)) (.int 0)), (.op2 .frem (.op2 .iand (.op2 .iushr (.arg 0) (.int 6)) (.int 7)) (.int 0)), (.op2 .frem (.op2 .iand (.op2 .iushr (.arg 0) (.int 9)) (.int 7)) (.int 0)), (.op2 .frem (.op2 .iand (.op2 .iushr (.arg 0) (.int 12)) (.int 7)) (.int 0))]),
  (3, [(.int 32), (.int 9), (.int 13), (.int 10), (.int 123), (.int 125), (.int 11), (.int (-30))]),
  (3, [(.int 32), (.int 9), (.int 13), (.int 10), (.int 123), (.int 125), (.int 11), (.int (-30))]),
  (3, [(.int 32), (.int 9), (.int 13), (.int 10), (.int 123), (.int 125), (.int 11), (.int (-30))]),
  (3, [(.int 32), (.int 9), (.int 13), (.int 10), (.int 123), (.int 125), (.int 11), (.int (-30))]),
  (3, [(.int 32), (.int 9), (.int 13), (.int 10), (.int 123), (.int 125), (.int 11), (.int (-30))])]
def L183 : List (Option Term) := [some (.arg 0), some (.arg 1), some (.arg 2), some (.arg 3), some (.index 0), some (.arg 4), some (.arg 5), some (.op2 .dcmpl (.op2 .iand (.arg 3) (.int 1)) (.int 0)), some (.arg 6), some (.index 6), some (.index 7), none, none, none]
def H183_0 : AH := [(3, [(.op2 .frem (.op2 .iand (.arg 0) (.int 7)) (.int 0)), (.op2 .frem (.op2 .iand (.op2 .iushr (.arg 0) (.int 3)) (.int 7)) (.int 0)), (.op2 .frem (.op2 .iand (.op2 .iushr (.arg 0) (.int 6)) (.int 7)) (.int 0)), (.op2 .frem (.op2 .iand (.op2 .iushr (.arg 0) (.int 9)) (.int 7)) (.int 0)), (.op2 .frem (.op2 .iand (.op2 .iushr (.arg 0) (.int 12)) (.int 7)) (.int 0))]),
  (3, [(.int 32), (.int 9), (.int 13), (.int 10), (.int 123), (.int 125), (.int 11), (.int (-30))]),
  (3, [(.int 32), (.int 9), (.int 13), (.int 10), (.int 123), (.int 125), (.int 11), (.int (-30))]),
  (3, [(.int 32), (.int 9), (.int 13), (.int 10), (.int 123), (.int 125), (.int 11), (.int (-30))]),
  (3, [(.int 32), (.int 9), (.int 13), (.int 10), (.int 123), (.int 125), (.int 11), (.int (-30))]),
  (3, [(.int 32), (.int 9), (.int 13), (.int 10), (.int 123), (.int 125), (.int 11), (.int (-30))]),
  (3, [(.int 123), (.int 125)]),
  (0, [(.index 8), (.index 11), (.index 15), (.index 19), (.index 20), (.index 21), (.index 22), (.index 23), (.index 24), (.index 25), (.index 26), (.index 27), (.index 0), (.arg 4), (.arg 5), (.op2 .dcmpl (.op2 .iand (.arg 3) (.int 1)) (.int 0)), (.arg 4), (.int 0), .null, (.int 0), .null, (.int (-1)), (.int (-1)), (.int (-1)), (.int (-1)), (.int 0), (.int 0), (.int (-1)), (.int 0), (.arg 7), (.long 0), (.int 0), (.long 0), (.int 0), (.int 0), (.int 0), .null, (.int 0)]),
  (1, [(.index 9), (.int 26), (.index 10)]),
  (7, List.replicate 64 .null),
  (7, []),
  (2, [(.index 12), (.index 13), (.index 14)]),
  (8, List.replicate 2048 .null),
  (4, List.replicate 2048 (.int 0)),
  (9, List.replicate 2048 .null),
  (2, [(.index 16), (.index 17), (.index 18)]),
  (8, List.replicate 2048 .null),
  (4, List.replicate 2048 (.int 0)),
  (9, List.replicate 2048 .null),
  (5, [(.int 0), (.int 0), (.int 0), (.int 0), (.int 0), (.int 0), (.int 0), (.int 0), (.int 0), (.int 0), (.int 0), (.int 0), (.int 0), (.int 0), (.int 0), (.int 0)]),
  (6, [(.long 0), (.long 0), (.long 0), (.long 0), (.long 0), (.long 0), (.long 0), (.long 0), (.long 0), (.long 0), (.long 0), (.long 0), (.long 0), (.long 0), (.long 0), (.long 0)]),
  (10, []),
  (11, []),
  (3, List.replicate 64 (.int 0)),
  (4, []),
  (4, []),
  (4, [(.int 0), (.int 0), (.int 0), (.int 0), (.int 0), (.int 0), (.int 0), (.int 0)]),
  (6, [(.long 0), (.long 0), (.long 0), (.long 0)])]
def H183_1 : AH := [(3, [(.op2 .frem (.op2 .iand (.arg 0) (.int 7)) (.int 0)), (.op2 .frem (.op2 .iand (.op2 .iushr (.arg 0) (.int 3)) (.int 7)) (.int 0)), (.op2 .frem (.op2 .iand (.op2 .iushr (.arg 0) (.int 6)) (.int 7)) (.int 0)), (.op2 .frem (.op2 .iand (.op2 .iushr (.arg 0) (.int 9)) (.int 7)) (.int 0)), (.op2 .frem (.op2 .iand (.op2 .iushr (.arg 0) (.int 12)) (.int 7)) (.int 0))]),
  (3, [(.int 32), (.int 9), (.int 13), (.int 10), (.int 123), (.int 125), (.int 11), (.int (-30))]),
  (3, [(.int 32), (.int 9), (.int 13), (.int 10), (.int 123), (.int 125), (.int 11), (.int (-30))]),
  (3, [(.int 32), (.int 9), (.int 13), (.int 10), (.int 123), (.int 125), (.int 11), (.int (-30))]),
  (3, [(.int 32), (.int 9), (.int 13), (.int 10), (.int 123), (.int 125), (.int 11), (.int (-30))]),
  (3, [(.int 32), (.int 9), (.int 13), (.int 10), (.int 123), (.int 125), (.int 11), (.int (-30))]),
  (3, [(.int 123), (.int 125)]),
  (0, [(.index 8), (.index 11), (.index 15), (.index 19), (.index 20), (.index 21), (.index 22), (.index 23), (.index 24), (.index 25), (.index 26), (.index 27), (.index 0), (.arg 4), (.arg 5), (.op2 .dcmpl (.op2 .iand (.arg 3) (.int 1)) (.int 0)), (.arg 4), (.int 0), .null, (.int 0), .null, (.int (-1)), (.int (-1)), (.int (-1)), (.int (-1)), (.int 0), (.int 0), (.int (-1)), (.int 0), (.arg 7), (.long 1), (.int 0), (.long 0), (.int 0), (.int 0), (.int 0), .null, (.int 0)]),
  (1, [(.index 9), (.int 26), (.index 10)]),
  (7, List.replicate 64 .null),
  (7, []),
  (2, [(.index 12), (.index 13), (.index 14)]),
  (8, List.replicate 2048 .null),
  (4, List.replicate 2048 (.int 0)),
  (9, List.replicate 2048 .null),
  (2, [(.index 16), (.index 17), (.index 18)]),
  (8, List.replicate 2048 .null),
  (4, List.replicate 2048 (.int 0)),
  (9, List.replicate 2048 .null),
  (5, [(.int 0), (.int 0), (.int 0), (.int 0), (.int 0), (.int 0), (.int 0), (.int 0), (.int 0), (.int 0), (.int 0), (.int 0), (.int 0), (.int 0), (.int 0), (.int 0)]),
  (6, [(.long 1), (.long 0), (.long 0), (.long 0), (.long 0), (.long 0), (.long 0), (.long 0), (.long 0), (.long 0), (.long 0), (.long 0), (.long 0), (.long 0), (.long 0), (.long 0)]),
  (10, []),
  (11, []),
  (3, List.replicate 64 (.int 0)),
  (4, []),
  (4, []),
  (4, [(.int 0), (.int 0), (.int 0), (.int 0), (.int 0), (.int 0), (.int 0), (.int 0)]),
  (6, [(.long 0), (.long 0), (.long 0), (.long 0)])]
def LT (k kj : Int32) : List (Option Term) := [some (.arg 0), some (.arg 1), some (.arg 2), some (.arg 3), some (.index 0), some (.int k), some (.int kj), some (.op2 .dcmpl (.op2 .iand (.arg 3) (.int 1)) (.int 0)), some (.arg 6), some (.index 6), some (.index 7), none, none, none]
def HT_0 (k kj : Int32) : AH := [(3, [(.op2 .frem (.op2 .iand (.arg 0) (.int 7)) (.int 0)), (.op2 .frem (.op2 .iand (.op2 .iushr (.arg 0) (.int 3)) (.int 7)) (.int 0)), (.op2 .frem (.op2 .iand (.op2 .iushr (.arg 0) (.int 6)) (.int 7)) (.int 0)), (.op2 .frem (.op2 .iand (.op2 .iushr (.arg 0) (.int 9)) (.int 7)) (.int 0)), (.op2 .frem (.op2 .iand (.op2 .iushr (.arg 0) (.int 12)) (.int 7)) (.int 0))]),
  (3, [(.int 32), (.int 9), (.int 13), (.int 10), (.int 123), (.int 125), (.int 11), (.int (-30))]),
  (3, [(.int 32), (.int 9), (.int 13), (.int 10), (.int 123), (.int 125), (.int 11), (.int (-30))]),
  (3, [(.int 32), (.int 9), (.int 13), (.int 10), (.int 123), (.int 125), (.int 11), (.int (-30))]),
  (3, [(.int 32), (.int 9), (.int 13), (.int 10), (.int 123), (.int 125), (.int 11), (.int (-30))]),
  (3, [(.int 32), (.int 9), (.int 13), (.int 10), (.int 123), (.int 125), (.int 11), (.int (-30))]),
  (3, [(.int 123), (.int 125)]),
  (0, [(.index 8), (.index 11), (.index 15), (.index 19), (.index 20), (.index 21), (.index 22), (.index 23), (.index 24), (.index 25), (.index 26), (.index 27), (.index 0), (.int k), (.int kj), (.op2 .dcmpl (.op2 .iand (.arg 3) (.int 1)) (.int 0)), (.int k), (.int 0), .null, (.int 0), .null, (.int (-1)), (.int (-1)), (.int (-1)), (.int (-1)), (.int 0), (.int 0), (.int (-1)), (.int 0), (.arg 7), (.long 0), (.int 0), (.long 0), (.int 0), (.int 0), (.int 0), .null, (.int 0)]),
  (1, [(.index 9), (.int 26), (.index 10)]),
  (7, List.replicate 64 .null),
  (7, []),
  (2, [(.index 12), (.index 13), (.index 14)]),
  (8, List.replicate 2048 .null),
  (4, List.replicate 2048 (.int 0)),
  (9, List.replicate 2048 .null),
  (2, [(.index 16), (.index 17), (.index 18)]),
  (8, List.replicate 2048 .null),
  (4, List.replicate 2048 (.int 0)),
  (9, List.replicate 2048 .null),
  (5, [(.int 0), (.int 0), (.int 0), (.int 0), (.int 0), (.int 0), (.int 0), (.int 0), (.int 0), (.int 0), (.int 0), (.int 0), (.int 0), (.int 0), (.int 0), (.int 0)]),
  (6, [(.long 0), (.long 0), (.long 0), (.long 0), (.long 0), (.long 0), (.long 0), (.long 0), (.long 0), (.long 0), (.long 0), (.long 0), (.long 0), (.long 0), (.long 0), (.long 0)]),
  (10, []),
  (11, []),
  (3, List.replicate 64 (.int 0)),
  (4, []),
  (4, []),
  (4, [(.int 0), (.int 0), (.int 0), (.int 0), (.int 0), (.int 0), (.int 0), (.int 0)]),
  (6, [(.long 0), (.long 0), (.long 0), (.long 0)])]
def rn_0 (k kj : Int32) (A : List Asm) : GR := go2 A 559 0 183 (LT k kj) [] (HT_0 k kj) 5 53
def HT_1 (k kj : Int32) : AH := [(3, [(.op2 .frem (.op2 .iand (.arg 0) (.int 7)) (.int 0)), (.op2 .frem (.op2 .iand (.op2 .iushr (.arg 0) (.int 3)) (.int 7)) (.int 0)), (.op2 .frem (.op2 .iand (.op2 .iushr (.arg 0) (.int 6)) (.int 7)) (.int 0)), (.op2 .frem (.op2 .iand (.op2 .iushr (.arg 0) (.int 9)) (.int 7)) (.int 0)), (.op2 .frem (.op2 .iand (.op2 .iushr (.arg 0) (.int 12)) (.int 7)) (.int 0))]),
  (3, [(.int 32), (.int 9), (.int 13), (.int 10), (.int 123), (.int 125), (.int 11), (.int (-30))]),
  (3, [(.int 32), (.int 9), (.int 13), (.int 10), (.int 123), (.int 125), (.int 11), (.int (-30))]),
  (3, [(.int 32), (.int 9), (.int 13), (.int 10), (.int 123), (.int 125), (.int 11), (.int (-30))]),
  (3, [(.int 32), (.int 9), (.int 13), (.int 10), (.int 123), (.int 125), (.int 11), (.int (-30))]),
  (3, [(.int 32), (.int 9), (.int 13), (.int 10), (.int 123), (.int 125), (.int 11), (.int (-30))]),
  (3, [(.int 123), (.int 125)]),
  (0, [(.index 8), (.index 11), (.index 15), (.index 19), (.index 20), (.index 21), (.index 22), (.index 23), (.index 24), (.index 25), (.index 26), (.index 27), (.index 0), (.int k), (.int kj), (.op2 .dcmpl (.op2 .iand (.arg 3) (.int 1)) (.int 0)), (.int k), (.int 0), .null, (.int 0), .null, (.int (-1)), (.int (-1)), (.int (-1)), (.int (-1)), (.int 0), (.int 0), (.int (-1)), (.int 0), (.arg 7), (.long 1), (.int 0), (.long 0), (.int 0), (.int 0), (.int 0), .null, (.int 0)]),
  (1, [(.index 9), (.int 26), (.index 10)]),
  (7, List.replicate 64 .null),
  (7, []),
  (2, [(.index 12), (.index 13), (.index 14)]),
  (8, List.replicate 2048 .null),
  (4, List.replicate 2048 (.int 0)),
  (9, List.replicate 2048 .null),
  (2, [(.index 16), (.index 17), (.index 18)]),
  (8, List.replicate 2048 .null),
  (4, List.replicate 2048 (.int 0)),
  (9, List.replicate 2048 .null),
  (5, [(.int 0), (.int 0), (.int 0), (.int 0), (.int 0), (.int 0), (.int 0), (.int 0), (.int 0), (.int 0), (.int 0), (.int 0), (.int 0), (.int 0), (.int 0), (.int 0)]),
  (6, [(.long 1), (.long 0), (.long 0), (.long 0), (.long 0), (.long 0), (.long 0), (.long 0), (.long 0), (.long 0), (.long 0), (.long 0), (.long 0), (.long 0), (.long 0), (.long 0)]),
  (10, []),
  (11, []),
  (3, List.replicate 64 (.int 0)),
  (4, []),
  (4, []),
  (4, [(.int 0), (.int 0), (.int 0), (.int 0), (.int 0), (.int 0), (.int 0), (.int 0)]),
  (6, [(.long 0), (.long 0), (.long 0), (.long 0)])]
def rn_1 (k kj : Int32) (A : List Asm) : GR := go2 A 559 0 183 (LT k kj) [] (HT_1 k kj) 5 53
def lf (x : GR) : Bool := match x with
  | .inr (some (.int k), _, c, s) => decide (k = 1) && (Nat.ble c 0 && Nat.ble s 0)
  | _ => false
def Okk (rn : List Asm → GR) (A : List Asm) : Prop := ∀ σ : Un, holds σ A → ∃ A' H c s, holds σ A' ∧ rn A' = .inr (some (.int 1), H, c, s) ∧ c ≤ 0 ∧ s ≤ 0
theorem Okk.leaf {rn : List Asm → GR} {A : List Asm} (h : lf (rn A) = true) : Okk rn A := by
  intro σ hA
  unfold lf at h
  split at h
  · rename_i k H c s hr
    simp only [Bool.and_eq_true] at h
    have := of_decide_eq_true h.1
    subst this
    exact ⟨A, H, c, s, hA, hr, Nat.le_of_ble_eq_true h.2.1, Nat.le_of_ble_eq_true h.2.2⟩
  · cases h
theorem Okk.fork {rn : List Asm → GR} {A : List Asm} {q : Bool} {a b : Term} (h : Okk rn ((q, a, b, true) :: A)) (h' : Okk rn ((q, a, b, false) :: A)) : Okk rn A := by
  intro σ hA
  cases hq : rel σ q a b with
  | true =>
    refine h σ fun e he => ?_
    rcases List.mem_cons.mp he with rfl | he
    · exact hq
    · exact hA e he
  | false =>
    refine h' σ fun e he => ?_
    rcases List.mem_cons.mp he with rfl | he
    · exact hq
    · exact hA e he
theorem Okk.vals {rn : List Asm → GR} {A : List Asm} {a : Term} {u : Nat} (hu : rg a = some u) (h : ∀ k, k ≤ u → Okk rn ((false, a, .int k.toInt32, true) :: A)) : Okk rn A := by
  intro σ hA
  have hb := rg_ok (σ := σ) hu
  have h0 : ¬ tv σ a < 0 := by rw [Int32.lt_iff_toInt_lt]; have e0 : (0 : Int32).toInt = 0 := rfl; omega
  have hk : (tv σ a).toNatClampNeg ≤ u := by simp only [Int32.toNatClampNeg]; omega
  refine h _ hk σ fun e he => ?_
  rcases List.mem_cons.mp he with rfl | he
  · show rel σ false a (.int (tv σ a).toNatClampNeg.toInt32) = true
    simp only [rel, cond_false, tv, (back32 h0).1, decide_true]
  · exact hA e he
theorem Okk.tab {rn : List Asm → GR} {A : List Asm} {x y : Term} (hl : look A false (.op2 .lcmp (.op2 .frem x y) (.int 0)) (.int 1) = some false) (h1 : Okk rn ((false, .op2 .frem x y, .int 10, true) :: A)) (h2 : Okk rn ((false, .op2 .frem x y, .int 123, true) :: A)) (h3 : Okk rn ((false, .op2 .frem x y, .int 125, true) :: A)) (h4 : Okk rn ((false, .op2 .frem x y, .int 11, true) :: A)) (h5 : Okk rn ((false, .op2 .frem x y, .int (-30), true) :: A)) : Okk rn A := by
  intro σ hA
  have z := (blk_cases (v := tv σ (.op2 .frem x y)) (b := false) (look_ok hA hl)).2 rfl
  have key : ∀ k : Int32, tv σ (.op2 .frem x y) = k → holds σ ((false, .op2 .frem x y, .int k, true) :: A) := fun k hk e he => by
    rcases List.mem_cons.mp he with rfl | he
    · show decide (tv σ (.op2 .frem x y) = k) = true
      exact decide_eq_true hk
    · exact hA e he
  rcases (show tv σ (.op2 .frem x y) = 32 ∨ tv σ (.op2 .frem x y) = 9 ∨ tv σ (.op2 .frem x y) = 13 ∨ tv σ (.op2 .frem x y) = 10 ∨ tv σ (.op2 .frem x y) = 123 ∨ tv σ (.op2 .frem x y) = 125 ∨ tv σ (.op2 .frem x y) = 11 ∨ tv σ (.op2 .frem x y) = -30 from tab8_cases _) with q | q | q | q | q | q | q | q
  · exact absurd q z.1
  · exact absurd q z.2.1
  · exact absurd q z.2.2
  · exact h1 σ (key _ q)
  · exact h2 σ (key _ q)
  · exact h3 σ (key _ q)
  · exact h4 σ (key _ q)
  · exact h5 σ (key _ q)
set_option maxRecDepth 1000000 in
theorem nd1 : Okk (rn_0 0 0) [(false, (.op2 .dcmpl (.op2 .iand (.arg 3) (.int 1)) (.int 0)), (.int 0), true)] := Okk.leaf (by decide +kernel)
set_option maxRecDepth 1000000 in
theorem nd2 : Okk (rn_0 0 0) [(false, (.op2 .dcmpl (.op2 .iand (.arg 3) (.int 1)) (.int 0)), (.int 0), false)] := Okk.leaf (by decide +kernel)
theorem nd3 : Okk (rn_0 0 0) [] := Okk.fork nd1 nd2
set_option maxRecDepth 1000000 in
theorem nd4 : Okk (rn_0 0 1) [(false, (.op2 .dcmpl (.op2 .iand (.arg 3) (.int 1)) (.int 0)), (.int 0), true), (false, (.op2 .lcmp (.op2 .frem (.op2 .iand (.arg 0) (.int 7)) (.int 0)) (.int 0)), (.int 1), true)] := Okk.leaf (by decide +kernel)
set_option maxRecDepth 1000000 in
theorem nd5 : Okk (rn_0 0 1) [(false, (.op2 .dcmpl (.op2 .iand (.arg 3) (.int 1)) (.int 0)), (.int 0), false), (false, (.op2 .lcmp (.op2 .frem (.op2 .iand (.arg 0) (.int 7)) (.int 0)) (.int 0)), (.int 1), true)] := Okk.leaf (by decide +kernel)
theorem nd6 : Okk (rn_0 0 1) [(false, (.op2 .lcmp (.op2 .frem (.op2 .iand (.arg 0) (.int 7)) (.int 0)) (.int 0)), (.int 1), true)] := Okk.fork nd4 nd5
set_option maxRecDepth 1000000 in
theorem nd7 : Okk (rn_0 0 1) [(false, (.op2 .frem (.op2 .iand (.arg 0) (.int 7)) (.int 0)), (.int 10), true), (false, (.op2 .lcmp (.op2 .frem (.op2 .iand (.arg 0) (.int 7)) (.int 0)) (.int 0)), (.int 1), false)] := Okk.leaf (by decide +kernel)
set_option maxRecDepth 1000000 in
theorem nd8 : Okk (rn_0 0 1) [(false, (.op2 .frem (.op2 .iand (.arg 0) (.int 7)) (.int 0)), (.int 123), true), (false, (.op2 .lcmp (.op2 .frem (.op2 .iand (.arg 0) (.int 7)) (.int 0)) (.int 0)), (.int 1), false)] := Okk.leaf (by decide +kernel)
set_option maxRecDepth 1000000 in
theorem nd9 : Okk (rn_0 0 1) [(false, (.op2 .frem (.op2 .iand (.arg 0) (.int 7)) (.int 0)), (.int 125), true), (false, (.op2 .lcmp (.op2 .frem (.op2 .iand (.arg 0) (.int 7)) (.int 0)) (.int 0)), (.int 1), false)] := Okk.leaf (by decide +kernel)
set_option maxRecDepth 1000000 in
theorem nd10 : Okk (rn_0 0 1) [(false, (.op2 .frem (.op2 .iand (.arg 0) (.int 7)) (.int 0)), (.int 11), true), (false, (.op2 .lcmp (.op2 .frem (.op2 .iand (.arg 0) (.int 7)) (.int 0)) (.int 0)), (.int 1), false)] := Okk.leaf (by decide +kernel)
set_option maxRecDepth 1000000 in
theorem nd11 : Okk (rn_0 0 1) [(false, (.op2 .frem (.op2 .iand (.arg 0) (.int 7)) (.int 0)), (.int (-30)), true), (false, (.op2 .lcmp (.op2 .frem (.op2 .iand (.arg 0) (.int 7)) (.int 0)) (.int 0)), (.int 1), false)] := Okk.leaf (by decide +kernel)
theorem nd12 : Okk (rn_0 0 1) [(false, (.op2 .lcmp (.op2 .frem (.op2 .iand (.arg 0) (.int 7)) (.int 0)) (.int 0)), (.int 1), false)] := Okk.tab (by decide +kernel) nd7 nd8 nd9 nd10 nd11
theorem nd13 : Okk (rn_0 0 1) [] := Okk.fork nd6 nd12
set_option maxRecDepth 1000000 in
theorem nd14 : Okk (rn_0 0 2) [(false, (.op2 .dcmpl (.op2 .iand (.arg 3) (.int 1)) (.int 0)), (.int 0), true), (false, (.op2 .lcmp (.op2 .frem (.op2 .iand (.op2 .iushr (.arg 0) (.int 3)) (.int 7)) (.int 0)) (.int 0)), (.int 1), true), (false, (.op2 .lcmp (.op2 .frem (.op2 .iand (.arg 0) (.int 7)) (.int 0)) (.int 0)), (.int 1), true)] := Okk.leaf (by decide +kernel)
set_option maxRecDepth 1000000 in
theorem nd15 : Okk (rn_0 0 2) [(false, (.op2 .dcmpl (.op2 .iand (.arg 3) (.int 1)) (.int 0)), (.int 0), false), (false, (.op2 .lcmp (.op2 .frem (.op2 .iand (.op2 .iushr (.arg 0) (.int 3)) (.int 7)) (.int 0)) (.int 0)), (.int 1), true), (false, (.op2 .lcmp (.op2 .frem (.op2 .iand (.arg 0) (.int 7)) (.int 0)) (.int 0)), (.int 1), true)] := Okk.leaf (by decide +kernel)
theorem nd16 : Okk (rn_0 0 2) [(false, (.op2 .lcmp (.op2 .frem (.op2 .iand (.op2 .iushr (.arg 0) (.int 3)) (.int 7)) (.int 0)) (.int 0)), (.int 1), true), (false, (.op2 .lcmp (.op2 .frem (.op2 .iand (.arg 0) (.int 7)) (.int 0)) (.int 0)), (.int 1), true)] := Okk.fork nd14 nd15
set_option maxRecDepth 1000000 in
theorem nd17 : Okk (rn_0 0 2) [(false, (.op2 .frem (.op2 .iand (.op2 .iushr (.arg 0) (.int 3)) (.int 7)) (.int 0)), (.int 10), true), (false, (.op2 .lcmp (.op2 .frem (.op2 .iand (.op2 .iushr (.arg 0) (.int 3)) (.int 7)) (.int 0)) (.int 0)), (.int 1), false), (false, (.op2 .lcmp (.op2 .frem (.op2 .iand (.arg 0) (.int 7)) (.int 0)) (.int 0)), (.int 1), true)] := Okk.leaf (by decide +kernel)
set_option maxRecDepth 1000000 in
theorem nd18 : Okk (rn_0 0 2) [(false, (.op2 .frem (.op2 .iand (.op2 .iushr (.arg 0) (.int 3)) (.int 7)) (.int 0)), (.int 123), true), (false, (.op2 .lcmp (.op2 .frem (.op2 .iand (.op2 .iushr (.arg 0) (.int 3)) (.int 7)) (.int 0)) (.int 0)), (.int 1), false), (false, (.op2 .lcmp (.op2 .frem (.op2 .iand (.arg 0) (.int 7)) (.int 0)) (.int 0)), (.int 1), true)] := Okk.leaf (by decide +kernel)
set_option maxRecDepth 1000000 in
theorem nd19 : Okk (rn_0 0 2) [(false, (.op2 .frem (.op2 .iand (.op2 .iushr (.arg 0) (.int 3)) (.int 7)) (.int 0)), (.int 125), true), (false, (.op2 .lcmp (.op2 .frem (.op2 .iand (.op2 .iushr (.arg 0) (.int 3)) (.int 7)) (.int 0)) (.int 0)), (.int 1), false), (false, (.op2 .lcmp (.op2 .frem (.op2 .iand (.arg 0) (.int 7)) (.int 0)) (.int 0)), (.int 1), true)] := Okk.leaf (by decide +kernel)
set_option maxRecDepth 1000000 in
theorem nd20 : Okk (rn_0 0 2) [(false, (.op2 .frem (.op2 .iand (.op2 .iushr (.arg 0) (.int 3)) (.int 7)) (.int 0)), (.int 11), true), (false, (.op2 .lcmp (.op2 .frem (.op2 .iand (.op2 .iushr (.arg 0) (.int 3)) (.int 7)) (.int 0)) (.int 0)), (.int 1), false), (false, (.op2 .lcmp (.op2 .frem (.op2 .iand (.arg 0) (.int 7)) (.int 0)) (.int 0)), (.int 1), true)] := Okk.leaf (by decide +kernel)
set_option maxRecDepth 1000000 in
theorem nd21 : Okk (rn_0 0 2) [(false, (.op2 .frem (.op2 .iand (.op2 .iushr (.arg 0) (.int 3)) (.int 7)) (.int 0)), (.int (-30)), true), (false, (.op2 .lcmp (.op2 .frem (.op2 .iand (.op2 .iushr (.arg 0) (.int 3)) (.int 7)) (.int 0)) (.int 0)), (.int 1), false), (false, (.op2 .lcmp (.op2 .frem (.op2 .iand (.arg 0) (.int 7)) (.int 0)) (.int 0)), (.int 1), true)] := Okk.leaf (by decide +kernel)
theorem nd22 : Okk (rn_0 0 2) [(false, (.op2 .lcmp (.op2 .frem (.op2 .iand (.op2 .iushr (.arg 0) (.int 3)) (.int 7)) (.int 0)) (.int 0)), (.int 1), false), (false, (.op2 .lcmp (.op2 .frem (.op2 .iand (.arg 0) (.int 7)) (.int 0)) (.int 0)), (.int 1), true)] := Okk.tab (by decide +kernel) nd17 nd18 nd19 nd20 nd21
theorem nd23 : Okk (rn_0 0 2) [(false, (.op2 .lcmp (.op2 .frem (.op2 .iand (.arg 0) (.int 7)) (.int 0)) (.int 0)), (.int 1), true)] := Okk.fork nd16 nd22
set_option maxRecDepth 1000000 in
theorem nd24 : Okk (rn_0 0 2) [(false, (.op2 .frem (.op2 .iand (.arg 0) (.int 7)) (.int 0)), (.int 10), true), (false, (.op2 .lcmp (.op2 .frem (.op2 .iand (.arg 0) (.int 7)) (.int 0)) (.int 0)), (.int 1), false)] := Okk.leaf (by decide +kernel)
set_option maxRecDepth 1000000 in
theorem nd25 : Okk (rn_0 0 2) [(false, (.op2 .frem (.op2 .iand (.arg 0) (.int 7)) (.int 0)), (.int 123), true), (false, (.op2 .lcmp (.op2 .frem (.op2 .iand (.arg 0) (.int 7)) (.int 0)) (.int 0)), (.int 1), false)] := Okk.leaf (by decide +kernel)
set_option maxRecDepth 1000000 in
theorem nd26 : Okk (rn_0 0 2) [(false, (.op2 .frem (.op2 .iand (.arg 0) (.int 7)) (.int 0)), (.int 125), true), (false, (.op2 .lcmp (.op2 .frem (.op2 .iand (.arg 0) (.int 7)) (.int 0)) (.int 0)), (.int 1), false)] := Okk.leaf (by decide +kernel)
set_option maxRecDepth 1000000 in
theorem nd27 : Okk (rn_0 0 2) [(false, (.op2 .frem (.op2 .iand (.arg 0) (.int 7)) (.int 0)), (.int 11), true), (false, (.op2 .lcmp (.op2 .frem (.op2 .iand (.arg 0) (.int 7)) (.int 0)) (.int 0)), (.int 1), false)] := Okk.leaf (by decide +kernel)
set_option maxRecDepth 1000000 in
theorem nd28 : Okk (rn_0 0 2) [(false, (.op2 .frem (.op2 .iand (.arg 0) (.int 7)) (.int 0)), (.int (-30)), true), (false, (.op2 .lcmp (.op2 .frem (.op2 .iand (.arg 0) (.int 7)) (.int 0)) (.int 0)), (.int 1), false)] := Okk.leaf (by decide +kernel)
theorem nd29 : Okk (rn_0 0 2) [(false, (.op2 .lcmp (.op2 .frem (.op2 .iand (.arg 0) (.int 7)) (.int 0)) (.int 0)), (.int 1), false)] := Okk.tab (by decide +kernel) nd24 nd25 nd26 nd27 nd28
theorem nd30 : Okk (rn_0 0 2) [] := Okk.fork nd23 nd29
set_option maxRecDepth 1000000 in
theorem nd31 : Okk (rn_0 0 3) [(false, (.op2 .dcmpl (.op2 .iand (.arg 3) (.int 1)) (.int 0)), (.int 0), true), (false, (.op2 .lcmp (.op2 .frem (.op2 .iand (.op2 .iushr (.arg 0) (.int 6)) (.int 7)) (.int 0)) (.int 0)), (.int 1), true), (false, (.op2 .lcmp (.op2 .frem (.op2 .iand (.op2 .iushr (.arg 0) (.int 3)) (.int 7)) (.int 0)) (.int 0)), (.int 1), true), (false, (.op2 .lcmp (.op2 .frem (.op2 .iand (.arg 0) (.int 7)) (.int 0)) (.int 0)), (.int 1), true)] := Okk.leaf (by decide +kernel)
set_option maxRecDepth 1000000 in
theorem nd32 : Okk (rn_0 0 3) [(false, (.op2 .dcmpl (.op2 .iand (.arg 3) (.int 1)) (.int 0)), (.int 0), false), (false, (.op2 .lcmp (.op2 .frem (.op2 .iand (.op2 .iushr (.arg 0) (.int 6)) (.int 7)) (.int 0)) (.int 0)), (.int 1), true), (false, (.op2 .lcmp (.op2 .frem (.op2 .iand (.op2 .iushr (.arg 0) (.int 3)) (.int 7)) (.int 0)) (.int 0)), (.int 1), true), (false, (.op2 .lcmp (.op2 .frem (.op2 .iand (.arg 0) (.int 7)) (.int 0)) (.int 0)), (.int 1), true)] := Okk.leaf (by decide +kernel)
theorem nd33 : Okk (rn_0 0 3) [(false, (.op2 .lcmp (.op2 .frem (.op2 .iand (.op2 .iushr (.arg 0) (.int 6)) (.int 7)) (.int 0)) (.int 0)), (.int 1), true), (false, (.op2 .lcmp (.op2 .frem (.op2 .iand (.op2 .iushr (.arg 0) (.int 3)) (.int 7)) (.int 0)) (.int 0)), (.int 1), true), (false, (.op2 .lcmp (.op2 .frem (.op2 .iand (.arg 0) (.int 7)) (.int 0)) (.int 0)), (.int 1), true)] := Okk.fork nd31 nd32
set_option maxRecDepth 1000000 in
theorem nd34 : Okk (rn_0 0 3) [(false, (.op2 .frem (.op2 .iand (.op2 .iushr (.arg 0) (.int 6)) (.int 7)) (.int 0)), (.int 10), true), (false, (.op2 .lcmp (.op2 .frem (.op2 .iand (.op2 .iushr (.arg 0) (.int 6)) (.int 7)) (.int 0)) (.int 0)), (.int 1), false), (false, (.op2 .lcmp (.op2 .frem (.op2 .iand (.op2 .iushr (.arg 0) (.int 3)) (.int 7)) (.int 0)) (.int 0)), (.int 1), true), (false, (.op2 .lcmp (.op2 .frem (.op2 .iand (.arg 0) (.int 7)) (.int 0)) (.int 0)), (.int 1), true)] := Okk.leaf (by decide +kernel)
set_option maxRecDepth 1000000 in
theorem nd35 : Okk (rn_0 0 3) [(false, (.op2 .frem (.op2 .iand (.op2 .iushr (.arg 0) (.int 6)) (.int 7)) (.int 0)), (.int 123), true), (false, (.op2 .lcmp (.op2 .frem (.op2 .iand (.op2 .iushr (.arg 0) (.int 6)) (.int 7)) (.int 0)) (.int 0)), (.int 1), false), (false, (.op2 .lcmp (.op2 .frem (.op2 .iand (.op2 .iushr (.arg 0) (.int 3)) (.int 7)) (.int 0)) (.int 0)), (.int 1), true), (false, (.op2 .lcmp (.op2 .frem (.op2 .iand (.arg 0) (.int 7)) (.int 0)) (.int 0)), (.int 1), true)] := Okk.leaf (by decide +kernel)
set_option maxRecDepth 1000000 in
theorem nd36 : Okk (rn_0 0 3) [(false, (.op2 .frem (.op2 .iand (.op2 .iushr (.arg 0) (.int 6)) (.int 7)) (.int 0)), (.int 125), true), (false, (.op2 .lcmp (.op2 .frem (.op2 .iand (.op2 .iushr (.arg 0) (.int 6)) (.int 7)) (.int 0)) (.int 0)), (.int 1), false), (false, (.op2 .lcmp (.op2 .frem (.op2 .iand (.op2 .iushr (.arg 0) (.int 3)) (.int 7)) (.int 0)) (.int 0)), (.int 1), true), (false, (.op2 .lcmp (.op2 .frem (.op2 .iand (.arg 0) (.int 7)) (.int 0)) (.int 0)), (.int 1), true)] := Okk.leaf (by decide +kernel)
set_option maxRecDepth 1000000 in
theorem nd37 : Okk (rn_0 0 3) [(false, (.op2 .frem (.op2 .iand (.op2 .iushr (.arg 0) (.int 6)) (.int 7)) (.int 0)), (.int 11), true), (false, (.op2 .lcmp (.op2 .frem (.op2 .iand (.op2 .iushr (.arg 0) (.int 6)) (.int 7)) (.int 0)) (.int 0)), (.int 1), false), (false, (.op2 .lcmp (.op2 .frem (.op2 .iand (.op2 .iushr (.arg 0) (.int 3)) (.int 7)) (.int 0)) (.int 0)), (.int 1), true), (false, (.op2 .lcmp (.op2 .frem (.op2 .iand (.arg 0) (.int 7)) (.int 0)) (.int 0)), (.int 1), true)] := Okk.leaf (by decide +kernel)
set_option maxRecDepth 1000000 in
theorem nd38 : Okk (rn_0 0 3) [(false, (.op2 .frem (.op2 .iand (.op2 .iushr (.arg 0) (.int 6)) (.int 7)) (.int 0)), (.int (-30)), true), (false, (.op2 .lcmp (.op2 .frem (.op2 .iand (.op2 .iushr (.arg 0) (.int 6)) (.int 7)) (.int 0)) (.int 0)), (.int 1), false), (false, (.op2 .lcmp (.op2 .frem (.op2 .iand (.op2 .iushr (.arg 0) (.int 3)) (.int 7)) (.int 0)) (.int 0)), (.int 1), true), (false, (.op2 .lcmp (.op2 .frem (.op2 .iand (.arg 0) (.int 7)) (.int 0)) (.int 0)), (.int 1), true)] := Okk.leaf (by decide +kernel)
theorem nd39 : Okk (rn_0 0 3) [(false, (.op2 .lcmp (.op2 .frem (.op2 .iand (.op2 .iushr (.arg 0) (.int 6)) (.int 7)) (.int 0)) (.int 0)), (.int 1), false), (false, (.op2 .lcmp (.op2 .frem (.op2 .iand (.op2 .iushr (.arg 0) (.int 3)) (.int 7)) (.int 0)) (.int 0)), (.int 1), true), (false, (.op2 .lcmp (.op2 .frem (.op2 .iand (.arg 0) (.int 7)) (.int 0)) (.int 0)), (.int 1), true)] := Okk.tab (by decide +kernel) nd34 nd35 nd36 nd37 nd38
theorem nd40 : Okk (rn_0 0 3) [(false, (.op2 .lcmp (.op2 .frem (.op2 .iand (.op2 .iushr (.arg 0) (.int 3)) (.int 7)) (.int 0)) (.int 0)), (.int 1), true), (false, (.op2 .lcmp (.op2 .frem (.op2 .iand (.arg 0) (.int 7)) (.int 0)) (.int 0)), (.int 1), true)] := Okk.fork nd33 nd39
set_option maxRecDepth 1000000 in
theorem nd41 : Okk (rn_0 0 3) [(false, (.op2 .frem (.op2 .iand (.op2 .iushr (.arg 0) (.int 3)) (.int 7)) (.int 0)), (.int 10), true), (false, (.op2 .lcmp (.op2 .frem (.op2 .iand (.op2 .iushr (.arg 0) (.int 3)) (.int 7)) (.int 0)) (.int 0)), (.int 1), false), (false, (.op2 .lcmp (.op2 .frem (.op2 .iand (.arg 0) (.int 7)) (.int 0)) (.int 0)), (.int 1), true)] := Okk.leaf (by decide +kernel)
set_option maxRecDepth 1000000 in
theorem nd42 : Okk (rn_0 0 3) [(false, (.op2 .frem (.op2 .iand (.op2 .iushr (.arg 0) (.int 3)) (.int 7)) (.int 0)), (.int 123), true), (false, (.op2 .lcmp (.op2 .frem (.op2 .iand (.op2 .iushr (.arg 0) (.int 3)) (.int 7)) (.int 0)) (.int 0)), (.int 1), false), (false, (.op2 .lcmp (.op2 .frem (.op2 .iand (.arg 0) (.int 7)) (.int 0)) (.int 0)), (.int 1), true)] := Okk.leaf (by decide +kernel)
set_option maxRecDepth 1000000 in
theorem nd43 : Okk (rn_0 0 3) [(false, (.op2 .frem (.op2 .iand (.op2 .iushr (.arg 0) (.int 3)) (.int 7)) (.int 0)), (.int 125), true), (false, (.op2 .lcmp (.op2 .frem (.op2 .iand (.op2 .iushr (.arg 0) (.int 3)) (.int 7)) (.int 0)) (.int 0)), (.int 1), false), (false, (.op2 .lcmp (.op2 .frem (.op2 .iand (.arg 0) (.int 7)) (.int 0)) (.int 0)), (.int 1), true)] := Okk.leaf (by decide +kernel)
set_option maxRecDepth 1000000 in
theorem nd44 : Okk (rn_0 0 3) [(false, (.op2 .frem (.op2 .iand (.op2 .iushr (.arg 0) (.int 3)) (.int 7)) (.int 0)), (.int 11), true), (false, (.op2 .lcmp (.op2 .frem (.op2 .iand (.op2 .iushr (.arg 0) (.int 3)) (.int 7)) (.int 0)) (.int 0)), (.int 1), false), (false, (.op2 .lcmp (.op2 .frem (.op2 .iand (.arg 0) (.int 7)) (.int 0)) (.int 0)), (.int 1), true)] := Okk.leaf (by decide +kernel)
set_option maxRecDepth 1000000 in
theorem nd45 : Okk (rn_0 0 3) [(false, (.op2 .frem (.op2 .iand (.op2 .iushr (.arg 0) (.int 3)) (.int 7)) (.int 0)), (.int (-30)), true), (false, (.op2 .lcmp (.op2 .frem (.op2 .iand (.op2 .iushr (.arg 0) (.int 3)) (.int 7)) (.int 0)) (.int 0)), (.int 1), false), (false, (.op2 .lcmp (.op2 .frem (.op2 .iand (.arg 0) (.int 7)) (.int 0)) (.int 0)), (.int 1), true)] := Okk.leaf (by decide +kernel)
theorem nd46 : Okk (rn_0 0 3) [(false, (.op2 .lcmp (.op2 .frem (.op2 .iand (.op2 .iushr (.arg 0) (.int 3)) (.int 7)) (.int 0)) (.int 0)), (.int 1), false), (false, (.op2 .lcmp (.op2 .frem (.op2 .iand (.arg 0) (.int 7)) (.int 0)) (.int 0)), (.int 1), true)] := Okk.tab (by decide +kernel) nd41 nd42 nd43 nd44 nd45
theorem nd47 : Okk (rn_0 0 3) [(false, (.op2 .lcmp (.op2 .frem (.op2 .iand (.arg 0) (.int 7)) (.int 0)) (.int 0)), (.int 1), true)] := Okk.fork nd40 nd46
set_option maxRecDepth 1000000 in
theorem nd48 : Okk (rn_0 0 3) [(false, (.op2 .frem (.op2 .iand (.arg 0) (.int 7)) (.int 0)), (.int 10), true), (false, (.op2 .lcmp (.op2 .frem (.op2 .iand (.arg 0) (.int 7)) (.int 0)) (.int 0)), (.int 1), false)] := Okk.leaf (by decide +kernel)
set_option maxRecDepth 1000000 in
theorem nd49 : Okk (rn_0 0 3) [(false, (.op2 .frem (.op2 .iand (.arg 0) (.int 7)) (.int 0)), (.int 123), true), (false, (.op2 .lcmp (.op2 .frem (.op2 .iand (.arg 0) (.int 7)) (.int 0)) (.int 0)), (.int 1), false)] := Okk.leaf (by decide +kernel)
set_option maxRecDepth 1000000 in
theorem nd50 : Okk (rn_0 0 3) [(false, (.op2 .frem (.op2 .iand (.arg 0) (.int 7)) (.int 0)), (.int 125), true), (false, (.op2 .lcmp (.op2 .frem (.op2 .iand (.arg 0) (.int 7)) (.int 0)) (.int 0)), (.int 1), false)] := Okk.leaf (by decide +kernel)
set_option maxRecDepth 1000000 in
theorem nd51 : Okk (rn_0 0 3) [(false, (.op2 .frem (.op2 .iand (.arg 0) (.int 7)) (.int 0)), (.int 11), true), (false, (.op2 .lcmp (.op2 .frem (.op2 .iand (.arg 0) (.int 7)) (.int 0)) (.int 0)), (.int 1), false)] := Okk.leaf (by decide +kernel)
set_option maxRecDepth 1000000 in
theorem nd52 : Okk (rn_0 0 3) [(false, (.op2 .frem (.op2 .iand (.arg 0) (.int 7)) (.int 0)), (.int (-30)), true), (false, (.op2 .lcmp (.op2 .frem (.op2 .iand (.arg 0) (.int 7)) (.int 0)) (.int 0)), (.int 1), false)] := Okk.leaf (by decide +kernel)
theorem nd53 : Okk (rn_0 0 3) [(false, (.op2 .lcmp (.op2 .frem (.op2 .iand (.arg 0) (.int 7)) (.int 0)) (.int 0)), (.int 1), false)] := Okk.tab (by decide +kernel) nd48 nd49 nd50 nd51 nd52
theorem nd54 : Okk (rn_0 0 3) [] := Okk.fork nd47 nd53
set_option maxRecDepth 1000000 in
theorem nd55 : Okk (rn_0 0 4) [(false, (.op2 .dcmpl (.op2 .iand (.arg 3) (.int 1)) (.int 0)), (.int 0), true), (false, (.op2 .lcmp (.op2 .frem (.op2 .iand (.op2 .iushr (.arg 0) (.int 9)) (.int 7)) (.int 0)) (.int 0)), (.int 1), true), (false, (.op2 .lcmp (.op2 .frem (.op2 .iand (.op2 .iushr (.arg 0) (.int 6)) (.int 7)) (.int 0)) (.int 0)), (.int 1), true), (false, (.op2 .lcmp (.op2 .frem (.op2 .iand (.op2 .iushr (.arg 0) (.int 3)) (.int 7)) (.int 0)) (.int 0)), (.int 1), true), (false, (.op2 .lcmp (.op2 .frem (.op2 .iand (.arg 0) (.int 7)) (.int 0)) (.int 0)), (.int 1), true)] := Okk.leaf (by decide +kernel)
set_option maxRecDepth 1000000 in
theorem nd56 : Okk (rn_0 0 4) [(false, (.op2 .dcmpl (.op2 .iand (.arg 3) (.int 1)) (.int 0)), (.int 0), false), (false, (.op2 .lcmp (.op2 .frem (.op2 .iand (.op2 .iushr (.arg 0) (.int 9)) (.int 7)) (.int 0)) (.int 0)), (.int 1), true), (false, (.op2 .lcmp (.op2 .frem (.op2 .iand (.op2 .iushr (.arg 0) (.int 6)) (.int 7)) (.int 0)) (.int 0)), (.int 1), true), (false, (.op2 .lcmp (.op2 .frem (.op2 .iand (.op2 .iushr (.arg 0) (.int 3)) (.int 7)) (.int 0)) (.int 0)), (.int 1), true), (false, (.op2 .lcmp (.op2 .frem (.op2 .iand (.arg 0) (.int 7)) (.int 0)) (.int 0)), (.int 1), true)] := Okk.leaf (by decide +kernel)
theorem nd57 : Okk (rn_0 0 4) [(false, (.op2 .lcmp (.op2 .frem (.op2 .iand (.op2 .iushr (.arg 0) (.int 9)) (.int 7)) (.int 0)) (.int 0)), (.int 1), true), (false, (.op2 .lcmp (.op2 .frem (.op2 .iand (.op2 .iushr (.arg 0) (.int 6)) (.int 7)) (.int 0)) (.int 0)), (.int 1), true), (false, (.op2 .lcmp (.op2 .frem (.op2 .iand (.op2 .iushr (.arg 0) (.int 3)) (.int 7)) (.int 0)) (.int 0)), (.int 1), true), (false, (.op2 .lcmp (.op2 .frem (.op2 .iand (.arg 0) (.int 7)) (.int 0)) (.int 0)), (.int 1), true)] := Okk.fork nd55 nd56
set_option maxRecDepth 1000000 in
theorem nd58 : Okk (rn_0 0 4) [(false, (.op2 .frem (.op2 .iand (.op2 .iushr (.arg 0) (.int 9)) (.int 7)) (.int 0)), (.int 10), true), (false, (.op2 .lcmp (.op2 .frem (.op2 .iand (.op2 .iushr (.arg 0) (.int 9)) (.int 7)) (.int 0)) (.int 0)), (.int 1), false), (false, (.op2 .lcmp (.op2 .frem (.op2 .iand (.op2 .iushr (.arg 0) (.int 6)) (.int 7)) (.int 0)) (.int 0)), (.int 1), true), (false, (.op2 .lcmp (.op2 .frem (.op2 .iand (.op2 .iushr (.arg 0) (.int 3)) (.int 7)) (.int 0)) (.int 0)), (.int 1), true), (false, (.op2 .lcmp (.op2 .frem (.op2 .iand (.arg 0) (.int 7)) (.int 0)) (.int 0)), (.int 1), true)] := Okk.leaf (by decide +kernel)
set_option maxRecDepth 1000000 in
theorem nd59 : Okk (rn_0 0 4) [(false, (.op2 .frem (.op2 .iand (.op2 .iushr (.arg 0) (.int 9)) (.int 7)) (.int 0)), (.int 123), true), (false, (.op2 .lcmp (.op2 .frem (.op2 .iand (.op2 .iushr (.arg 0) (.int 9)) (.int 7)) (.int 0)) (.int 0)), (.int 1), false), (false, (.op2 .lcmp (.op2 .frem (.op2 .iand (.op2 .iushr (.arg 0) (.int 6)) (.int 7)) (.int 0)) (.int 0)), (.int 1), true), (false, (.op2 .lcmp (.op2 .frem (.op2 .iand (.op2 .iushr (.arg 0) (.int 3)) (.int 7)) (.int 0)) (.int 0)), (.int 1), true), (false, (.op2 .lcmp (.op2 .frem (.op2 .iand (.arg 0) (.int 7)) (.int 0)) (.int 0)), (.int 1), true)] := Okk.leaf (by decide +kernel)
set_option maxRecDepth 1000000 in
theorem nd60 : Okk (rn_0 0 4) [(false, (.op2 .frem (.op2 .iand (.op2 .iushr (.arg 0) (.int 9)) (.int 7)) (.int 0)), (.int 125), true), (false, (.op2 .lcmp (.op2 .frem (.op2 .iand (.op2 .iushr (.arg 0) (.int 9)) (.int 7)) (.int 0)) (.int 0)), (.int 1), false), (false, (.op2 .lcmp (.op2 .frem (.op2 .iand (.op2 .iushr (.arg 0) (.int 6)) (.int 7)) (.int 0)) (.int 0)), (.int 1), true), (false, (.op2 .lcmp (.op2 .frem (.op2 .iand (.op2 .iushr (.arg 0) (.int 3)) (.int 7)) (.int 0)) (.int 0)), (.int 1), true), (false, (.op2 .lcmp (.op2 .frem (.op2 .iand (.arg 0) (.int 7)) (.int 0)) (.int 0)), (.int 1), true)] := Okk.leaf (by decide +kernel)
set_option maxRecDepth 1000000 in
theorem nd61 : Okk (rn_0 0 4) [(false, (.op2 .frem (.op2 .iand (.op2 .iushr (.arg 0) (.int 9)) (.int 7)) (.int 0)), (.int 11), true), (false, (.op2 .lcmp (.op2 .frem (.op2 .iand (.op2 .iushr (.arg 0) (.int 9)) (.int 7)) (.int 0)) (.int 0)), (.int 1), false), (false, (.op2 .lcmp (.op2 .frem (.op2 .iand (.op2 .iushr (.arg 0) (.int 6)) (.int 7)) (.int 0)) (.int 0)), (.int 1), true), (false, (.op2 .lcmp (.op2 .frem (.op2 .iand (.op2 .iushr (.arg 0) (.int 3)) (.int 7)) (.int 0)) (.int 0)), (.int 1), true), (false, (.op2 .lcmp (.op2 .frem (.op2 .iand (.arg 0) (.int 7)) (.int 0)) (.int 0)), (.int 1), true)] := Okk.leaf (by decide +kernel)
set_option maxRecDepth 1000000 in
theorem nd62 : Okk (rn_0 0 4) [(false, (.op2 .frem (.op2 .iand (.op2 .iushr (.arg 0) (.int 9)) (.int 7)) (.int 0)), (.int (-30)), true), (false, (.op2 .lcmp (.op2 .frem (.op2 .iand (.op2 .iushr (.arg 0) (.int 9)) (.int 7)) (.int 0)) (.int 0)), (.int 1), false), (false, (.op2 .lcmp (.op2 .frem (.op2 .iand (.op2 .iushr (.arg 0) (.int 6)) (.int 7)) (.int 0)) (.int 0)), (.int 1), true), (false, (.op2 .lcmp (.op2 .frem (.op2 .iand (.op2 .iushr (.arg 0) (.int 3)) (.int 7)) (.int 0)) (.int 0)), (.int 1), true), (false, (.op2 .lcmp (.op2 .frem (.op2 .iand (.arg 0) (.int 7)) (.int 0)) (.int 0)), (.int 1), true)] := Okk.leaf (by decide +kernel)
theorem nd63 : Okk (rn_0 0 4) [(false, (.op2 .lcmp (.op2 .frem (.op2 .iand (.op2 .iushr (.arg 0) (.int 9)) (.int 7)) (.int 0)) (.int 0)), (.int 1), false), (false, (.op2 .lcmp (.op2 .frem (.op2 .iand (.op2 .iushr (.arg 0) (.int 6)) (.int 7)) (.int 0)) (.int 0)), (.int 1), true), (false, (.op2 .lcmp (.op2 .frem (.op2 .iand (.op2 .iushr (.arg 0) (.int 3)) (.int 7)) (.int 0)) (.int 0)), (.int 1), true), (false, (.op2 .lcmp (.op2 .frem (.op2 .iand (.arg 0) (.int 7)) (.int 0)) (.int 0)), (.int 1), true)] := Okk.tab (by decide +kernel) nd58 nd59 nd60 nd61 nd62
theorem nd64 : Okk (rn_0 0 4) [(false, (.op2 .lcmp (.op2 .frem (.op2 .iand (.op2 .iushr (.arg 0) (.int 6)) (.int 7)) (.int 0)) (.int 0)), (.int 1), true), (false, (.op2 .lcmp (.op2 .frem (.op2 .iand (.op2 .iushr (.arg 0) (.int 3)) (.int 7)) (.int 0)) (.int 0)), (.int 1), true), (false, (.op2 .lcmp (.op2 .frem (.op2 .iand (.arg 0) (.int 7)) (.int 0)) (.int 0)), (.int 1), true)] := Okk.fork nd57 nd63
set_option maxRecDepth 1000000 in
theorem nd65 : Okk (rn_0 0 4) [(false, (.op2 .frem (.op2 .iand (.op2 .iushr (.arg 0) (.int 6)) (.int 7)) (.int 0)), (.int 10), true), (false, (.op2 .lcmp (.op2 .frem (.op2 .iand (.op2 .iushr (.arg 0) (.int 6)) (.int 7)) (.int 0)) (.int 0)), (.int 1), false), (false, (.op2 .lcmp (.op2 .frem (.op2 .iand (.op2 .iushr (.arg 0) (.int 3)) (.int 7)) (.int 0)) (.int 0)), (.int 1), true), (false, (.op2 .lcmp (.op2 .frem (.op2 .iand (.arg 0) (.int 7)) (.int 0)) (.int 0)), (.int 1), true)] := Okk.leaf (by decide +kernel)
set_option maxRecDepth 1000000 in
theorem nd66 : Okk (rn_0 0 4) [(false, (.op2 .frem (.op2 .iand (.op2 .iushr (.arg 0) (.int 6)) (.int 7)) (.int 0)), (.int 123), true), (false, (.op2 .lcmp (.op2 .frem (.op2 .iand (.op2 .iushr (.arg 0) (.int 6)) (.int 7)) (.int 0)) (.int 0)), (.int 1), false), (false, (.op2 .lcmp (.op2 .frem (.op2 .iand (.op2 .iushr (.arg 0) (.int 3)) (.int 7)) (.int 0)) (.int 0)), (.int 1), true), (false, (.op2 .lcmp (.op2 .frem (.op2 .iand (.arg 0) (.int 7)) (.int 0)) (.int 0)), (.int 1), true)] := Okk.leaf (by decide +kernel)
set_option maxRecDepth 1000000 in
theorem nd67 : Okk (rn_0 0 4) [(false, (.op2 .frem (.op2 .iand (.op2 .iushr (.arg 0) (.int 6)) (.int 7)) (.int 0)), (.int 125), true), (false, (.op2 .lcmp (.op2 .frem (.op2 .iand (.op2 .iushr (.arg 0) (.int 6)) (.int 7)) (.int 0)) (.int 0)), (.int 1), false), (false, (.op2 .lcmp (.op2 .frem (.op2 .iand (.op2 .iushr (.arg 0) (.int 3)) (.int 7)) (.int 0)) (.int 0)), (.int 1), true), (false, (.op2 .lcmp (.op2 .frem (.op2 .iand (.arg 0) (.int 7)) (.int 0)) (.int 0)), (.int 1), true)] := Okk.leaf (by decide +kernel)
set_option maxRecDepth 1000000 in
theorem nd68 : Okk (rn_0 0 4) [(false, (.op2 .frem (.op2 .iand (.op2 .iushr (.arg 0) (.int 6)) (.int 7)) (.int 0)), (.int 11), true), (false, (.op2 .lcmp (.op2 .frem (.op2 .iand (.op2 .iushr (.arg 0) (.int 6)) (.int 7)) (.int 0)) (.int 0)), (.int 1), false), (false, (.op2 .lcmp (.op2 .frem (.op2 .iand (.op2 .iushr (.arg 0) (.int 3)) (.int 7)) (.int 0)) (.int 0)), (.int 1), true), (false, (.op2 .lcmp (.op2 .frem (.op2 .iand (.arg 0) (.int 7)) (.int 0)) (.int 0)), (.int 1), true)] := Okk.leaf (by decide +kernel)
set_option maxRecDepth 1000000 in
theorem nd69 : Okk (rn_0 0 4) [(false, (.op2 .frem (.op2 .iand (.op2 .iushr (.arg 0) (.int 6)) (.int 7)) (.int 0)), (.int (-30)), true), (false, (.op2 .lcmp (.op2 .frem (.op2 .iand (.op2 .iushr (.arg 0) (.int 6)) (.int 7)) (.int 0)) (.int 0)), (.int 1), false), (false, (.op2 .lcmp (.op2 .frem (.op2 .iand (.op2 .iushr (.arg 0) (.int 3)) (.int 7)) (.int 0)) (.int 0)), (.int 1), true), (false, (.op2 .lcmp (.op2 .frem (.op2 .iand (.arg 0) (.int 7)) (.int 0)) (.int 0)), (.int 1), true)] := Okk.leaf (by decide +kernel)
theorem nd70 : Okk (rn_0 0 4) [(false, (.op2 .lcmp (.op2 .frem (.op2 .iand (.op2 .iushr (.arg 0) (.int 6)) (.int 7)) (.int 0)) (.int 0)), (.int 1), false), (false, (.op2 .lcmp (.op2 .frem (.op2 .iand (.op2 .iushr (.arg 0) (.int 3)) (.int 7)) (.int 0)) (.int 0)), (.int 1), true), (false, (.op2 .lcmp (.op2 .frem (.op2 .iand (.arg 0) (.int 7)) (.int 0)) (.int 0)), (.int 1), true)] := Okk.tab (by decide +kernel) nd65 nd66 nd67 nd68 nd69
theorem nd71 : Okk (rn_0 0 4) [(false, (.op2 .lcmp (.op2 .frem (.op2 .iand (.op2 .iushr (.arg 0) (.int 3)) (.int 7)) (.int 0)) (.int 0)), (.int 1), true), (false, (.op2 .lcmp (.op2 .frem (.op2 .iand (.arg 0) (.int 7)) (.int 0)) (.int 0)), (.int 1), true)] := Okk.fork nd64 nd70
set_option maxRecDepth 1000000 in
theorem nd72 : Okk (rn_0 0 4) [(false, (.op2 .frem (.op2 .iand (.op2 .iushr (.arg 0) (.int 3)) (.int 7)) (.int 0)), (.int 10), true), (false, (.op2 .lcmp (.op2 .frem (.op2 .iand (.op2 .iushr (.arg 0) (.int 3)) (.int 7)) (.int 0)) (.int 0)), (.int 1), false), (false, (.op2 .lcmp (.op2 .frem (.op2 .iand (.arg 0) (.int 7)) (.int 0)) (.int 0)), (.int 1), true)] := Okk.leaf (by decide +kernel)
set_option maxRecDepth 1000000 in
theorem nd73 : Okk (rn_0 0 4) [(false, (.op2 .frem (.op2 .iand (.op2 .iushr (.arg 0) (.int 3)) (.int 7)) (.int 0)), (.int 123), true), (false, (.op2 .lcmp (.op2 .frem (.op2 .iand (.op2 .iushr (.arg 0) (.int 3)) (.int 7)) (.int 0)) (.int 0)), (.int 1), false), (false, (.op2 .lcmp (.op2 .frem (.op2 .iand (.arg 0) (.int 7)) (.int 0)) (.int 0)), (.int 1), true)] := Okk.leaf (by decide +kernel)
set_option maxRecDepth 1000000 in
theorem nd74 : Okk (rn_0 0 4) [(false, (.op2 .frem (.op2 .iand (.op2 .iushr (.arg 0) (.int 3)) (.int 7)) (.int 0)), (.int 125), true), (false, (.op2 .lcmp (.op2 .frem (.op2 .iand (.op2 .iushr (.arg 0) (.int 3)) (.int 7)) (.int 0)) (.int 0)), (.int 1), false), (false, (.op2 .lcmp (.op2 .frem (.op2 .iand (.arg 0) (.int 7)) (.int 0)) (.int 0)), (.int 1), true)] := Okk.leaf (by decide +kernel)
set_option maxRecDepth 1000000 in
theorem nd75 : Okk (rn_0 0 4) [(false, (.op2 .frem (.op2 .iand (.op2 .iushr (.arg 0) (.int 3)) (.int 7)) (.int 0)), (.int 11), true), (false, (.op2 .lcmp (.op2 .frem (.op2 .iand (.op2 .iushr (.arg 0) (.int 3)) (.int 7)) (.int 0)) (.int 0)), (.int 1), false), (false, (.op2 .lcmp (.op2 .frem (.op2 .iand (.arg 0) (.int 7)) (.int 0)) (.int 0)), (.int 1), true)] := Okk.leaf (by decide +kernel)
set_option maxRecDepth 1000000 in
theorem nd76 : Okk (rn_0 0 4) [(false, (.op2 .frem (.op2 .iand (.op2 .iushr (.arg 0) (.int 3)) (.int 7)) (.int 0)), (.int (-30)), true), (false, (.op2 .lcmp (.op2 .frem (.op2 .iand (.op2 .iushr (.arg 0) (.int 3)) (.int 7)) (.int 0)) (.int 0)), (.int 1), false), (false, (.op2 .lcmp (.op2 .frem (.op2 .iand (.arg 0) (.int 7)) (.int 0)) (.int 0)), (.int 1), true)] := Okk.leaf (by decide +kernel)
theorem nd77 : Okk (rn_0 0 4) [(false, (.op2 .lcmp (.op2 .frem (.op2 .iand (.op2 .iushr (.arg 0) (.int 3)) (.int 7)) (.int 0)) (.int 0)), (.int 1), false), (false, (.op2 .lcmp (.op2 .frem (.op2 .iand (.arg 0) (.int 7)) (.int 0)) (.int 0)), (.int 1), true)] := Okk.tab (by decide +kernel) nd72 nd73 nd74 nd75 nd76
theorem nd78 : Okk (rn_0 0 4) [(false, (.op2 .lcmp (.op2 .frem (.op2 .iand (.arg 0) (.int 7)) (.int 0)) (.int 0)), (.int 1), true)] := Okk.fork nd71 nd77
set_option maxRecDepth 1000000 in
theorem nd79 : Okk (rn_0 0 4) [(false, (.op2 .frem (.op2 .iand (.arg 0) (.int 7)) (.int 0)), (.int 10), true), (false, (.op2 .lcmp (.op2 .frem (.op2 .iand (.arg 0) (.int 7)) (.int 0)) (.int 0)), (.int 1), false)] := Okk.leaf (by decide +kernel)
set_option maxRecDepth 1000000 in
theorem nd80 : Okk (rn_0 0 4) [(false, (.op2 .frem (.op2 .iand (.arg 0) (.int 7)) (.int 0)), (.int 123), true), (false, (.op2 .lcmp (.op2 .frem (.op2 .iand (.arg 0) (.int 7)) (.int 0)) (.int 0)), (.int 1), false)] := Okk.leaf (by decide +kernel)
set_option maxRecDepth 1000000 in
theorem nd81 : Okk (rn_0 0 4) [(false, (.op2 .frem (.op2 .iand (.arg 0) (.int 7)) (.int 0)), (.int 125), true), (false, (.op2 .lcmp (.op2 .frem (.op2 .iand (.arg 0) (.int 7)) (.int 0)) (.int 0)), (.int 1), false)] := Okk.leaf (by decide +kernel)
set_option maxRecDepth 1000000 in
theorem nd82 : Okk (rn_0 0 4) [(false, (.op2 .frem (.op2 .iand (.arg 0) (.int 7)) (.int 0)), (.int 11), true), (false, (.op2 .lcmp (.op2 .frem (.op2 .iand (.arg 0) (.int 7)) (.int 0)) (.int 0)), (.int 1), false)] := Okk.leaf (by decide +kernel)
set_option maxRecDepth 1000000 in
theorem nd83 : Okk (rn_0 0 4) [(false, (.op2 .frem (.op2 .iand (.arg 0) (.int 7)) (.int 0)), (.int (-30)), true), (false, (.op2 .lcmp (.op2 .frem (.op2 .iand (.arg 0) (.int 7)) (.int 0)) (.int 0)), (.int 1), false)] := Okk.leaf (by decide +kernel)
theorem nd84 : Okk (rn_0 0 4) [(false, (.op2 .lcmp (.op2 .frem (.op2 .iand (.arg 0) (.int 7)) (.int 0)) (.int 0)), (.int 1), false)] := Okk.tab (by decide +kernel) nd79 nd80 nd81 nd82 nd83
theorem nd85 : Okk (rn_0 0 4) [] := Okk.fork nd78 nd84
set_option maxRecDepth 1000000 in
theorem nd86 : Okk (rn_0 0 5) [(false, (.op2 .dcmpl (.op2 .iand (.arg 3) (.int 1)) (.int 0)), (.int 0), true), (false, (.op2 .lcmp (.op2 .frem (.op2 .iand (.op2 .iushr (.arg 0) (.int 12)) (.int 7)) (.int 0)) (.int 0)), (.int 1), true), (false, (.op2 .lcmp (.op2 .frem (.op2 .iand (.op2 .iushr (.arg 0) (.int 9)) (.int 7)) (.int 0)) (.int 0)), (.int 1), true), (false, (.op2 .lcmp (.op2 .frem (.op2 .iand (.op2 .iushr (.arg 0) (.int 6)) (.int 7)) (.int 0)) (.int 0)), (.int 1), true), (false, (.op2 .lcmp (.op2 .frem (.op2 .iand (.op2 .iushr (.arg 0) (.int 3)) (.int 7)) (.int 0)) (.int 0)), (.int 1), true), (false, (.op2 .lcmp (.op2 .frem (.op2 .iand (.arg 0) (.int 7)) (.int 0)) (.int 0)), (.int 1), true)] := Okk.leaf (by decide +kernel)
set_option maxRecDepth 1000000 in
theorem nd87 : Okk (rn_0 0 5) [(false, (.op2 .dcmpl (.op2 .iand (.arg 3) (.int 1)) (.int 0)), (.int 0), false), (false, (.op2 .lcmp (.op2 .frem (.op2 .iand (.op2 .iushr (.arg 0) (.int 12)) (.int 7)) (.int 0)) (.int 0)), (.int 1), true), (false, (.op2 .lcmp (.op2 .frem (.op2 .iand (.op2 .iushr (.arg 0) (.int 9)) (.int 7)) (.int 0)) (.int 0)), (.int 1), true), (false, (.op2 .lcmp (.op2 .frem (.op2 .iand (.op2 .iushr (.arg 0) (.int 6)) (.int 7)) (.int 0)) (.int 0)), (.int 1), true), (false, (.op2 .lcmp (.op2 .frem (.op2 .iand (.op2 .iushr (.arg 0) (.int 3)) (.int 7)) (.int 0)) (.int 0)), (.int 1), true), (false, (.op2 .lcmp (.op2 .frem (.op2 .iand (.arg 0) (.int 7)) (.int 0)) (.int 0)), (.int 1), true)] := Okk.leaf (by decide +kernel)
theorem nd88 : Okk (rn_0 0 5) [(false, (.op2 .lcmp (.op2 .frem (.op2 .iand (.op2 .iushr (.arg 0) (.int 12)) (.int 7)) (.int 0)) (.int 0)), (.int 1), true), (false, (.op2 .lcmp (.op2 .frem (.op2 .iand (.op2 .iushr (.arg 0) (.int 9)) (.int 7)) (.int 0)) (.int 0)), (.int 1), true), (false, (.op2 .lcmp (.op2 .frem (.op2 .iand (.op2 .iushr (.arg 0) (.int 6)) (.int 7)) (.int 0)) (.int 0)), (.int 1), true), (false, (.op2 .lcmp (.op2 .frem (.op2 .iand (.op2 .iushr (.arg 0) (.int 3)) (.int 7)) (.int 0)) (.int 0)), (.int 1), true), (false, (.op2 .lcmp (.op2 .frem (.op2 .iand (.arg 0) (.int 7)) (.int 0)) (.int 0)), (.int 1), true)] := Okk.fork nd86 nd87
set_option maxRecDepth 1000000 in
theorem nd89 : Okk (rn_0 0 5) [(false, (.op2 .frem (.op2 .iand (.op2 .iushr (.arg 0) (.int 12)) (.int 7)) (.int 0)), (.int 10), true), (false, (.op2 .lcmp (.op2 .frem (.op2 .iand (.op2 .iushr (.arg 0) (.int 12)) (.int 7)) (.int 0)) (.int 0)), (.int 1), false), (false, (.op2 .lcmp (.op2 .frem (.op2 .iand (.op2 .iushr (.arg 0) (.int 9)) (.int 7)) (.int 0)) (.int 0)), (.int 1), true), (false, (.op2 .lcmp (.op2 .frem (.op2 .iand (.op2 .iushr (.arg 0) (.int 6)) (.int 7)) (.int 0)) (.int 0)), (.int 1), true), (false, (.op2 .lcmp (.op2 .frem (.op2 .iand (.op2 .iushr (.arg 0) (.int 3)) (.int 7)) (.int 0)) (.int 0)), (.int 1), true), (false, (.op2 .lcmp (.op2 .frem (.op2 .iand (.arg 0) (.int 7)) (.int 0)) (.int 0)), (.int 1), true)] := Okk.leaf (by decide +kernel)
set_option maxRecDepth 1000000 in
theorem nd90 : Okk (rn_0 0 5) [(false, (.op2 .frem (.op2 .iand (.op2 .iushr (.arg 0) (.int 12)) (.int 7)) (.int 0)), (.int 123), true), (false, (.op2 .lcmp (.op2 .frem (.op2 .iand (.op2 .iushr (.arg 0) (.int 12)) (.int 7)) (.int 0)) (.int 0)), (.int 1), false), (false, (.op2 .lcmp (.op2 .frem (.op2 .iand (.op2 .iushr (.arg 0) (.int 9)) (.int 7)) (.int 0)) (.int 0)), (.int 1), true), (false, (.op2 .lcmp (.op2 .frem (.op2 .iand (.op2 .iushr (.arg 0) (.int 6)) (.int 7)) (.int 0)) (.int 0)), (.int 1), true), (false, (.op2 .lcmp (.op2 .frem (.op2 .iand (.op2 .iushr (.arg 0) (.int 3)) (.int 7)) (.int 0)) (.int 0)), (.int 1), true), (false, (.op2 .lcmp (.op2 .frem (.op2 .iand (.arg 0) (.int 7)) (.int 0)) (.int 0)), (.int 1), true)] := Okk.leaf (by decide +kernel)
set_option maxRecDepth 1000000 in
theorem nd91 : Okk (rn_0 0 5) [(false, (.op2 .frem (.op2 .iand (.op2 .iushr (.arg 0) (.int 12)) (.int 7)) (.int 0)), (.int 125), true), (false, (.op2 .lcmp (.op2 .frem (.op2 .iand (.op2 .iushr (.arg 0) (.int 12)) (.int 7)) (.int 0)) (.int 0)), (.int 1), false), (false, (.op2 .lcmp (.op2 .frem (.op2 .iand (.op2 .iushr (.arg 0) (.int 9)) (.int 7)) (.int 0)) (.int 0)), (.int 1), true), (false, (.op2 .lcmp (.op2 .frem (.op2 .iand (.op2 .iushr (.arg 0) (.int 6)) (.int 7)) (.int 0)) (.int 0)), (.int 1), true), (false, (.op2 .lcmp (.op2 .frem (.op2 .iand (.op2 .iushr (.arg 0) (.int 3)) (.int 7)) (.int 0)) (.int 0)), (.int 1), true), (false, (.op2 .lcmp (.op2 .frem (.op2 .iand (.arg 0) (.int 7)) (.int 0)) (.int 0)), (.int 1), true)] := Okk.leaf (by decide +kernel)
set_option maxRecDepth 1000000 in
theorem nd92 : Okk (rn_0 0 5) [(false, (.op2 .frem (.op2 .iand (.op2 .iushr (.arg 0) (.int 12)) (.int 7)) (.int 0)), (.int 11), true), (false, (.op2 .lcmp (.op2 .frem (.op2 .iand (.op2 .iushr (.arg 0) (.int 12)) (.int 7)) (.int 0)) (.int 0)), (.int 1), false), (false, (.op2 .lcmp (.op2 .frem (.op2 .iand (.op2 .iushr (.arg 0) (.int 9)) (.int 7)) (.int 0)) (.int 0)), (.int 1), true), (false, (.op2 .lcmp (.op2 .frem (.op2 .iand (.op2 .iushr (.arg 0) (.int 6)) (.int 7)) (.int 0)) (.int 0)), (.int 1), true), (false, (.op2 .lcmp (.op2 .frem (.op2 .iand (.op2 .iushr (.arg 0) (.int 3)) (.int 7)) (.int 0)) (.int 0)), (.int 1), true), (false, (.op2 .lcmp (.op2 .frem (.op2 .iand (.arg 0) (.int 7)) (.int 0)) (.int 0)), (.int 1), true)] := Okk.leaf (by decide +kernel)
set_option maxRecDepth 1000000 in
theorem nd93 : Okk (rn_0 0 5) [(false, (.op2 .frem (.op2 .iand (.op2 .iushr (.arg 0) (.int 12)) (.int 7)) (.int 0)), (.int (-30)), true), (false, (.op2 .lcmp (.op2 .frem (.op2 .iand (.op2 .iushr (.arg 0) (.int 12)) (.int 7)) (.int 0)) (.int 0)), (.int 1), false), (false, (.op2 .lcmp (.op2 .frem (.op2 .iand (.op2 .iushr (.arg 0) (.int 9)) (.int 7)) (.int 0)) (.int 0)), (.int 1), true), (false, (.op2 .lcmp (.op2 .frem (.op2 .iand (.op2 .iushr (.arg 0) (.int 6)) (.int 7)) (.int 0)) (.int 0)), (.int 1), true), (false, (.op2 .lcmp (.op2 .frem (.op2 .iand (.op2 .iushr (.arg 0) (.int 3)) (.int 7)) (.int 0)) (.int 0)), (.int 1), true), (false, (.op2 .lcmp (.op2 .frem (.op2 .iand (.arg 0) (.int 7)) (.int 0)) (.int 0)), (.int 1), true)] := Okk.leaf (by decide +kernel)
theorem nd94 : Okk (rn_0 0 5) [(false, (.op2 .lcmp (.op2 .frem (.op2 .iand (.op2 .iushr (.arg 0) (.int 12)) (.int 7)) (.int 0)) (.int 0)), (.int 1), false), (false, (.op2 .lcmp (.op2 .frem (.op2 .iand (.op2 .iushr (.arg 0) (.int 9)) (.int 7)) (.int 0)) (.int 0)), (.int 1), true), (false, (.op2 .lcmp (.op2 .frem (.op2 .iand (.op2 .iushr (.arg 0) (.int 6)) (.int 7)) (.int 0)) (.int 0)), (.int 1), true), (false, (.op2 .lcmp (.op2 .frem (.op2 .iand (.op2 .iushr (.arg 0) (.int 3)) (.int 7)) (.int 0)) (.int 0)), (.int 1), true), (false, (.op2 .lcmp (.op2 .frem (.op2 .iand (.arg 0) (.int 7)) (.int 0)) (.int 0)), (.int 1), true)] := Okk.tab (by decide +kernel) nd89 nd90 nd91 nd92 nd93
theorem nd95 : Okk (rn_0 0 5) [(false, (.op2 .lcmp (.op2 .frem (.op2 .iand (.op2 .iushr (.arg 0) (.int 9)) (.int 7)) (.int 0)) (.int 0)), (.int 1), true), (false, (.op2 .lcmp (.op2 .frem (.op2 .iand (.op2 .iushr (.arg 0) (.int 6)) (.int 7)) (.int 0)) (.int 0)), (.int 1), true), (false, (.op2 .lcmp (.op2 .frem (.op2 .iand (.op2 .iushr (.arg 0) (.int 3)) (.int 7)) (.int 0)) (.int 0)), (.int 1), true), (false, (.op2 .lcmp (.op2 .frem (.op2 .iand (.arg 0) (.int 7)) (.int 0)) (.int 0)), (.int 1), true)] := Okk.fork nd88 nd94
set_option maxRecDepth 1000000 in
theorem nd96 : Okk (rn_0 0 5) [(false, (.op2 .frem (.op2 .iand (.op2 .iushr (.arg 0) (.int 9)) (.int 7)) (.int 0)), (.int 10), true), (false, (.op2 .lcmp (.op2 .frem (.op2 .iand (.op2 .iushr (.arg 0) (.int 9)) (.int 7)) (.int 0)) (.int 0)), (.int 1), false), (false, (.op2 .lcmp (.op2 .frem (.op2 .iand (.op2 .iushr (.arg 0) (.int 6)) (.int 7)) (.int 0)) (.int 0)), (.int 1), true), (false, (.op2 .lcmp (.op2 .frem (.op2 .iand (.op2 .iushr (.arg 0) (.int 3)) (.int 7)) (.int 0)) (.int 0)), (.int 1), true), (false, (.op2 .lcmp (.op2 .frem (.op2 .iand (.arg 0) (.int 7)) (.int 0)) (.int 0)), (.int 1), true)] := Okk.leaf (by decide +kernel)
set_option maxRecDepth 1000000 in
theorem nd97 : Okk (rn_0 0 5) [(false, (.op2 .frem (.op2 .iand (.op2 .iushr (.arg 0) (.int 9)) (.int 7)) (.int 0)), (.int 123), true), (false, (.op2 .lcmp (.op2 .frem (.op2 .iand (.op2 .iushr (.arg 0) (.int 9)) (.int 7)) (.int 0)) (.int 0)), (.int 1), false), (false, (.op2 .lcmp (.op2 .frem (.op2 .iand (.op2 .iushr (.arg 0) (.int 6)) (.int 7)) (.int 0)) (.int 0)), (.int 1), true), (false, (.op2 .lcmp (.op2 .frem (.op2 .iand (.op2 .iushr (.arg 0) (.int 3)) (.int 7)) (.int 0)) (.int 0)), (.int 1), true), (false, (.op2 .lcmp (.op2 .frem (.op2 .iand (.arg 0) (.int 7)) (.int 0)) (.int 0)), (.int 1), true)] := Okk.leaf (by decide +kernel)
set_option maxRecDepth 1000000 in
theorem nd98 : Okk (rn_0 0 5) [(false, (.op2 .frem (.op2 .iand (.op2 .iushr (.arg 0) (.int 9)) (.int 7)) (.int 0)), (.int 125), true), (false, (.op2 .lcmp (.op2 .frem (.op2 .iand (.op2 .iushr (.arg 0) (.int 9)) (.int 7)) (.int 0)) (.int 0)), (.int 1), false), (false, (.op2 .lcmp (.op2 .frem (.op2 .iand (.op2 .iushr (.arg 0) (.int 6)) (.int 7)) (.int 0)) (.int 0)), (.int 1), true), (false, (.op2 .lcmp (.op2 .frem (.op2 .iand (.op2 .iushr (.arg 0) (.int 3)) (.int 7)) (.int 0)) (.int 0)), (.int 1), true), (false, (.op2 .lcmp (.op2 .frem (.op2 .iand (.arg 0) (.int 7)) (.int 0)) (.int 0)), (.int 1), true)] := Okk.leaf (by decide +kernel)
set_option maxRecDepth 1000000 in
theorem nd99 : Okk (rn_0 0 5) [(false, (.op2 .frem (.op2 .iand (.op2 .iushr (.arg 0) (.int 9)) (.int 7)) (.int 0)), (.int 11), true), (false, (.op2 .lcmp (.op2 .frem (.op2 .iand (.op2 .iushr (.arg 0) (.int 9)) (.int 7)) (.int 0)) (.int 0)), (.int 1), false), (false, (.op2 .lcmp (.op2 .frem (.op2 .iand (.op2 .iushr (.arg 0) (.int 6)) (.int 7)) (.int 0)) (.int 0)), (.int 1), true), (false, (.op2 .lcmp (.op2 .frem (.op2 .iand (.op2 .iushr (.arg 0) (.int 3)) (.int 7)) (.int 0)) (.int 0)), (.int 1), true), (false, (.op2 .lcmp (.op2 .frem (.op2 .iand (.arg 0) (.int 7)) (.int 0)) (.int 0)), (.int 1), true)] := Okk.leaf (by decide +kernel)
set_option maxRecDepth 1000000 in
theorem nd100 : Okk (rn_0 0 5) [(false, (.op2 .frem (.op2 .iand (.op2 .iushr (.arg 0) (.int 9)) (.int 7)) (.int 0)), (.int (-30)), true), (false, (.op2 .lcmp (.op2 .frem (.op2 .iand (.op2 .iushr (.arg 0) (.int 9)) (.int 7)) (.int 0)) (.int 0)), (.int 1), false), (false, (.op2 .lcmp (.op2 .frem (.op2 .iand (.op2 .iushr (.arg 0) (.int 6)) (.int 7)) (.int 0)) (.int 0)), (.int 1), true), (false, (.op2 .lcmp (.op2 .frem (.op2 .iand (.op2 .iushr (.arg 0) (.int 3)) (.int 7)) (.int 0)) (.int 0)), (.int 1), true), (false, (.op2 .lcmp (.op2 .frem (.op2 .iand (.arg 0) (.int 7)) (.int 0)) (.int 0)), (.int 1), true)] := Okk.leaf (by decide +kernel)
theorem nd101 : Okk (rn_0 0 5) [(false, (.op2 .lcmp (.op2 .frem (.op2 .iand (.op2 .iushr (.arg 0) (.int 9)) (.int 7)) (.int 0)) (.int 0)), (.int 1), false), (false, (.op2 .lcmp (.op2 .frem (.op2 .iand (.op2 .iushr (.arg 0) (.int 6)) (.int 7)) (.int 0)) (.int 0)), (.int 1), true), (false, (.op2 .lcmp (.op2 .frem (.op2 .iand (.op2 .iushr (.arg 0) (.int 3)) (.int 7)) (.int 0)) (.int 0)), (.int 1), true), (false, (.op2 .lcmp (.op2 .frem (.op2 .iand (.arg 0) (.int 7)) (.int 0)) (.int 0)), (.int 1), true)] := Okk.tab (by decide +kernel) nd96 nd97 nd98 nd99 nd100
theorem nd102 : Okk (rn_0 0 5) [(false, (.op2 .lcmp (.op2 .frem (.op2 .iand (.op2 .iushr (.arg 0) (.int 6)) (.int 7)) (.int 0)) (.int 0)), (.int 1), true), (false, (.op2 .lcmp (.op2 .frem (.op2 .iand (.op2 .iushr (.arg 0) (.int 3)) (.int 7)) (.int 0)) (.int 0)), (.int 1), true), (false, (.op2 .lcmp (.op2 .frem (.op2 .iand (.arg 0) (.int 7)) (.int 0)) (.int 0)), (.int 1), true)] := Okk.fork nd95 nd101
set_option maxRecDepth 1000000 in
theorem nd103 : Okk (rn_0 0 5) [(false, (.op2 .frem (.op2 .iand (.op2 .iushr (.arg 0) (.int 6)) (.int 7)) (.int 0)), (.int 10), true), (false, (.op2 .lcmp (.op2 .frem (.op2 .iand (.op2 .iushr (.arg 0) (.int 6)) (.int 7)) (.int 0)) (.int 0)), (.int 1), false), (false, (.op2 .lcmp (.op2 .frem (.op2 .iand (.op2 .iushr (.arg 0) (.int 3)) (.int 7)) (.int 0)) (.int 0)), (.int 1), true), (false, (.op2 .lcmp (.op2 .frem (.op2 .iand (.arg 0) (.int 7)) (.int 0)) (.int 0)), (.int 1), true)] := Okk.leaf (by decide +kernel)
set_option maxRecDepth 1000000 in
theorem nd104 : Okk (rn_0 0 5) [(false, (.op2 .frem (.op2 .iand (.op2 .iushr (.arg 0) (.int 6)) (.int 7)) (.int 0)), (.int 123), true), (false, (.op2 .lcmp (.op2 .frem (.op2 .iand (.op2 .iushr (.arg 0) (.int 6)) (.int 7)) (.int 0)) (.int 0)), (.int 1), false), (false, (.op2 .lcmp (.op2 .frem (.op2 .iand (.op2 .iushr (.arg 0) (.int 3)) (.int 7)) (.int 0)) (.int 0)), (.int 1), true), (false, (.op2 .lcmp (.op2 .frem (.op2 .iand (.arg 0) (.int 7)) (.int 0)) (.int 0)), (.int 1), true)] := Okk.leaf (by decide +kernel)
set_option maxRecDepth 1000000 in
theorem nd105 : Okk (rn_0 0 5) [(false, (.op2 .frem (.op2 .iand (.op2 .iushr (.arg 0) (.int 6)) (.int 7)) (.int 0)), (.int 125), true), (false, (.op2 .lcmp (.op2 .frem (.op2 .iand (.op2 .iushr (.arg 0) (.int 6)) (.int 7)) (.int 0)) (.int 0)), (.int 1), false), (false, (.op2 .lcmp (.op2 .frem (.op2 .iand (.op2 .iushr (.arg 0) (.int 3)) (.int 7)) (.int 0)) (.int 0)), (.int 1), true), (false, (.op2 .lcmp (.op2 .frem (.op2 .iand (.arg 0) (.int 7)) (.int 0)) (.int 0)), (.int 1), true)] := Okk.leaf (by decide +kernel)
set_option maxRecDepth 1000000 in
theorem nd106 : Okk (rn_0 0 5) [(false, (.op2 .frem (.op2 .iand (.op2 .iushr (.arg 0) (.int 6)) (.int 7)) (.int 0)), (.int 11), true), (false, (.op2 .lcmp (.op2 .frem (.op2 .iand (.op2 .iushr (.arg 0) (.int 6)) (.int 7)) (.int 0)) (.int 0)), (.int 1), false), (false, (.op2 .lcmp (.op2 .frem (.op2 .iand (.op2 .iushr (.arg 0) (.int 3)) (.int 7)) (.int 0)) (.int 0)), (.int 1), true), (false, (.op2 .lcmp (.op2 .frem (.op2 .iand (.arg 0) (.int 7)) (.int 0)) (.int 0)), (.int 1), true)] := Okk.leaf (by decide +kernel)
set_option maxRecDepth 1000000 in
theorem nd107 : Okk (rn_0 0 5) [(false, (.op2 .frem (.op2 .iand (.op2 .iushr (.arg 0) (.int 6)) (.int 7)) (.int 0)), (.int (-30)), true), (false, (.op2 .lcmp (.op2 .frem (.op2 .iand (.op2 .iushr (.arg 0) (.int 6)) (.int 7)) (.int 0)) (.int 0)), (.int 1), false), (false, (.op2 .lcmp (.op2 .frem (.op2 .iand (.op2 .iushr (.arg 0) (.int 3)) (.int 7)) (.int 0)) (.int 0)), (.int 1), true), (false, (.op2 .lcmp (.op2 .frem (.op2 .iand (.arg 0) (.int 7)) (.int 0)) (.int 0)), (.int 1), true)] := Okk.leaf (by decide +kernel)
theorem nd108 : Okk (rn_0 0 5) [(false, (.op2 .lcmp (.op2 .frem (.op2 .iand (.op2 .iushr (.arg 0) (.int 6)) (.int 7)) (.int 0)) (.int 0)), (.int 1), false), (false, (.op2 .lcmp (.op2 .frem (.op2 .iand (.op2 .iushr (.arg 0) (.int 3)) (.int 7)) (.int 0)) (.int 0)), (.int 1), true), (false, (.op2 .lcmp (.op2 .frem (.op2 .iand (.arg 0) (.int 7)) (.int 0)) (.int 0)), (.int 1), true)] := Okk.tab (by decide +kernel) nd103 nd104 nd105 nd106 nd107
theorem nd109 : Okk (rn_0 0 5) [(false, (.op2 .lcmp (.op2 .frem (.op2 .iand (.op2 .iushr (.arg 0) (.int 3)) (.int 7)) (.int 0)) (.int 0)), (.int 1), true), (false, (.op2 .lcmp (.op2 .frem (.op2 .iand (.arg 0) (.int 7)) (.int 0)) (.int 0)), (.int 1), true)] := Okk.fork nd102 nd108
set_option maxRecDepth 1000000 in
theorem nd110 : Okk (rn_0 0 5) [(false, (.op2 .frem (.op2 .iand (.op2 .iushr (.arg 0) (.int 3)) (.int 7)) (.int 0)), (.int 10), true), (false, (.op2 .lcmp (.op2 .frem (.op2 .iand (.op2 .iushr (.arg 0) (.int 3)) (.int 7)) (.int 0)) (.int 0)), (.int 1), false), (false, (.op2 .lcmp (.op2 .frem (.op2 .iand (.arg 0) (.int 7)) (.int 0)) (.int 0)), (.int 1), true)] := Okk.leaf (by decide +kernel)
set_option maxRecDepth 1000000 in
theorem nd111 : Okk (rn_0 0 5) [(false, (.op2 .frem (.op2 .iand (.op2 .iushr (.arg 0) (.int 3)) (.int 7)) (.int 0)), (.int 123), true), (false, (.op2 .lcmp (.op2 .frem (.op2 .iand (.op2 .iushr (.arg 0) (.int 3)) (.int 7)) (.int 0)) (.int 0)), (.int 1), false), (false, (.op2 .lcmp (.op2 .frem (.op2 .iand (.arg 0) (.int 7)) (.int 0)) (.int 0)), (.int 1), true)] := Okk.leaf (by decide +kernel)
set_option maxRecDepth 1000000 in
theorem nd112 : Okk (rn_0 0 5) [(false, (.op2 .frem (.op2 .iand (.op2 .iushr (.arg 0) (.int 3)) (.int 7)) (.int 0)), (.int 125), true), (false, (.op2 .lcmp (.op2 .frem (.op2 .iand (.op2 .iushr (.arg 0) (.int 3)) (.int 7)) (.int 0)) (.int 0)), (.int 1), false), (false, (.op2 .lcmp (.op2 .frem (.op2 .iand (.arg 0) (.int 7)) (.int 0)) (.int 0)), (.int 1), true)] := Okk.leaf (by decide +kernel)
set_option maxRecDepth 1000000 in
theorem nd113 : Okk (rn_0 0 5) [(false, (.op2 .frem (.op2 .iand (.op2 .iushr (.arg 0) (.int 3)) (.int 7)) (.int 0)), (.int 11), true), (false, (.op2 .lcmp (.op2 .frem (.op2 .iand (.op2 .iushr (.arg 0) (.int 3)) (.int 7)) (.int 0)) (.int 0)), (.int 1), false), (false, (.op2 .lcmp (.op2 .frem (.op2 .iand (.arg 0) (.int 7)) (.int 0)) (.int 0)), (.int 1), true)] := Okk.leaf (by decide +kernel)
set_option maxRecDepth 1000000 in
theorem nd114 : Okk (rn_0 0 5) [(false, (.op2 .frem (.op2 .iand (.op2 .iushr (.arg 0) (.int 3)) (.int 7)) (.int 0)), (.int (-30)), true), (false, (.op2 .lcmp (.op2 .frem (.op2 .iand (.op2 .iushr (.arg 0) (.int 3)) (.int 7)) (.int 0)) (.int 0)), (.int 1), false), (false, (.op2 .lcmp (.op2 .frem (.op2 .iand (.arg 0) (.int 7)) (.int 0)) (.int 0)), (.int 1), true)] := Okk.leaf (by decide +kernel)
theorem nd115 : Okk (rn_0 0 5) [(false, (.op2 .lcmp (.op2 .frem (.op2 .iand (.op2 .iushr (.arg 0) (.int 3)) (.int 7)) (.int 0)) (.int 0)), (.int 1), false), (false, (.op2 .lcmp (.op2 .frem (.op2 .iand (.arg 0) (.int 7)) (.int 0)) (.int 0)), (.int 1), true)] := Okk.tab (by decide +kernel) nd110 nd111 nd112 nd113 nd114
theorem nd116 : Okk (rn_0 0 5) [(false, (.op2 .lcmp (.op2 .frem (.op2 .iand (.arg 0) (.int 7)) (.int 0)) (.int 0)), (.int 1), true)] := Okk.fork nd109 nd115
set_option maxRecDepth 1000000 in
theorem nd117 : Okk (rn_0 0 5) [(false, (.op2 .frem (.op2 .iand (.arg 0) (.int 7)) (.int 0)), (.int 10), true), (false, (.op2 .lcmp (.op2 .frem (.op2 .iand (.arg 0) (.int 7)) (.int 0)) (.int 0)), (.int 1), false)] := Okk.leaf (by decide +kernel)
set_option maxRecDepth 1000000 in
theorem nd118 : Okk (rn_0 0 5) [(false, (.op2 .frem (.op2 .iand (.arg 0) (.int 7)) (.int 0)), (.int 123), true), (false, (.op2 .lcmp (.op2 .frem (.op2 .iand (.arg 0) (.int 7)) (.int 0)) (.int 0)), (.int 1), false)] := Okk.leaf (by decide +kernel)
set_option maxRecDepth 1000000 in
theorem nd119 : Okk (rn_0 0 5) [(false, (.op2 .frem (.op2 .iand (.arg 0) (.int 7)) (.int 0)), (.int 125), true), (false, (.op2 .lcmp (.op2 .frem (.op2 .iand (.arg 0) (.int 7)) (.int 0)) (.int 0)), (.int 1), false)] := Okk.leaf (by decide +kernel)
set_option maxRecDepth 1000000 in
theorem nd120 : Okk (rn_0 0 5) [(false, (.op2 .frem (.op2 .iand (.arg 0) (.int 7)) (.int 0)), (.int 11), true), (false, (.op2 .lcmp (.op2 .frem (.op2 .iand (.arg 0) (.int 7)) (.int 0)) (.int 0)), (.int 1), false)] := Okk.leaf (by decide +kernel)
set_option maxRecDepth 1000000 in
theorem nd121 : Okk (rn_0 0 5) [(false, (.op2 .frem (.op2 .iand (.arg 0) (.int 7)) (.int 0)), (.int (-30)), true), (false, (.op2 .lcmp (.op2 .frem (.op2 .iand (.arg 0) (.int 7)) (.int 0)) (.int 0)), (.int 1), false)] := Okk.leaf (by decide +kernel)
theorem nd122 : Okk (rn_0 0 5) [(false, (.op2 .lcmp (.op2 .frem (.op2 .iand (.arg 0) (.int 7)) (.int 0)) (.int 0)), (.int 1), false)] := Okk.tab (by decide +kernel) nd117 nd118 nd119 nd120 nd121
theorem nd123 : Okk (rn_0 0 5) [] := Okk.fork nd116 nd122
set_option maxRecDepth 1000000 in
theorem nd124 : Okk (rn_0 1 1) [(false, (.op2 .dcmpl (.op2 .iand (.arg 3) (.int 1)) (.int 0)), (.int 0), true)] := Okk.leaf (by decide +kernel)
set_option maxRecDepth 1000000 in
theorem nd125 : Okk (rn_0 1 1) [(false, (.op2 .dcmpl (.op2 .iand (.arg 3) (.int 1)) (.int 0)), (.int 0), false)] := Okk.leaf (by decide +kernel)
theorem nd126 : Okk (rn_0 1 1) [] := Okk.fork nd124 nd125
set_option maxRecDepth 1000000 in
theorem nd127 : Okk (rn_0 1 2) [(false, (.op2 .dcmpl (.op2 .iand (.arg 3) (.int 1)) (.int 0)), (.int 0), true), (false, (.op2 .lcmp (.op2 .frem (.op2 .iand (.op2 .iushr (.arg 0) (.int 3)) (.int 7)) (.int 0)) (.int 0)), (.int 1), true)] := Okk.leaf (by decide +kernel)
set_option maxRecDepth 1000000 in
theorem nd128 : Okk (rn_0 1 2) [(false, (.op2 .dcmpl (.op2 .iand (.arg 3) (.int 1)) (.int 0)), (.int 0), false), (false, (.op2 .lcmp (.op2 .frem (.op2 .iand (.op2 .iushr (.arg 0) (.int 3)) (.int 7)) (.int 0)) (.int 0)), (.int 1), true)] := Okk.leaf (by decide +kernel)
theorem nd129 : Okk (rn_0 1 2) [(false, (.op2 .lcmp (.op2 .frem (.op2 .iand (.op2 .iushr (.arg 0) (.int 3)) (.int 7)) (.int 0)) (.int 0)), (.int 1), true)] := Okk.fork nd127 nd128
set_option maxRecDepth 1000000 in
theorem nd130 : Okk (rn_0 1 2) [(false, (.op2 .frem (.op2 .iand (.op2 .iushr (.arg 0) (.int 3)) (.int 7)) (.int 0)), (.int 10), true), (false, (.op2 .lcmp (.op2 .frem (.op2 .iand (.op2 .iushr (.arg 0) (.int 3)) (.int 7)) (.int 0)) (.int 0)), (.int 1), false)] := Okk.leaf (by decide +kernel)
set_option maxRecDepth 1000000 in
theorem nd131 : Okk (rn_0 1 2) [(false, (.op2 .frem (.op2 .iand (.op2 .iushr (.arg 0) (.int 3)) (.int 7)) (.int 0)), (.int 123), true), (false, (.op2 .lcmp (.op2 .frem (.op2 .iand (.op2 .iushr (.arg 0) (.int 3)) (.int 7)) (.int 0)) (.int 0)), (.int 1), false)] := Okk.leaf (by decide +kernel)
set_option maxRecDepth 1000000 in
theorem nd132 : Okk (rn_0 1 2) [(false, (.op2 .frem (.op2 .iand (.op2 .iushr (.arg 0) (.int 3)) (.int 7)) (.int 0)), (.int 125), true), (false, (.op2 .lcmp (.op2 .frem (.op2 .iand (.op2 .iushr (.arg 0) (.int 3)) (.int 7)) (.int 0)) (.int 0)), (.int 1), false)] := Okk.leaf (by decide +kernel)
set_option maxRecDepth 1000000 in
theorem nd133 : Okk (rn_0 1 2) [(false, (.op2 .frem (.op2 .iand (.op2 .iushr (.arg 0) (.int 3)) (.int 7)) (.int 0)), (.int 11), true), (false, (.op2 .lcmp (.op2 .frem (.op2 .iand (.op2 .iushr (.arg 0) (.int 3)) (.int 7)) (.int 0)) (.int 0)), (.int 1), false)] := Okk.leaf (by decide +kernel)
set_option maxRecDepth 1000000 in
theorem nd134 : Okk (rn_0 1 2) [(false, (.op2 .frem (.op2 .iand (.op2 .iushr (.arg 0) (.int 3)) (.int 7)) (.int 0)), (.int (-30)), true), (false, (.op2 .lcmp (.op2 .frem (.op2 .iand (.op2 .iushr (.arg 0) (.int 3)) (.int 7)) (.int 0)) (.int 0)), (.int 1), false)] := Okk.leaf (by decide +kernel)
theorem nd135 : Okk (rn_0 1 2) [(false, (.op2 .lcmp (.op2 .frem (.op2 .iand (.op2 .iushr (.arg 0) (.int 3)) (.int 7)) (.int 0)) (.int 0)), (.int 1), false)] := Okk.tab (by decide +kernel) nd130 nd131 nd132 nd133 nd134
theorem nd136 : Okk (rn_0 1 2) [] := Okk.fork nd129 nd135
set_option maxRecDepth 1000000 in
theorem nd137 : Okk (rn_0 1 3) [(false, (.op2 .dcmpl (.op2 .iand (.arg 3) (.int 1)) (.int 0)), (.int 0), true), (false, (.op2 .lcmp (.op2 .frem (.op2 .iand (.op2 .iushr (.arg 0) (.int 6)) (.int 7)) (.int 0)) (.int 0)), (.int 1), true), (false, (.op2 .lcmp (.op2 .frem (.op2 .iand (.op2 .iushr (.arg 0) (.int 3)) (.int 7)) (.int 0)) (.int 0)), (.int 1), true)] := Okk.leaf (by decide +kernel)
set_option maxRecDepth 1000000 in
theorem nd138 : Okk (rn_0 1 3) [(false, (.op2 .dcmpl (.op2 .iand (.arg 3) (.int 1)) (.int 0)), (.int 0), false), (false, (.op2 .lcmp (.op2 .frem (.op2 .iand (.op2 .iushr (.arg 0) (.int 6)) (.int 7)) (.int 0)) (.int 0)), (.int 1), true), (false, (.op2 .lcmp (.op2 .frem (.op2 .iand (.op2 .iushr (.arg 0) (.int 3)) (.int 7)) (.int 0)) (.int 0)), (.int 1), true)] := Okk.leaf (by decide +kernel)
theorem nd139 : Okk (rn_0 1 3) [(false, (.op2 .lcmp (.op2 .frem (.op2 .iand (.op2 .iushr (.arg 0) (.int 6)) (.int 7)) (.int 0)) (.int 0)), (.int 1), true), (false, (.op2 .lcmp (.op2 .frem (.op2 .iand (.op2 .iushr (.arg 0) (.int 3)) (.int 7)) (.int 0)) (.int 0)), (.int 1), true)] := Okk.fork nd137 nd138
set_option maxRecDepth 1000000 in
theorem nd140 : Okk (rn_0 1 3) [(false, (.op2 .frem (.op2 .iand (.op2 .iushr (.arg 0) (.int 6)) (.int 7)) (.int 0)), (.int 10), true), (false, (.op2 .lcmp (.op2 .frem (.op2 .iand (.op2 .iushr (.arg 0) (.int 6)) (.int 7)) (.int 0)) (.int 0)), (.int 1), false), (false, (.op2 .lcmp (.op2 .frem (.op2 .iand (.op2 .iushr (.arg 0) (.int 3)) (.int 7)) (.int 0)) (.int 0)), (.int 1), true)] := Okk.leaf (by decide +kernel)
set_option maxRecDepth 1000000 in
theorem nd141 : Okk (rn_0 1 3) [(false, (.op2 .frem (.op2 .iand (.op2 .iushr (.arg 0) (.int 6)) (.int 7)) (.int 0)), (.int 123), true), (false, (.op2 .lcmp (.op2 .frem (.op2 .iand (.op2 .iushr (.arg 0) (.int 6)) (.int 7)) (.int 0)) (.int 0)), (.int 1), false), (false, (.op2 .lcmp (.op2 .frem (.op2 .iand (.op2 .iushr (.arg 0) (.int 3)) (.int 7)) (.int 0)) (.int 0)), (.int 1), true)] := Okk.leaf (by decide +kernel)
set_option maxRecDepth 1000000 in
theorem nd142 : Okk (rn_0 1 3) [(false, (.op2 .frem (.op2 .iand (.op2 .iushr (.arg 0) (.int 6)) (.int 7)) (.int 0)), (.int 125), true), (false, (.op2 .lcmp (.op2 .frem (.op2 .iand (.op2 .iushr (.arg 0) (.int 6)) (.int 7)) (.int 0)) (.int 0)), (.int 1), false), (false, (.op2 .lcmp (.op2 .frem (.op2 .iand (.op2 .iushr (.arg 0) (.int 3)) (.int 7)) (.int 0)) (.int 0)), (.int 1), true)] := Okk.leaf (by decide +kernel)
set_option maxRecDepth 1000000 in
theorem nd143 : Okk (rn_0 1 3) [(false, (.op2 .frem (.op2 .iand (.op2 .iushr (.arg 0) (.int 6)) (.int 7)) (.int 0)), (.int 11), true), (false, (.op2 .lcmp (.op2 .frem (.op2 .iand (.op2 .iushr (.arg 0) (.int 6)) (.int 7)) (.int 0)) (.int 0)), (.int 1), false), (false, (.op2 .lcmp (.op2 .frem (.op2 .iand (.op2 .iushr (.arg 0) (.int 3)) (.int 7)) (.int 0)) (.int 0)), (.int 1), true)] := Okk.leaf (by decide +kernel)
set_option maxRecDepth 1000000 in
theorem nd144 : Okk (rn_0 1 3) [(false, (.op2 .frem (.op2 .iand (.op2 .iushr (.arg 0) (.int 6)) (.int 7)) (.int 0)), (.int (-30)), true), (false, (.op2 .lcmp (.op2 .frem (.op2 .iand (.op2 .iushr (.arg 0) (.int 6)) (.int 7)) (.int 0)) (.int 0)), (.int 1), false), (false, (.op2 .lcmp (.op2 .frem (.op2 .iand (.op2 .iushr (.arg 0) (.int 3)) (.int 7)) (.int 0)) (.int 0)), (.int 1), true)] := Okk.leaf (by decide +kernel)
theorem nd145 : Okk (rn_0 1 3) [(false, (.op2 .lcmp (.op2 .frem (.op2 .iand (.op2 .iushr (.arg 0) (.int 6)) (.int 7)) (.int 0)) (.int 0)), (.int 1), false), (false, (.op2 .lcmp (.op2 .frem (.op2 .iand (.op2 .iushr (.arg 0) (.int 3)) (.int 7)) (.int 0)) (.int 0)), (.int 1), true)] := Okk.tab (by decide +kernel) nd140 nd141 nd142 nd143 nd144
theorem nd146 : Okk (rn_0 1 3) [(false, (.op2 .lcmp (.op2 .frem (.op2 .iand (.op2 .iushr (.arg 0) (.int 3)) (.int 7)) (.int 0)) (.int 0)), (.int 1), true)] := Okk.fork nd139 nd145
set_option maxRecDepth 1000000 in
theorem nd147 : Okk (rn_0 1 3) [(false, (.op2 .frem (.op2 .iand (.op2 .iushr (.arg 0) (.int 3)) (.int 7)) (.int 0)), (.int 10), true), (false, (.op2 .lcmp (.op2 .frem (.op2 .iand (.op2 .iushr (.arg 0) (.int 3)) (.int 7)) (.int 0)) (.int 0)), (.int 1), false)] := Okk.leaf (by decide +kernel)
set_option maxRecDepth 1000000 in
theorem nd148 : Okk (rn_0 1 3) [(false, (.op2 .frem (.op2 .iand (.op2 .iushr (.arg 0) (.int 3)) (.int 7)) (.int 0)), (.int 123), true), (false, (.op2 .lcmp (.op2 .frem (.op2 .iand (.op2 .iushr (.arg 0) (.int 3)) (.int 7)) (.int 0)) (.int 0)), (.int 1), false)] := Okk.leaf (by decide +kernel)
set_option maxRecDepth 1000000 in
theorem nd149 : Okk (rn_0 1 3) [(false, (.op2 .frem (.op2 .iand (.op2 .iushr (.arg 0) (.int 3)) (.int 7)) (.int 0)), (.int 125), true), (false, (.op2 .lcmp (.op2 .frem (.op2 .iand (.op2 .iushr (.arg 0) (.int 3)) (.int 7)) (.int 0)) (.int 0)), (.int 1), false)] := Okk.leaf (by decide +kernel)
set_option maxRecDepth 1000000 in
theorem nd150 : Okk (rn_0 1 3) [(false, (.op2 .frem (.op2 .iand (.op2 .iushr (.arg 0) (.int 3)) (.int 7)) (.int 0)), (.int 11), true), (false, (.op2 .lcmp (.op2 .frem (.op2 .iand (.op2 .iushr (.arg 0) (.int 3)) (.int 7)) (.int 0)) (.int 0)), (.int 1), false)] := Okk.leaf (by decide +kernel)
set_option maxRecDepth 1000000 in
theorem nd151 : Okk (rn_0 1 3) [(false, (.op2 .frem (.op2 .iand (.op2 .iushr (.arg 0) (.int 3)) (.int 7)) (.int 0)), (.int (-30)), true), (false, (.op2 .lcmp (.op2 .frem (.op2 .iand (.op2 .iushr (.arg 0) (.int 3)) (.int 7)) (.int 0)) (.int 0)), (.int 1), false)] := Okk.leaf (by decide +kernel)
theorem nd152 : Okk (rn_0 1 3) [(false, (.op2 .lcmp (.op2 .frem (.op2 .iand (.op2 .iushr (.arg 0) (.int 3)) (.int 7)) (.int 0)) (.int 0)), (.int 1), false)] := Okk.tab (by decide +kernel) nd147 nd148 nd149 nd150 nd151
theorem nd153 : Okk (rn_0 1 3) [] := Okk.fork nd146 nd152
set_option maxRecDepth 1000000 in
theorem nd154 : Okk (rn_0 1 4) [(false, (.op2 .dcmpl (.op2 .iand (.arg 3) (.int 1)) (.int 0)), (.int 0), true), (false, (.op2 .lcmp (.op2 .frem (.op2 .iand (.op2 .iushr (.arg 0) (.int 9)) (.int 7)) (.int 0)) (.int 0)), (.int 1), true), (false, (.op2 .lcmp (.op2 .frem (.op2 .iand (.op2 .iushr (.arg 0) (.int 6)) (.int 7)) (.int 0)) (.int 0)), (.int 1), true), (false, (.op2 .lcmp (.op2 .frem (.op2 .iand (.op2 .iushr (.arg 0) (.int 3)) (.int 7)) (.int 0)) (.int 0)), (.int 1), true)] := Okk.leaf (by decide +kernel)
set_option maxRecDepth 1000000 in
theorem nd155 : Okk (rn_0 1 4) [(false, (.op2 .dcmpl (.op2 .iand (.arg 3) (.int 1)) (.int 0)), (.int 0), false), (false, (.op2 .lcmp (.op2 .frem (.op2 .iand (.op2 .iushr (.arg 0) (.int 9)) (.int 7)) (.int 0)) (.int 0)), (.int 1), true), (false, (.op2 .lcmp (.op2 .frem (.op2 .iand (.op2 .iushr (.arg 0) (.int 6)) (.int 7)) (.int 0)) (.int 0)), (.int 1), true), (false, (.op2 .lcmp (.op2 .frem (.op2 .iand (.op2 .iushr (.arg 0) (.int 3)) (.int 7)) (.int 0)) (.int 0)), (.int 1), true)] := Okk.leaf (by decide +kernel)
theorem nd156 : Okk (rn_0 1 4) [(false, (.op2 .lcmp (.op2 .frem (.op2 .iand (.op2 .iushr (.arg 0) (.int 9)) (.int 7)) (.int 0)) (.int 0)), (.int 1), true), (false, (.op2 .lcmp (.op2 .frem (.op2 .iand (.op2 .iushr (.arg 0) (.int 6)) (.int 7)) (.int 0)) (.int 0)), (.int 1), true), (false, (.op2 .lcmp (.op2 .frem (.op2 .iand (.op2 .iushr (.arg 0) (.int 3)) (.int 7)) (.int 0)) (.int 0)), (.int 1), true)] := Okk.fork nd154 nd155
set_option maxRecDepth 1000000 in
theorem nd157 : Okk (rn_0 1 4) [(false, (.op2 .frem (.op2 .iand (.op2 .iushr (.arg 0) (.int 9)) (.int 7)) (.int 0)), (.int 10), true), (false, (.op2 .lcmp (.op2 .frem (.op2 .iand (.op2 .iushr (.arg 0) (.int 9)) (.int 7)) (.int 0)) (.int 0)), (.int 1), false), (false, (.op2 .lcmp (.op2 .frem (.op2 .iand (.op2 .iushr (.arg 0) (.int 6)) (.int 7)) (.int 0)) (.int 0)), (.int 1), true), (false, (.op2 .lcmp (.op2 .frem (.op2 .iand (.op2 .iushr (.arg 0) (.int 3)) (.int 7)) (.int 0)) (.int 0)), (.int 1), true)] := Okk.leaf (by decide +kernel)
set_option maxRecDepth 1000000 in
theorem nd158 : Okk (rn_0 1 4) [(false, (.op2 .frem (.op2 .iand (.op2 .iushr (.arg 0) (.int 9)) (.int 7)) (.int 0)), (.int 123), true), (false, (.op2 .lcmp (.op2 .frem (.op2 .iand (.op2 .iushr (.arg 0) (.int 9)) (.int 7)) (.int 0)) (.int 0)), (.int 1), false), (false, (.op2 .lcmp (.op2 .frem (.op2 .iand (.op2 .iushr (.arg 0) (.int 6)) (.int 7)) (.int 0)) (.int 0)), (.int 1), true), (false, (.op2 .lcmp (.op2 .frem (.op2 .iand (.op2 .iushr (.arg 0) (.int 3)) (.int 7)) (.int 0)) (.int 0)), (.int 1), true)] := Okk.leaf (by decide +kernel)
set_option maxRecDepth 1000000 in
theorem nd159 : Okk (rn_0 1 4) [(false, (.op2 .frem (.op2 .iand (.op2 .iushr (.arg 0) (.int 9)) (.int 7)) (.int 0)), (.int 125), true), (false, (.op2 .lcmp (.op2 .frem (.op2 .iand (.op2 .iushr (.arg 0) (.int 9)) (.int 7)) (.int 0)) (.int 0)), (.int 1), false), (false, (.op2 .lcmp (.op2 .frem (.op2 .iand (.op2 .iushr (.arg 0) (.int 6)) (.int 7)) (.int 0)) (.int 0)), (.int 1), true), (false, (.op2 .lcmp (.op2 .frem (.op2 .iand (.op2 .iushr (.arg 0) (.int 3)) (.int 7)) (.int 0)) (.int 0)), (.int 1), true)] := Okk.leaf (by decide +kernel)
set_option maxRecDepth 1000000 in
theorem nd160 : Okk (rn_0 1 4) [(false, (.op2 .frem (.op2 .iand (.op2 .iushr (.arg 0) (.int 9)) (.int 7)) (.int 0)), (.int 11), true), (false, (.op2 .lcmp (.op2 .frem (.op2 .iand (.op2 .iushr (.arg 0) (.int 9)) (.int 7)) (.int 0)) (.int 0)), (.int 1), false), (false, (.op2 .lcmp (.op2 .frem (.op2 .iand (.op2 .iushr (.arg 0) (.int 6)) (.int 7)) (.int 0)) (.int 0)), (.int 1), true), (false, (.op2 .lcmp (.op2 .frem (.op2 .iand (.op2 .iushr (.arg 0) (.int 3)) (.int 7)) (.int 0)) (.int 0)), (.int 1), true)] := Okk.leaf (by decide +kernel)
set_option maxRecDepth 1000000 in
theorem nd161 : Okk (rn_0 1 4) [(false, (.op2 .frem (.op2 .iand (.op2 .iushr (.arg 0) (.int 9)) (.int 7)) (.int 0)), (.int (-30)), true), (false, (.op2 .lcmp (.op2 .frem (.op2 .iand (.op2 .iushr (.arg 0) (.int 9)) (.int 7)) (.int 0)) (.int 0)), (.int 1), false), (false, (.op2 .lcmp (.op2 .frem (.op2 .iand (.op2 .iushr (.arg 0) (.int 6)) (.int 7)) (.int 0)) (.int 0)), (.int 1), true), (false, (.op2 .lcmp (.op2 .frem (.op2 .iand (.op2 .iushr (.arg 0) (.int 3)) (.int 7)) (.int 0)) (.int 0)), (.int 1), true)] := Okk.leaf (by decide +kernel)
theorem nd162 : Okk (rn_0 1 4) [(false, (.op2 .lcmp (.op2 .frem (.op2 .iand (.op2 .iushr (.arg 0) (.int 9)) (.int 7)) (.int 0)) (.int 0)), (.int 1), false), (false, (.op2 .lcmp (.op2 .frem (.op2 .iand (.op2 .iushr (.arg 0) (.int 6)) (.int 7)) (.int 0)) (.int 0)), (.int 1), true), (false, (.op2 .lcmp (.op2 .frem (.op2 .iand (.op2 .iushr (.arg 0) (.int 3)) (.int 7)) (.int 0)) (.int 0)), (.int 1), true)] := Okk.tab (by decide +kernel) nd157 nd158 nd159 nd160 nd161
theorem nd163 : Okk (rn_0 1 4) [(false, (.op2 .lcmp (.op2 .frem (.op2 .iand (.op2 .iushr (.arg 0) (.int 6)) (.int 7)) (.int 0)) (.int 0)), (.int 1), true), (false, (.op2 .lcmp (.op2 .frem (.op2 .iand (.op2 .iushr (.arg 0) (.int 3)) (.int 7)) (.int 0)) (.int 0)), (.int 1), true)] := Okk.fork nd156 nd162
set_option maxRecDepth 1000000 in
theorem nd164 : Okk (rn_0 1 4) [(false, (.op2 .frem (.op2 .iand (.op2 .iushr (.arg 0) (.int 6)) (.int 7)) (.int 0)), (.int 10), true), (false, (.op2 .lcmp (.op2 .frem (.op2 .iand (.op2 .iushr (.arg 0) (.int 6)) (.int 7)) (.int 0)) (.int 0)), (.int 1), false), (false, (.op2 .lcmp (.op2 .frem (.op2 .iand (.op2 .iushr (.arg 0) (.int 3)) (.int 7)) (.int 0)) (.int 0)), (.int 1), true)] := Okk.leaf (by decide +kernel)
set_option maxRecDepth 1000000 in
theorem nd165 : Okk (rn_0 1 4) [(false, (.op2 .frem (.op2 .iand (.op2 .iushr (.arg 0) (.int 6)) (.int 7)) (.int 0)), (.int 123), true), (false, (.op2 .lcmp (.op2 .frem (.op2 .iand (.op2 .iushr (.arg 0) (.int 6)) (.int 7)) (.int 0)) (.int 0)), (.int 1), false), (false, (.op2 .lcmp (.op2 .frem (.op2 .iand (.op2 .iushr (.arg 0) (.int 3)) (.int 7)) (.int 0)) (.int 0)), (.int 1), true)] := Okk.leaf (by decide +kernel)
set_option maxRecDepth 1000000 in
theorem nd166 : Okk (rn_0 1 4) [(false, (.op2 .frem (.op2 .iand (.op2 .iushr (.arg 0) (.int 6)) (.int 7)) (.int 0)), (.int 125), true), (false, (.op2 .lcmp (.op2 .frem (.op2 .iand (.op2 .iushr (.arg 0) (.int 6)) (.int 7)) (.int 0)) (.int 0)), (.int 1), false), (false, (.op2 .lcmp (.op2 .frem (.op2 .iand (.op2 .iushr (.arg 0) (.int 3)) (.int 7)) (.int 0)) (.int 0)), (.int 1), true)] := Okk.leaf (by decide +kernel)
set_option maxRecDepth 1000000 in
theorem nd167 : Okk (rn_0 1 4) [(false, (.op2 .frem (.op2 .iand (.op2 .iushr (.arg 0) (.int 6)) (.int 7)) (.int 0)), (.int 11), true), (false, (.op2 .lcmp (.op2 .frem (.op2 .iand (.op2 .iushr (.arg 0) (.int 6)) (.int 7)) (.int 0)) (.int 0)), (.int 1), false), (false, (.op2 .lcmp (.op2 .frem (.op2 .iand (.op2 .iushr (.arg 0) (.int 3)) (.int 7)) (.int 0)) (.int 0)), (.int 1), true)] := Okk.leaf (by decide +kernel)
set_option maxRecDepth 1000000 in
theorem nd168 : Okk (rn_0 1 4) [(false, (.op2 .frem (.op2 .iand (.op2 .iushr (.arg 0) (.int 6)) (.int 7)) (.int 0)), (.int (-30)), true), (false, (.op2 .lcmp (.op2 .frem (.op2 .iand (.op2 .iushr (.arg 0) (.int 6)) (.int 7)) (.int 0)) (.int 0)), (.int 1), false), (false, (.op2 .lcmp (.op2 .frem (.op2 .iand (.op2 .iushr (.arg 0) (.int 3)) (.int 7)) (.int 0)) (.int 0)), (.int 1), true)] := Okk.leaf (by decide +kernel)
theorem nd169 : Okk (rn_0 1 4) [(false, (.op2 .lcmp (.op2 .frem (.op2 .iand (.op2 .iushr (.arg 0) (.int 6)) (.int 7)) (.int 0)) (.int 0)), (.int 1), false), (false, (.op2 .lcmp (.op2 .frem (.op2 .iand (.op2 .iushr (.arg 0) (.int 3)) (.int 7)) (.int 0)) (.int 0)), (.int 1), true)] := Okk.tab (by decide +kernel) nd164 nd165 nd166 nd167 nd168
theorem nd170 : Okk (rn_0 1 4) [(false, (.op2 .lcmp (.op2 .frem (.op2 .iand (.op2 .iushr (.arg 0) (.int 3)) (.int 7)) (.int 0)) (.int 0)), (.int 1), true)] := Okk.fork nd163 nd169
set_option maxRecDepth 1000000 in
theorem nd171 : Okk (rn_0 1 4) [(false, (.op2 .frem (.op2 .iand (.op2 .iushr (.arg 0) (.int 3)) (.int 7)) (.int 0)), (.int 10), true), (false, (.op2 .lcmp (.op2 .frem (.op2 .iand (.op2 .iushr (.arg 0) (.int 3)) (.int 7)) (.int 0)) (.int 0)), (.int 1), false)] := Okk.leaf (by decide +kernel)
set_option maxRecDepth 1000000 in
theorem nd172 : Okk (rn_0 1 4) [(false, (.op2 .frem (.op2 .iand (.op2 .iushr (.arg 0) (.int 3)) (.int 7)) (.int 0)), (.int 123), true), (false, (.op2 .lcmp (.op2 .frem (.op2 .iand (.op2 .iushr (.arg 0) (.int 3)) (.int 7)) (.int 0)) (.int 0)), (.int 1), false)] := Okk.leaf (by decide +kernel)
set_option maxRecDepth 1000000 in
theorem nd173 : Okk (rn_0 1 4) [(false, (.op2 .frem (.op2 .iand (.op2 .iushr (.arg 0) (.int 3)) (.int 7)) (.int 0)), (.int 125), true), (false, (.op2 .lcmp (.op2 .frem (.op2 .iand (.op2 .iushr (.arg 0) (.int 3)) (.int 7)) (.int 0)) (.int 0)), (.int 1), false)] := Okk.leaf (by decide +kernel)
set_option maxRecDepth 1000000 in
theorem nd174 : Okk (rn_0 1 4) [(false, (.op2 .frem (.op2 .iand (.op2 .iushr (.arg 0) (.int 3)) (.int 7)) (.int 0)), (.int 11), true), (false, (.op2 .lcmp (.op2 .frem (.op2 .iand (.op2 .iushr (.arg 0) (.int 3)) (.int 7)) (.int 0)) (.int 0)), (.int 1), false)] := Okk.leaf (by decide +kernel)
set_option maxRecDepth 1000000 in
theorem nd175 : Okk (rn_0 1 4) [(false, (.op2 .frem (.op2 .iand (.op2 .iushr (.arg 0) (.int 3)) (.int 7)) (.int 0)), (.int (-30)), true), (false, (.op2 .lcmp (.op2 .frem (.op2 .iand (.op2 .iushr (.arg 0) (.int 3)) (.int 7)) (.int 0)) (.int 0)), (.int 1), false)] := Okk.leaf (by decide +kernel)
theorem nd176 : Okk (rn_0 1 4) [(false, (.op2 .lcmp (.op2 .frem (.op2 .iand (.op2 .iushr (.arg 0) (.int 3)) (.int 7)) (.int 0)) (.int 0)), (.int 1), false)] := Okk.tab (by decide +kernel) nd171 nd172 nd173 nd174 nd175
theorem nd177 : Okk (rn_0 1 4) [] := Okk.fork nd170 nd176
set_option maxRecDepth 1000000 in
theorem nd178 : Okk (rn_0 1 5) [(false, (.op2 .dcmpl (.op2 .iand (.arg 3) (.int 1)) (.int 0)), (.int 0), true), (false, (.op2 .lcmp (.op2 .frem (.op2 .iand (.op2 .iushr (.arg 0) (.int 12)) (.int 7)) (.int 0)) (.int 0)), (.int 1), true), (false, (.op2 .lcmp (.op2 .frem (.op2 .iand (.op2 .iushr (.arg 0) (.int 9)) (.int 7)) (.int 0)) (.int 0)), (.int 1), true), (false, (.op2 .lcmp (.op2 .frem (.op2 .iand (.op2 .iushr (.arg 0) (.int 6)) (.int 7)) (.int 0)) (.int 0)), (.int 1), true), (false, (.op2 .lcmp (.op2 .frem (.op2 .iand (.op2 .iushr (.arg 0) (.int 3)) (.int 7)) (.int 0)) (.int 0)), (.int 1), true)] := Okk.leaf (by decide +kernel)
set_option maxRecDepth 1000000 in
theorem nd179 : Okk (rn_0 1 5) [(false, (.op2 .dcmpl (.op2 .iand (.arg 3) (.int 1)) (.int 0)), (.int 0), false), (false, (.op2 .lcmp (.op2 .frem (.op2 .iand (.op2 .iushr (.arg 0) (.int 12)) (.int 7)) (.int 0)) (.int 0)), (.int 1), true), (false, (.op2 .lcmp (.op2 .frem (.op2 .iand (.op2 .iushr (.arg 0) (.int 9)) (.int 7)) (.int 0)) (.int 0)), (.int 1), true), (false, (.op2 .lcmp (.op2 .frem (.op2 .iand (.op2 .iushr (.arg 0) (.int 6)) (.int 7)) (.int 0)) (.int 0)), (.int 1), true), (false, (.op2 .lcmp (.op2 .frem (.op2 .iand (.op2 .iushr (.arg 0) (.int 3)) (.int 7)) (.int 0)) (.int 0)), (.int 1), true)] := Okk.leaf (by decide +kernel)
theorem nd180 : Okk (rn_0 1 5) [(false, (.op2 .lcmp (.op2 .frem (.op2 .iand (.op2 .iushr (.arg 0) (.int 12)) (.int 7)) (.int 0)) (.int 0)), (.int 1), true), (false, (.op2 .lcmp (.op2 .frem (.op2 .iand (.op2 .iushr (.arg 0) (.int 9)) (.int 7)) (.int 0)) (.int 0)), (.int 1), true), (false, (.op2 .lcmp (.op2 .frem (.op2 .iand (.op2 .iushr (.arg 0) (.int 6)) (.int 7)) (.int 0)) (.int 0)), (.int 1), true), (false, (.op2 .lcmp (.op2 .frem (.op2 .iand (.op2 .iushr (.arg 0) (.int 3)) (.int 7)) (.int 0)) (.int 0)), (.int 1), true)] := Okk.fork nd178 nd179
set_option maxRecDepth 1000000 in
theorem nd181 : Okk (rn_0 1 5) [(false, (.op2 .frem (.op2 .iand (.op2 .iushr (.arg 0) (.int 12)) (.int 7)) (.int 0)), (.int 10), true), (false, (.op2 .lcmp (.op2 .frem (.op2 .iand (.op2 .iushr (.arg 0) (.int 12)) (.int 7)) (.int 0)) (.int 0)), (.int 1), false), (false, (.op2 .lcmp (.op2 .frem (.op2 .iand (.op2 .iushr (.arg 0) (.int 9)) (.int 7)) (.int 0)) (.int 0)), (.int 1), true), (false, (.op2 .lcmp (.op2 .frem (.op2 .iand (.op2 .iushr (.arg 0) (.int 6)) (.int 7)) (.int 0)) (.int 0)), (.int 1), true), (false, (.op2 .lcmp (.op2 .frem (.op2 .iand (.op2 .iushr (.arg 0) (.int 3)) (.int 7)) (.int 0)) (.int 0)), (.int 1), true)] := Okk.leaf (by decide +kernel)
set_option maxRecDepth 1000000 in
theorem nd182 : Okk (rn_0 1 5) [(false, (.op2 .frem (.op2 .iand (.op2 .iushr (.arg 0) (.int 12)) (.int 7)) (.int 0)), (.int 123), true), (false, (.op2 .lcmp (.op2 .frem (.op2 .iand (.op2 .iushr (.arg 0) (.int 12)) (.int 7)) (.int 0)) (.int 0)), (.int 1), false), (false, (.op2 .lcmp (.op2 .frem (.op2 .iand (.op2 .iushr (.arg 0) (.int 9)) (.int 7)) (.int 0)) (.int 0)), (.int 1), true), (false, (.op2 .lcmp (.op2 .frem (.op2 .iand (.op2 .iushr (.arg 0) (.int 6)) (.int 7)) (.int 0)) (.int 0)), (.int 1), true), (false, (.op2 .lcmp (.op2 .frem (.op2 .iand (.op2 .iushr (.arg 0) (.int 3)) (.int 7)) (.int 0)) (.int 0)), (.int 1), true)] := Okk.leaf (by decide +kernel)
set_option maxRecDepth 1000000 in
theorem nd183 : Okk (rn_0 1 5) [(false, (.op2 .frem (.op2 .iand (.op2 .iushr (.arg 0) (.int 12)) (.int 7)) (.int 0)), (.int 125), true), (false, (.op2 .lcmp (.op2 .frem (.op2 .iand (.op2 .iushr (.arg 0) (.int 12)) (.int 7)) (.int 0)) (.int 0)), (.int 1), false), (false, (.op2 .lcmp (.op2 .frem (.op2 .iand (.op2 .iushr (.arg 0) (.int 9)) (.int 7)) (.int 0)) (.int 0)), (.int 1), true), (false, (.op2 .lcmp (.op2 .frem (.op2 .iand (.op2 .iushr (.arg 0) (.int 6)) (.int 7)) (.int 0)) (.int 0)), (.int 1), true), (false, (.op2 .lcmp (.op2 .frem (.op2 .iand (.op2 .iushr (.arg 0) (.int 3)) (.int 7)) (.int 0)) (.int 0)), (.int 1), true)] := Okk.leaf (by decide +kernel)
set_option maxRecDepth 1000000 in
theorem nd184 : Okk (rn_0 1 5) [(false, (.op2 .frem (.op2 .iand (.op2 .iushr (.arg 0) (.int 12)) (.int 7)) (.int 0)), (.int 11), true), (false, (.op2 .lcmp (.op2 .frem (.op2 .iand (.op2 .iushr (.arg 0) (.int 12)) (.int 7)) (.int 0)) (.int 0)), (.int 1), false), (false, (.op2 .lcmp (.op2 .frem (.op2 .iand (.op2 .iushr (.arg 0) (.int 9)) (.int 7)) (.int 0)) (.int 0)), (.int 1), true), (false, (.op2 .lcmp (.op2 .frem (.op2 .iand (.op2 .iushr (.arg 0) (.int 6)) (.int 7)) (.int 0)) (.int 0)), (.int 1), true), (false, (.op2 .lcmp (.op2 .frem (.op2 .iand (.op2 .iushr (.arg 0) (.int 3)) (.int 7)) (.int 0)) (.int 0)), (.int 1), true)] := Okk.leaf (by decide +kernel)
set_option maxRecDepth 1000000 in
theorem nd185 : Okk (rn_0 1 5) [(false, (.op2 .frem (.op2 .iand (.op2 .iushr (.arg 0) (.int 12)) (.int 7)) (.int 0)), (.int (-30)), true), (false, (.op2 .lcmp (.op2 .frem (.op2 .iand (.op2 .iushr (.arg 0) (.int 12)) (.int 7)) (.int 0)) (.int 0)), (.int 1), false), (false, (.op2 .lcmp (.op2 .frem (.op2 .iand (.op2 .iushr (.arg 0) (.int 9)) (.int 7)) (.int 0)) (.int 0)), (.int 1), true), (false, (.op2 .lcmp (.op2 .frem (.op2 .iand (.op2 .iushr (.arg 0) (.int 6)) (.int 7)) (.int 0)) (.int 0)), (.int 1), true), (false, (.op2 .lcmp (.op2 .frem (.op2 .iand (.op2 .iushr (.arg 0) (.int 3)) (.int 7)) (.int 0)) (.int 0)), (.int 1), true)] := Okk.leaf (by decide +kernel)
theorem nd186 : Okk (rn_0 1 5) [(false, (.op2 .lcmp (.op2 .frem (.op2 .iand (.op2 .iushr (.arg 0) (.int 12)) (.int 7)) (.int 0)) (.int 0)), (.int 1), false), (false, (.op2 .lcmp (.op2 .frem (.op2 .iand (.op2 .iushr (.arg 0) (.int 9)) (.int 7)) (.int 0)) (.int 0)), (.int 1), true), (false, (.op2 .lcmp (.op2 .frem (.op2 .iand (.op2 .iushr (.arg 0) (.int 6)) (.int 7)) (.int 0)) (.int 0)), (.int 1), true), (false, (.op2 .lcmp (.op2 .frem (.op2 .iand (.op2 .iushr (.arg 0) (.int 3)) (.int 7)) (.int 0)) (.int 0)), (.int 1), true)] := Okk.tab (by decide +kernel) nd181 nd182 nd183 nd184 nd185
theorem nd187 : Okk (rn_0 1 5) [(false, (.op2 .lcmp (.op2 .frem (.op2 .iand (.op2 .iushr (.arg 0) (.int 9)) (.int 7)) (.int 0)) (.int 0)), (.int 1), true), (false, (.op2 .lcmp (.op2 .frem (.op2 .iand (.op2 .iushr (.arg 0) (.int 6)) (.int 7)) (.int 0)) (.int 0)), (.int 1), true), (false, (.op2 .lcmp (.op2 .frem (.op2 .iand (.op2 .iushr (.arg 0) (.int 3)) (.int 7)) (.int 0)) (.int 0)), (.int 1), true)] := Okk.fork nd180 nd186
set_option maxRecDepth 1000000 in
theorem nd188 : Okk (rn_0 1 5) [(false, (.op2 .frem (.op2 .iand (.op2 .iushr (.arg 0) (.int 9)) (.int 7)) (.int 0)), (.int 10), true), (false, (.op2 .lcmp (.op2 .frem (.op2 .iand (.op2 .iushr (.arg 0) (.int 9)) (.int 7)) (.int 0)) (.int 0)), (.int 1), false), (false, (.op2 .lcmp (.op2 .frem (.op2 .iand (.op2 .iushr (.arg 0) (.int 6)) (.int 7)) (.int 0)) (.int 0)), (.int 1), true), (false, (.op2 .lcmp (.op2 .frem (.op2 .iand (.op2 .iushr (.arg 0) (.int 3)) (.int 7)) (.int 0)) (.int 0)), (.int 1), true)] := Okk.leaf (by decide +kernel)
set_option maxRecDepth 1000000 in
theorem nd189 : Okk (rn_0 1 5) [(false, (.op2 .frem (.op2 .iand (.op2 .iushr (.arg 0) (.int 9)) (.int 7)) (.int 0)), (.int 123), true), (false, (.op2 .lcmp (.op2 .frem (.op2 .iand (.op2 .iushr (.arg 0) (.int 9)) (.int 7)) (.int 0)) (.int 0)), (.int 1), false), (false, (.op2 .lcmp (.op2 .frem (.op2 .iand (.op2 .iushr (.arg 0) (.int 6)) (.int 7)) (.int 0)) (.int 0)), (.int 1), true), (false, (.op2 .lcmp (.op2 .frem (.op2 .iand (.op2 .iushr (.arg 0) (.int 3)) (.int 7)) (.int 0)) (.int 0)), (.int 1), true)] := Okk.leaf (by decide +kernel)
set_option maxRecDepth 1000000 in
theorem nd190 : Okk (rn_0 1 5) [(false, (.op2 .frem (.op2 .iand (.op2 .iushr (.arg 0) (.int 9)) (.int 7)) (.int 0)), (.int 125), true), (false, (.op2 .lcmp (.op2 .frem (.op2 .iand (.op2 .iushr (.arg 0) (.int 9)) (.int 7)) (.int 0)) (.int 0)), (.int 1), false), (false, (.op2 .lcmp (.op2 .frem (.op2 .iand (.op2 .iushr (.arg 0) (.int 6)) (.int 7)) (.int 0)) (.int 0)), (.int 1), true), (false, (.op2 .lcmp (.op2 .frem (.op2 .iand (.op2 .iushr (.arg 0) (.int 3)) (.int 7)) (.int 0)) (.int 0)), (.int 1), true)] := Okk.leaf (by decide +kernel)
set_option maxRecDepth 1000000 in
theorem nd191 : Okk (rn_0 1 5) [(false, (.op2 .frem (.op2 .iand (.op2 .iushr (.arg 0) (.int 9)) (.int 7)) (.int 0)), (.int 11), true), (false, (.op2 .lcmp (.op2 .frem (.op2 .iand (.op2 .iushr (.arg 0) (.int 9)) (.int 7)) (.int 0)) (.int 0)), (.int 1), false), (false, (.op2 .lcmp (.op2 .frem (.op2 .iand (.op2 .iushr (.arg 0) (.int 6)) (.int 7)) (.int 0)) (.int 0)), (.int 1), true), (false, (.op2 .lcmp (.op2 .frem (.op2 .iand (.op2 .iushr (.arg 0) (.int 3)) (.int 7)) (.int 0)) (.int 0)), (.int 1), true)] := Okk.leaf (by decide +kernel)
set_option maxRecDepth 1000000 in
theorem nd192 : Okk (rn_0 1 5) [(false, (.op2 .frem (.op2 .iand (.op2 .iushr (.arg 0) (.int 9)) (.int 7)) (.int 0)), (.int (-30)), true), (false, (.op2 .lcmp (.op2 .frem (.op2 .iand (.op2 .iushr (.arg 0) (.int 9)) (.int 7)) (.int 0)) (.int 0)), (.int 1), false), (false, (.op2 .lcmp (.op2 .frem (.op2 .iand (.op2 .iushr (.arg 0) (.int 6)) (.int 7)) (.int 0)) (.int 0)), (.int 1), true), (false, (.op2 .lcmp (.op2 .frem (.op2 .iand (.op2 .iushr (.arg 0) (.int 3)) (.int 7)) (.int 0)) (.int 0)), (.int 1), true)] := Okk.leaf (by decide +kernel)
theorem nd193 : Okk (rn_0 1 5) [(false, (.op2 .lcmp (.op2 .frem (.op2 .iand (.op2 .iushr (.arg 0) (.int 9)) (.int 7)) (.int 0)) (.int 0)), (.int 1), false), (false, (.op2 .lcmp (.op2 .frem (.op2 .iand (.op2 .iushr (.arg 0) (.int 6)) (.int 7)) (.int 0)) (.int 0)), (.int 1), true), (false, (.op2 .lcmp (.op2 .frem (.op2 .iand (.op2 .iushr (.arg 0) (.int 3)) (.int 7)) (.int 0)) (.int 0)), (.int 1), true)] := Okk.tab (by decide +kernel) nd188 nd189 nd190 nd191 nd192
theorem nd194 : Okk (rn_0 1 5) [(false, (.op2 .lcmp (.op2 .frem (.op2 .iand (.op2 .iushr (.arg 0) (.int 6)) (.int 7)) (.int 0)) (.int 0)), (.int 1), true), (false, (.op2 .lcmp (.op2 .frem (.op2 .iand (.op2 .iushr (.arg 0) (.int 3)) (.int 7)) (.int 0)) (.int 0)), (.int 1), true)] := Okk.fork nd187 nd193
set_option maxRecDepth 1000000 in
theorem nd195 : Okk (rn_0 1 5) [(false, (.op2 .frem (.op2 .iand (.op2 .iushr (.arg 0) (.int 6)) (.int 7)) (.int 0)), (.int 10), true), (false, (.op2 .lcmp (.op2 .frem (.op2 .iand (.op2 .iushr (.arg 0) (.int 6)) (.int 7)) (.int 0)) (.int 0)), (.int 1), false), (false, (.op2 .lcmp (.op2 .frem (.op2 .iand (.op2 .iushr (.arg 0) (.int 3)) (.int 7)) (.int 0)) (.int 0)), (.int 1), true)] := Okk.leaf (by decide +kernel)
set_option maxRecDepth 1000000 in
theorem nd196 : Okk (rn_0 1 5) [(false, (.op2 .frem (.op2 .iand (.op2 .iushr (.arg 0) (.int 6)) (.int 7)) (.int 0)), (.int 123), true), (false, (.op2 .lcmp (.op2 .frem (.op2 .iand (.op2 .iushr (.arg 0) (.int 6)) (.int 7)) (.int 0)) (.int 0)), (.int 1), false), (false, (.op2 .lcmp (.op2 .frem (.op2 .iand (.op2 .iushr (.arg 0) (.int 3)) (.int 7)) (.int 0)) (.int 0)), (.int 1), true)] := Okk.leaf (by decide +kernel)
set_option maxRecDepth 1000000 in
theorem nd197 : Okk (rn_0 1 5) [(false, (.op2 .frem (.op2 .iand (.op2 .iushr (.arg 0) (.int 6)) (.int 7)) (.int 0)), (.int 125), true), (false, (.op2 .lcmp (.op2 .frem (.op2 .iand (.op2 .iushr (.arg 0) (.int 6)) (.int 7)) (.int 0)) (.int 0)), (.int 1), false), (false, (.op2 .lcmp (.op2 .frem (.op2 .iand (.op2 .iushr (.arg 0) (.int 3)) (.int 7)) (.int 0)) (.int 0)), (.int 1), true)] := Okk.leaf (by decide +kernel)
set_option maxRecDepth 1000000 in
theorem nd198 : Okk (rn_0 1 5) [(false, (.op2 .frem (.op2 .iand (.op2 .iushr (.arg 0) (.int 6)) (.int 7)) (.int 0)), (.int 11), true), (false, (.op2 .lcmp (.op2 .frem (.op2 .iand (.op2 .iushr (.arg 0) (.int 6)) (.int 7)) (.int 0)) (.int 0)), (.int 1), false), (false, (.op2 .lcmp (.op2 .frem (.op2 .iand (.op2 .iushr (.arg 0) (.int 3)) (.int 7)) (.int 0)) (.int 0)), (.int 1), true)] := Okk.leaf (by decide +kernel)
set_option maxRecDepth 1000000 in
theorem nd199 : Okk (rn_0 1 5) [(false, (.op2 .frem (.op2 .iand (.op2 .iushr (.arg 0) (.int 6)) (.int 7)) (.int 0)), (.int (-30)), true), (false, (.op2 .lcmp (.op2 .frem (.op2 .iand (.op2 .iushr (.arg 0) (.int 6)) (.int 7)) (.int 0)) (.int 0)), (.int 1), false), (false, (.op2 .lcmp (.op2 .frem (.op2 .iand (.op2 .iushr (.arg 0) (.int 3)) (.int 7)) (.int 0)) (.int 0)), (.int 1), true)] := Okk.leaf (by decide +kernel)
theorem nd200 : Okk (rn_0 1 5) [(false, (.op2 .lcmp (.op2 .frem (.op2 .iand (.op2 .iushr (.arg 0) (.int 6)) (.int 7)) (.int 0)) (.int 0)), (.int 1), false), (false, (.op2 .lcmp (.op2 .frem (.op2 .iand (.op2 .iushr (.arg 0) (.int 3)) (.int 7)) (.int 0)) (.int 0)), (.int 1), true)] := Okk.tab (by decide +kernel) nd195 nd196 nd197 nd198 nd199
theorem nd201 : Okk (rn_0 1 5) [(false, (.op2 .lcmp (.op2 .frem (.op2 .iand (.op2 .iushr (.arg 0) (.int 3)) (.int 7)) (.int 0)) (.int 0)), (.int 1), true)] := Okk.fork nd194 nd200
set_option maxRecDepth 1000000 in
theorem nd202 : Okk (rn_0 1 5) [(false, (.op2 .frem (.op2 .iand (.op2 .iushr (.arg 0) (.int 3)) (.int 7)) (.int 0)), (.int 10), true), (false, (.op2 .lcmp (.op2 .frem (.op2 .iand (.op2 .iushr (.arg 0) (.int 3)) (.int 7)) (.int 0)) (.int 0)), (.int 1), false)] := Okk.leaf (by decide +kernel)
set_option maxRecDepth 1000000 in
theorem nd203 : Okk (rn_0 1 5) [(false, (.op2 .frem (.op2 .iand (.op2 .iushr (.arg 0) (.int 3)) (.int 7)) (.int 0)), (.int 123), true), (false, (.op2 .lcmp (.op2 .frem (.op2 .iand (.op2 .iushr (.arg 0) (.int 3)) (.int 7)) (.int 0)) (.int 0)), (.int 1), false)] := Okk.leaf (by decide +kernel)
set_option maxRecDepth 1000000 in
theorem nd204 : Okk (rn_0 1 5) [(false, (.op2 .frem (.op2 .iand (.op2 .iushr (.arg 0) (.int 3)) (.int 7)) (.int 0)), (.int 125), true), (false, (.op2 .lcmp (.op2 .frem (.op2 .iand (.op2 .iushr (.arg 0) (.int 3)) (.int 7)) (.int 0)) (.int 0)), (.int 1), false)] := Okk.leaf (by decide +kernel)
set_option maxRecDepth 1000000 in
theorem nd205 : Okk (rn_0 1 5) [(false, (.op2 .frem (.op2 .iand (.op2 .iushr (.arg 0) (.int 3)) (.int 7)) (.int 0)), (.int 11), true), (false, (.op2 .lcmp (.op2 .frem (.op2 .iand (.op2 .iushr (.arg 0) (.int 3)) (.int 7)) (.int 0)) (.int 0)), (.int 1), false)] := Okk.leaf (by decide +kernel)
set_option maxRecDepth 1000000 in
theorem nd206 : Okk (rn_0 1 5) [(false, (.op2 .frem (.op2 .iand (.op2 .iushr (.arg 0) (.int 3)) (.int 7)) (.int 0)), (.int (-30)), true), (false, (.op2 .lcmp (.op2 .frem (.op2 .iand (.op2 .iushr (.arg 0) (.int 3)) (.int 7)) (.int 0)) (.int 0)), (.int 1), false)] := Okk.leaf (by decide +kernel)
theorem nd207 : Okk (rn_0 1 5) [(false, (.op2 .lcmp (.op2 .frem (.op2 .iand (.op2 .iushr (.arg 0) (.int 3)) (.int 7)) (.int 0)) (.int 0)), (.int 1), false)] := Okk.tab (by decide +kernel) nd202 nd203 nd204 nd205 nd206
theorem nd208 : Okk (rn_0 1 5) [] := Okk.fork nd201 nd207
set_option maxRecDepth 1000000 in
theorem nd209 : Okk (rn_0 2 2) [(false, (.op2 .dcmpl (.op2 .iand (.arg 3) (.int 1)) (.int 0)), (.int 0), true)] := Okk.leaf (by decide +kernel)
set_option maxRecDepth 1000000 in
theorem nd210 : Okk (rn_0 2 2) [(false, (.op2 .dcmpl (.op2 .iand (.arg 3) (.int 1)) (.int 0)), (.int 0), false)] := Okk.leaf (by decide +kernel)
theorem nd211 : Okk (rn_0 2 2) [] := Okk.fork nd209 nd210
set_option maxRecDepth 1000000 in
theorem nd212 : Okk (rn_0 2 3) [(false, (.op2 .dcmpl (.op2 .iand (.arg 3) (.int 1)) (.int 0)), (.int 0), true), (false, (.op2 .lcmp (.op2 .frem (.op2 .iand (.op2 .iushr (.arg 0) (.int 6)) (.int 7)) (.int 0)) (.int 0)), (.int 1), true)] := Okk.leaf (by decide +kernel)
set_option maxRecDepth 1000000 in
theorem nd213 : Okk (rn_0 2 3) [(false, (.op2 .dcmpl (.op2 .iand (.arg 3) (.int 1)) (.int 0)), (.int 0), false), (false, (.op2 .lcmp (.op2 .frem (.op2 .iand (.op2 .iushr (.arg 0) (.int 6)) (.int 7)) (.int 0)) (.int 0)), (.int 1), true)] := Okk.leaf (by decide +kernel)
theorem nd214 : Okk (rn_0 2 3) [(false, (.op2 .lcmp (.op2 .frem (.op2 .iand (.op2 .iushr (.arg 0) (.int 6)) (.int 7)) (.int 0)) (.int 0)), (.int 1), true)] := Okk.fork nd212 nd213
set_option maxRecDepth 1000000 in
theorem nd215 : Okk (rn_0 2 3) [(false, (.op2 .frem (.op2 .iand (.op2 .iushr (.arg 0) (.int 6)) (.int 7)) (.int 0)), (.int 10), true), (false, (.op2 .lcmp (.op2 .frem (.op2 .iand (.op2 .iushr (.arg 0) (.int 6)) (.int 7)) (.int 0)) (.int 0)), (.int 1), false)] := Okk.leaf (by decide +kernel)
set_option maxRecDepth 1000000 in
theorem nd216 : Okk (rn_0 2 3) [(false, (.op2 .frem (.op2 .iand (.op2 .iushr (.arg 0) (.int 6)) (.int 7)) (.int 0)), (.int 123), true), (false, (.op2 .lcmp (.op2 .frem (.op2 .iand (.op2 .iushr (.arg 0) (.int 6)) (.int 7)) (.int 0)) (.int 0)), (.int 1), false)] := Okk.leaf (by decide +kernel)
set_option maxRecDepth 1000000 in
theorem nd217 : Okk (rn_0 2 3) [(false, (.op2 .frem (.op2 .iand (.op2 .iushr (.arg 0) (.int 6)) (.int 7)) (.int 0)), (.int 125), true), (false, (.op2 .lcmp (.op2 .frem (.op2 .iand (.op2 .iushr (.arg 0) (.int 6)) (.int 7)) (.int 0)) (.int 0)), (.int 1), false)] := Okk.leaf (by decide +kernel)
set_option maxRecDepth 1000000 in
theorem nd218 : Okk (rn_0 2 3) [(false, (.op2 .frem (.op2 .iand (.op2 .iushr (.arg 0) (.int 6)) (.int 7)) (.int 0)), (.int 11), true), (false, (.op2 .lcmp (.op2 .frem (.op2 .iand (.op2 .iushr (.arg 0) (.int 6)) (.int 7)) (.int 0)) (.int 0)), (.int 1), false)] := Okk.leaf (by decide +kernel)
set_option maxRecDepth 1000000 in
theorem nd219 : Okk (rn_0 2 3) [(false, (.op2 .frem (.op2 .iand (.op2 .iushr (.arg 0) (.int 6)) (.int 7)) (.int 0)), (.int (-30)), true), (false, (.op2 .lcmp (.op2 .frem (.op2 .iand (.op2 .iushr (.arg 0) (.int 6)) (.int 7)) (.int 0)) (.int 0)), (.int 1), false)] := Okk.leaf (by decide +kernel)
theorem nd220 : Okk (rn_0 2 3) [(false, (.op2 .lcmp (.op2 .frem (.op2 .iand (.op2 .iushr (.arg 0) (.int 6)) (.int 7)) (.int 0)) (.int 0)), (.int 1), false)] := Okk.tab (by decide +kernel) nd215 nd216 nd217 nd218 nd219
theorem nd221 : Okk (rn_0 2 3) [] := Okk.fork nd214 nd220
set_option maxRecDepth 1000000 in
theorem nd222 : Okk (rn_0 2 4) [(false, (.op2 .dcmpl (.op2 .iand (.arg 3) (.int 1)) (.int 0)), (.int 0), true), (false, (.op2 .lcmp (.op2 .frem (.op2 .iand (.op2 .iushr (.arg 0) (.int 9)) (.int 7)) (.int 0)) (.int 0)), (.int 1), true), (false, (.op2 .lcmp (.op2 .frem (.op2 .iand (.op2 .iushr (.arg 0) (.int 6)) (.int 7)) (.int 0)) (.int 0)), (.int 1), true)] := Okk.leaf (by decide +kernel)
set_option maxRecDepth 1000000 in
theorem nd223 : Okk (rn_0 2 4) [(false, (.op2 .dcmpl (.op2 .iand (.arg 3) (.int 1)) (.int 0)), (.int 0), false), (false, (.op2 .lcmp (.op2 .frem (.op2 .iand (.op2 .iushr (.arg 0) (.int 9)) (.int 7)) (.int 0)) (.int 0)), (.int 1), true), (false, (.op2 .lcmp (.op2 .frem (.op2 .iand (.op2 .iushr (.arg 0) (.int 6)) (.int 7)) (.int 0)) (.int 0)), (.int 1), true)] := Okk.leaf (by decide +kernel)
theorem nd224 : Okk (rn_0 2 4) [(false, (.op2 .lcmp (.op2 .frem (.op2 .iand (.op2 .iushr (.arg 0) (.int 9)) (.int 7)) (.int 0)) (.int 0)), (.int 1), true), (false, (.op2 .lcmp (.op2 .frem (.op2 .iand (.op2 .iushr (.arg 0) (.int 6)) (.int 7)) (.int 0)) (.int 0)), (.int 1), true)] := Okk.fork nd222 nd223
set_option maxRecDepth 1000000 in
theorem nd225 : Okk (rn_0 2 4) [(false, (.op2 .frem (.op2 .iand (.op2 .iushr (.arg 0) (.int 9)) (.int 7)) (.int 0)), (.int 10), true), (false, (.op2 .lcmp (.op2 .frem (.op2 .iand (.op2 .iushr (.arg 0) (.int 9)) (.int 7)) (.int 0)) (.int 0)), (.int 1), false), (false, (.op2 .lcmp (.op2 .frem (.op2 .iand (.op2 .iushr (.arg 0) (.int 6)) (.int 7)) (.int 0)) (.int 0)), (.int 1), true)] := Okk.leaf (by decide +kernel)
set_option maxRecDepth 1000000 in
theorem nd226 : Okk (rn_0 2 4) [(false, (.op2 .frem (.op2 .iand (.op2 .iushr (.arg 0) (.int 9)) (.int 7)) (.int 0)), (.int 123), true), (false, (.op2 .lcmp (.op2 .frem (.op2 .iand (.op2 .iushr (.arg 0) (.int 9)) (.int 7)) (.int 0)) (.int 0)), (.int 1), false), (false, (.op2 .lcmp (.op2 .frem (.op2 .iand (.op2 .iushr (.arg 0) (.int 6)) (.int 7)) (.int 0)) (.int 0)), (.int 1), true)] := Okk.leaf (by decide +kernel)
set_option maxRecDepth 1000000 in
theorem nd227 : Okk (rn_0 2 4) [(false, (.op2 .frem (.op2 .iand (.op2 .iushr (.arg 0) (.int 9)) (.int 7)) (.int 0)), (.int 125), true), (false, (.op2 .lcmp (.op2 .frem (.op2 .iand (.op2 .iushr (.arg 0) (.int 9)) (.int 7)) (.int 0)) (.int 0)), (.int 1), false), (false, (.op2 .lcmp (.op2 .frem (.op2 .iand (.op2 .iushr (.arg 0) (.int 6)) (.int 7)) (.int 0)) (.int 0)), (.int 1), true)] := Okk.leaf (by decide +kernel)
set_option maxRecDepth 1000000 in
theorem nd228 : Okk (rn_0 2 4) [(false, (.op2 .frem (.op2 .iand (.op2 .iushr (.arg 0) (.int 9)) (.int 7)) (.int 0)), (.int 11), true), (false, (.op2 .lcmp (.op2 .frem (.op2 .iand (.op2 .iushr (.arg 0) (.int 9)) (.int 7)) (.int 0)) (.int 0)), (.int 1), false), (false, (.op2 .lcmp (.op2 .frem (.op2 .iand (.op2 .iushr (.arg 0) (.int 6)) (.int 7)) (.int 0)) (.int 0)), (.int 1), true)] := Okk.leaf (by decide +kernel)
set_option maxRecDepth 1000000 in
theorem nd229 : Okk (rn_0 2 4) [(false, (.op2 .frem (.op2 .iand (.op2 .iushr (.arg 0) (.int 9)) (.int 7)) (.int 0)), (.int (-30)), true), (false, (.op2 .lcmp (.op2 .frem (.op2 .iand (.op2 .iushr (.arg 0) (.int 9)) (.int 7)) (.int 0)) (.int 0)), (.int 1), false), (false, (.op2 .lcmp (.op2 .frem (.op2 .iand (.op2 .iushr (.arg 0) (.int 6)) (.int 7)) (.int 0)) (.int 0)), (.int 1), true)] := Okk.leaf (by decide +kernel)
theorem nd230 : Okk (rn_0 2 4) [(false, (.op2 .lcmp (.op2 .frem (.op2 .iand (.op2 .iushr (.arg 0) (.int 9)) (.int 7)) (.int 0)) (.int 0)), (.int 1), false), (false, (.op2 .lcmp (.op2 .frem (.op2 .iand (.op2 .iushr (.arg 0) (.int 6)) (.int 7)) (.int 0)) (.int 0)), (.int 1), true)] := Okk.tab (by decide +kernel) nd225 nd226 nd227 nd228 nd229
theorem nd231 : Okk (rn_0 2 4) [(false, (.op2 .lcmp (.op2 .frem (.op2 .iand (.op2 .iushr (.arg 0) (.int 6)) (.int 7)) (.int 0)) (.int 0)), (.int 1), true)] := Okk.fork nd224 nd230
set_option maxRecDepth 1000000 in
theorem nd232 : Okk (rn_0 2 4) [(false, (.op2 .frem (.op2 .iand (.op2 .iushr (.arg 0) (.int 6)) (.int 7)) (.int 0)), (.int 10), true), (false, (.op2 .lcmp (.op2 .frem (.op2 .iand (.op2 .iushr (.arg 0) (.int 6)) (.int 7)) (.int 0)) (.int 0)), (.int 1), false)] := Okk.leaf (by decide +kernel)
set_option maxRecDepth 1000000 in
theorem nd233 : Okk (rn_0 2 4) [(false, (.op2 .frem (.op2 .iand (.op2 .iushr (.arg 0) (.int 6)) (.int 7)) (.int 0)), (.int 123), true), (false, (.op2 .lcmp (.op2 .frem (.op2 .iand (.op2 .iushr (.arg 0) (.int 6)) (.int 7)) (.int 0)) (.int 0)), (.int 1), false)] := Okk.leaf (by decide +kernel)
set_option maxRecDepth 1000000 in
theorem nd234 : Okk (rn_0 2 4) [(false, (.op2 .frem (.op2 .iand (.op2 .iushr (.arg 0) (.int 6)) (.int 7)) (.int 0)), (.int 125), true), (false, (.op2 .lcmp (.op2 .frem (.op2 .iand (.op2 .iushr (.arg 0) (.int 6)) (.int 7)) (.int 0)) (.int 0)), (.int 1), false)] := Okk.leaf (by decide +kernel)
set_option maxRecDepth 1000000 in
theorem nd235 : Okk (rn_0 2 4) [(false, (.op2 .frem (.op2 .iand (.op2 .iushr (.arg 0) (.int 6)) (.int 7)) (.int 0)), (.int 11), true), (false, (.op2 .lcmp (.op2 .frem (.op2 .iand (.op2 .iushr (.arg 0) (.int 6)) (.int 7)) (.int 0)) (.int 0)), (.int 1), false)] := Okk.leaf (by decide +kernel)
set_option maxRecDepth 1000000 in
theorem nd236 : Okk (rn_0 2 4) [(false, (.op2 .frem (.op2 .iand (.op2 .iushr (.arg 0) (.int 6)) (.int 7)) (.int 0)), (.int (-30)), true), (false, (.op2 .lcmp (.op2 .frem (.op2 .iand (.op2 .iushr (.arg 0) (.int 6)) (.int 7)) (.int 0)) (.int 0)), (.int 1), false)] := Okk.leaf (by decide +kernel)
theorem nd237 : Okk (rn_0 2 4) [(false, (.op2 .lcmp (.op2 .frem (.op2 .iand (.op2 .iushr (.arg 0) (.int 6)) (.int 7)) (.int 0)) (.int 0)), (.int 1), false)] := Okk.tab (by decide +kernel) nd232 nd233 nd234 nd235 nd236
theorem nd238 : Okk (rn_0 2 4) [] := Okk.fork nd231 nd237
set_option maxRecDepth 1000000 in
theorem nd239 : Okk (rn_0 2 5) [(false, (.op2 .dcmpl (.op2 .iand (.arg 3) (.int 1)) (.int 0)), (.int 0), true), (false, (.op2 .lcmp (.op2 .frem (.op2 .iand (.op2 .iushr (.arg 0) (.int 12)) (.int 7)) (.int 0)) (.int 0)), (.int 1), true), (false, (.op2 .lcmp (.op2 .frem (.op2 .iand (.op2 .iushr (.arg 0) (.int 9)) (.int 7)) (.int 0)) (.int 0)), (.int 1), true), (false, (.op2 .lcmp (.op2 .frem (.op2 .iand (.op2 .iushr (.arg 0) (.int 6)) (.int 7)) (.int 0)) (.int 0)), (.int 1), true)] := Okk.leaf (by decide +kernel)
set_option maxRecDepth 1000000 in
theorem nd240 : Okk (rn_0 2 5) [(false, (.op2 .dcmpl (.op2 .iand (.arg 3) (.int 1)) (.int 0)), (.int 0), false), (false, (.op2 .lcmp (.op2 .frem (.op2 .iand (.op2 .iushr (.arg 0) (.int 12)) (.int 7)) (.int 0)) (.int 0)), (.int 1), true), (false, (.op2 .lcmp (.op2 .frem (.op2 .iand (.op2 .iushr (.arg 0) (.int 9)) (.int 7)) (.int 0)) (.int 0)), (.int 1), true), (false, (.op2 .lcmp (.op2 .frem (.op2 .iand (.op2 .iushr (.arg 0) (.int 6)) (.int 7)) (.int 0)) (.int 0)), (.int 1), true)] := Okk.leaf (by decide +kernel)
theorem nd241 : Okk (rn_0 2 5) [(false, (.op2 .lcmp (.op2 .frem (.op2 .iand (.op2 .iushr (.arg 0) (.int 12)) (.int 7)) (.int 0)) (.int 0)), (.int 1), true), (false, (.op2 .lcmp (.op2 .frem (.op2 .iand (.op2 .iushr (.arg 0) (.int 9)) (.int 7)) (.int 0)) (.int 0)), (.int 1), true), (false, (.op2 .lcmp (.op2 .frem (.op2 .iand (.op2 .iushr (.arg 0) (.int 6)) (.int 7)) (.int 0)) (.int 0)), (.int 1), true)] := Okk.fork nd239 nd240
set_option maxRecDepth 1000000 in
theorem nd242 : Okk (rn_0 2 5) [(false, (.op2 .frem (.op2 .iand (.op2 .iushr (.arg 0) (.int 12)) (.int 7)) (.int 0)), (.int 10), true), (false, (.op2 .lcmp (.op2 .frem (.op2 .iand (.op2 .iushr (.arg 0) (.int 12)) (.int 7)) (.int 0)) (.int 0)), (.int 1), false), (false, (.op2 .lcmp (.op2 .frem (.op2 .iand (.op2 .iushr (.arg 0) (.int 9)) (.int 7)) (.int 0)) (.int 0)), (.int 1), true), (false, (.op2 .lcmp (.op2 .frem (.op2 .iand (.op2 .iushr (.arg 0) (.int 6)) (.int 7)) (.int 0)) (.int 0)), (.int 1), true)] := Okk.leaf (by decide +kernel)
set_option maxRecDepth 1000000 in
theorem nd243 : Okk (rn_0 2 5) [(false, (.op2 .frem (.op2 .iand (.op2 .iushr (.arg 0) (.int 12)) (.int 7)) (.int 0)), (.int 123), true), (false, (.op2 .lcmp (.op2 .frem (.op2 .iand (.op2 .iushr (.arg 0) (.int 12)) (.int 7)) (.int 0)) (.int 0)), (.int 1), false), (false, (.op2 .lcmp (.op2 .frem (.op2 .iand (.op2 .iushr (.arg 0) (.int 9)) (.int 7)) (.int 0)) (.int 0)), (.int 1), true), (false, (.op2 .lcmp (.op2 .frem (.op2 .iand (.op2 .iushr (.arg 0) (.int 6)) (.int 7)) (.int 0)) (.int 0)), (.int 1), true)] := Okk.leaf (by decide +kernel)
set_option maxRecDepth 1000000 in
theorem nd244 : Okk (rn_0 2 5) [(false, (.op2 .frem (.op2 .iand (.op2 .iushr (.arg 0) (.int 12)) (.int 7)) (.int 0)), (.int 125), true), (false, (.op2 .lcmp (.op2 .frem (.op2 .iand (.op2 .iushr (.arg 0) (.int 12)) (.int 7)) (.int 0)) (.int 0)), (.int 1), false), (false, (.op2 .lcmp (.op2 .frem (.op2 .iand (.op2 .iushr (.arg 0) (.int 9)) (.int 7)) (.int 0)) (.int 0)), (.int 1), true), (false, (.op2 .lcmp (.op2 .frem (.op2 .iand (.op2 .iushr (.arg 0) (.int 6)) (.int 7)) (.int 0)) (.int 0)), (.int 1), true)] := Okk.leaf (by decide +kernel)
set_option maxRecDepth 1000000 in
theorem nd245 : Okk (rn_0 2 5) [(false, (.op2 .frem (.op2 .iand (.op2 .iushr (.arg 0) (.int 12)) (.int 7)) (.int 0)), (.int 11), true), (false, (.op2 .lcmp (.op2 .frem (.op2 .iand (.op2 .iushr (.arg 0) (.int 12)) (.int 7)) (.int 0)) (.int 0)), (.int 1), false), (false, (.op2 .lcmp (.op2 .frem (.op2 .iand (.op2 .iushr (.arg 0) (.int 9)) (.int 7)) (.int 0)) (.int 0)), (.int 1), true), (false, (.op2 .lcmp (.op2 .frem (.op2 .iand (.op2 .iushr (.arg 0) (.int 6)) (.int 7)) (.int 0)) (.int 0)), (.int 1), true)] := Okk.leaf (by decide +kernel)
set_option maxRecDepth 1000000 in
theorem nd246 : Okk (rn_0 2 5) [(false, (.op2 .frem (.op2 .iand (.op2 .iushr (.arg 0) (.int 12)) (.int 7)) (.int 0)), (.int (-30)), true), (false, (.op2 .lcmp (.op2 .frem (.op2 .iand (.op2 .iushr (.arg 0) (.int 12)) (.int 7)) (.int 0)) (.int 0)), (.int 1), false), (false, (.op2 .lcmp (.op2 .frem (.op2 .iand (.op2 .iushr (.arg 0) (.int 9)) (.int 7)) (.int 0)) (.int 0)), (.int 1), true), (false, (.op2 .lcmp (.op2 .frem (.op2 .iand (.op2 .iushr (.arg 0) (.int 6)) (.int 7)) (.int 0)) (.int 0)), (.int 1), true)] := Okk.leaf (by decide +kernel)
theorem nd247 : Okk (rn_0 2 5) [(false, (.op2 .lcmp (.op2 .frem (.op2 .iand (.op2 .iushr (.arg 0) (.int 12)) (.int 7)) (.int 0)) (.int 0)), (.int 1), false), (false, (.op2 .lcmp (.op2 .frem (.op2 .iand (.op2 .iushr (.arg 0) (.int 9)) (.int 7)) (.int 0)) (.int 0)), (.int 1), true), (false, (.op2 .lcmp (.op2 .frem (.op2 .iand (.op2 .iushr (.arg 0) (.int 6)) (.int 7)) (.int 0)) (.int 0)), (.int 1), true)] := Okk.tab (by decide +kernel) nd242 nd243 nd244 nd245 nd246
theorem nd248 : Okk (rn_0 2 5) [(false, (.op2 .lcmp (.op2 .frem (.op2 .iand (.op2 .iushr (.arg 0) (.int 9)) (.int 7)) (.int 0)) (.int 0)), (.int 1), true), (false, (.op2 .lcmp (.op2 .frem (.op2 .iand (.op2 .iushr (.arg 0) (.int 6)) (.int 7)) (.int 0)) (.int 0)), (.int 1), true)] := Okk.fork nd241 nd247
set_option maxRecDepth 1000000 in
theorem nd249 : Okk (rn_0 2 5) [(false, (.op2 .frem (.op2 .iand (.op2 .iushr (.arg 0) (.int 9)) (.int 7)) (.int 0)), (.int 10), true), (false, (.op2 .lcmp (.op2 .frem (.op2 .iand (.op2 .iushr (.arg 0) (.int 9)) (.int 7)) (.int 0)) (.int 0)), (.int 1), false), (false, (.op2 .lcmp (.op2 .frem (.op2 .iand (.op2 .iushr (.arg 0) (.int 6)) (.int 7)) (.int 0)) (.int 0)), (.int 1), true)] := Okk.leaf (by decide +kernel)
set_option maxRecDepth 1000000 in
theorem nd250 : Okk (rn_0 2 5) [(false, (.op2 .frem (.op2 .iand (.op2 .iushr (.arg 0) (.int 9)) (.int 7)) (.int 0)), (.int 123), true), (false, (.op2 .lcmp (.op2 .frem (.op2 .iand (.op2 .iushr (.arg 0) (.int 9)) (.int 7)) (.int 0)) (.int 0)), (.int 1), false), (false, (.op2 .lcmp (.op2 .frem (.op2 .iand (.op2 .iushr (.arg 0) (.int 6)) (.int 7)) (.int 0)) (.int 0)), (.int 1), true)] := Okk.leaf (by decide +kernel)
set_option maxRecDepth 1000000 in
theorem nd251 : Okk (rn_0 2 5) [(false, (.op2 .frem (.op2 .iand (.op2 .iushr (.arg 0) (.int 9)) (.int 7)) (.int 0)), (.int 125), true), (false, (.op2 .lcmp (.op2 .frem (.op2 .iand (.op2 .iushr (.arg 0) (.int 9)) (.int 7)) (.int 0)) (.int 0)), (.int 1), false), (false, (.op2 .lcmp (.op2 .frem (.op2 .iand (.op2 .iushr (.arg 0) (.int 6)) (.int 7)) (.int 0)) (.int 0)), (.int 1), true)] := Okk.leaf (by decide +kernel)
set_option maxRecDepth 1000000 in
theorem nd252 : Okk (rn_0 2 5) [(false, (.op2 .frem (.op2 .iand (.op2 .iushr (.arg 0) (.int 9)) (.int 7)) (.int 0)), (.int 11), true), (false, (.op2 .lcmp (.op2 .frem (.op2 .iand (.op2 .iushr (.arg 0) (.int 9)) (.int 7)) (.int 0)) (.int 0)), (.int 1), false), (false, (.op2 .lcmp (.op2 .frem (.op2 .iand (.op2 .iushr (.arg 0) (.int 6)) (.int 7)) (.int 0)) (.int 0)), (.int 1), true)] := Okk.leaf (by decide +kernel)
set_option maxRecDepth 1000000 in
theorem nd253 : Okk (rn_0 2 5) [(false, (.op2 .frem (.op2 .iand (.op2 .iushr (.arg 0) (.int 9)) (.int 7)) (.int 0)), (.int (-30)), true), (false, (.op2 .lcmp (.op2 .frem (.op2 .iand (.op2 .iushr (.arg 0) (.int 9)) (.int 7)) (.int 0)) (.int 0)), (.int 1), false), (false, (.op2 .lcmp (.op2 .frem (.op2 .iand (.op2 .iushr (.arg 0) (.int 6)) (.int 7)) (.int 0)) (.int 0)), (.int 1), true)] := Okk.leaf (by decide +kernel)
theorem nd254 : Okk (rn_0 2 5) [(false, (.op2 .lcmp (.op2 .frem (.op2 .iand (.op2 .iushr (.arg 0) (.int 9)) (.int 7)) (.int 0)) (.int 0)), (.int 1), false), (false, (.op2 .lcmp (.op2 .frem (.op2 .iand (.op2 .iushr (.arg 0) (.int 6)) (.int 7)) (.int 0)) (.int 0)), (.int 1), true)] := Okk.tab (by decide +kernel) nd249 nd250 nd251 nd252 nd253
theorem nd255 : Okk (rn_0 2 5) [(false, (.op2 .lcmp (.op2 .frem (.op2 .iand (.op2 .iushr (.arg 0) (.int 6)) (.int 7)) (.int 0)) (.int 0)), (.int 1), true)] := Okk.fork nd248 nd254
set_option maxRecDepth 1000000 in
theorem nd256 : Okk (rn_0 2 5) [(false, (.op2 .frem (.op2 .iand (.op2 .iushr (.arg 0) (.int 6)) (.int 7)) (.int 0)), (.int 10), true), (false, (.op2 .lcmp (.op2 .frem (.op2 .iand (.op2 .iushr (.arg 0) (.int 6)) (.int 7)) (.int 0)) (.int 0)), (.int 1), false)] := Okk.leaf (by decide +kernel)
set_option maxRecDepth 1000000 in
theorem nd257 : Okk (rn_0 2 5) [(false, (.op2 .frem (.op2 .iand (.op2 .iushr (.arg 0) (.int 6)) (.int 7)) (.int 0)), (.int 123), true), (false, (.op2 .lcmp (.op2 .frem (.op2 .iand (.op2 .iushr (.arg 0) (.int 6)) (.int 7)) (.int 0)) (.int 0)), (.int 1), false)] := Okk.leaf (by decide +kernel)
set_option maxRecDepth 1000000 in
theorem nd258 : Okk (rn_0 2 5) [(false, (.op2 .frem (.op2 .iand (.op2 .iushr (.arg 0) (.int 6)) (.int 7)) (.int 0)), (.int 125), true), (false, (.op2 .lcmp (.op2 .frem (.op2 .iand (.op2 .iushr (.arg 0) (.int 6)) (.int 7)) (.int 0)) (.int 0)), (.int 1), false)] := Okk.leaf (by decide +kernel)
set_option maxRecDepth 1000000 in
theorem nd259 : Okk (rn_0 2 5) [(false, (.op2 .frem (.op2 .iand (.op2 .iushr (.arg 0) (.int 6)) (.int 7)) (.int 0)), (.int 11), true), (false, (.op2 .lcmp (.op2 .frem (.op2 .iand (.op2 .iushr (.arg 0) (.int 6)) (.int 7)) (.int 0)) (.int 0)), (.int 1), false)] := Okk.leaf (by decide +kernel)
set_option maxRecDepth 1000000 in
theorem nd260 : Okk (rn_0 2 5) [(false, (.op2 .frem (.op2 .iand (.op2 .iushr (.arg 0) (.int 6)) (.int 7)) (.int 0)), (.int (-30)), true), (false, (.op2 .lcmp (.op2 .frem (.op2 .iand (.op2 .iushr (.arg 0) (.int 6)) (.int 7)) (.int 0)) (.int 0)), (.int 1), false)] := Okk.leaf (by decide +kernel)
theorem nd261 : Okk (rn_0 2 5) [(false, (.op2 .lcmp (.op2 .frem (.op2 .iand (.op2 .iushr (.arg 0) (.int 6)) (.int 7)) (.int 0)) (.int 0)), (.int 1), false)] := Okk.tab (by decide +kernel) nd256 nd257 nd258 nd259 nd260
theorem nd262 : Okk (rn_0 2 5) [] := Okk.fork nd255 nd261
set_option maxRecDepth 1000000 in
theorem nd263 : Okk (rn_0 3 3) [(false, (.op2 .dcmpl (.op2 .iand (.arg 3) (.int 1)) (.int 0)), (.int 0), true)] := Okk.leaf (by decide +kernel)
set_option maxRecDepth 1000000 in
theorem nd264 : Okk (rn_0 3 3) [(false, (.op2 .dcmpl (.op2 .iand (.arg 3) (.int 1)) (.int 0)), (.int 0), false)] := Okk.leaf (by decide +kernel)
theorem nd265 : Okk (rn_0 3 3) [] := Okk.fork nd263 nd264
set_option maxRecDepth 1000000 in
theorem nd266 : Okk (rn_0 3 4) [(false, (.op2 .dcmpl (.op2 .iand (.arg 3) (.int 1)) (.int 0)), (.int 0), true), (false, (.op2 .lcmp (.op2 .frem (.op2 .iand (.op2 .iushr (.arg 0) (.int 9)) (.int 7)) (.int 0)) (.int 0)), (.int 1), true)] := Okk.leaf (by decide +kernel)
set_option maxRecDepth 1000000 in
theorem nd267 : Okk (rn_0 3 4) [(false, (.op2 .dcmpl (.op2 .iand (.arg 3) (.int 1)) (.int 0)), (.int 0), false), (false, (.op2 .lcmp (.op2 .frem (.op2 .iand (.op2 .iushr (.arg 0) (.int 9)) (.int 7)) (.int 0)) (.int 0)), (.int 1), true)] := Okk.leaf (by decide +kernel)
theorem nd268 : Okk (rn_0 3 4) [(false, (.op2 .lcmp (.op2 .frem (.op2 .iand (.op2 .iushr (.arg 0) (.int 9)) (.int 7)) (.int 0)) (.int 0)), (.int 1), true)] := Okk.fork nd266 nd267
set_option maxRecDepth 1000000 in
theorem nd269 : Okk (rn_0 3 4) [(false, (.op2 .frem (.op2 .iand (.op2 .iushr (.arg 0) (.int 9)) (.int 7)) (.int 0)), (.int 10), true), (false, (.op2 .lcmp (.op2 .frem (.op2 .iand (.op2 .iushr (.arg 0) (.int 9)) (.int 7)) (.int 0)) (.int 0)), (.int 1), false)] := Okk.leaf (by decide +kernel)
set_option maxRecDepth 1000000 in
theorem nd270 : Okk (rn_0 3 4) [(false, (.op2 .frem (.op2 .iand (.op2 .iushr (.arg 0) (.int 9)) (.int 7)) (.int 0)), (.int 123), true), (false, (.op2 .lcmp (.op2 .frem (.op2 .iand (.op2 .iushr (.arg 0) (.int 9)) (.int 7)) (.int 0)) (.int 0)), (.int 1), false)] := Okk.leaf (by decide +kernel)
set_option maxRecDepth 1000000 in
theorem nd271 : Okk (rn_0 3 4) [(false, (.op2 .frem (.op2 .iand (.op2 .iushr (.arg 0) (.int 9)) (.int 7)) (.int 0)), (.int 125), true), (false, (.op2 .lcmp (.op2 .frem (.op2 .iand (.op2 .iushr (.arg 0) (.int 9)) (.int 7)) (.int 0)) (.int 0)), (.int 1), false)] := Okk.leaf (by decide +kernel)
set_option maxRecDepth 1000000 in
theorem nd272 : Okk (rn_0 3 4) [(false, (.op2 .frem (.op2 .iand (.op2 .iushr (.arg 0) (.int 9)) (.int 7)) (.int 0)), (.int 11), true), (false, (.op2 .lcmp (.op2 .frem (.op2 .iand (.op2 .iushr (.arg 0) (.int 9)) (.int 7)) (.int 0)) (.int 0)), (.int 1), false)] := Okk.leaf (by decide +kernel)
set_option maxRecDepth 1000000 in
theorem nd273 : Okk (rn_0 3 4) [(false, (.op2 .frem (.op2 .iand (.op2 .iushr (.arg 0) (.int 9)) (.int 7)) (.int 0)), (.int (-30)), true), (false, (.op2 .lcmp (.op2 .frem (.op2 .iand (.op2 .iushr (.arg 0) (.int 9)) (.int 7)) (.int 0)) (.int 0)), (.int 1), false)] := Okk.leaf (by decide +kernel)
theorem nd274 : Okk (rn_0 3 4) [(false, (.op2 .lcmp (.op2 .frem (.op2 .iand (.op2 .iushr (.arg 0) (.int 9)) (.int 7)) (.int 0)) (.int 0)), (.int 1), false)] := Okk.tab (by decide +kernel) nd269 nd270 nd271 nd272 nd273
theorem nd275 : Okk (rn_0 3 4) [] := Okk.fork nd268 nd274
set_option maxRecDepth 1000000 in
theorem nd276 : Okk (rn_0 3 5) [(false, (.op2 .dcmpl (.op2 .iand (.arg 3) (.int 1)) (.int 0)), (.int 0), true), (false, (.op2 .lcmp (.op2 .frem (.op2 .iand (.op2 .iushr (.arg 0) (.int 12)) (.int 7)) (.int 0)) (.int 0)), (.int 1), true), (false, (.op2 .lcmp (.op2 .frem (.op2 .iand (.op2 .iushr (.arg 0) (.int 9)) (.int 7)) (.int 0)) (.int 0)), (.int 1), true)] := Okk.leaf (by decide +kernel)
set_option maxRecDepth 1000000 in
theorem nd277 : Okk (rn_0 3 5) [(false, (.op2 .dcmpl (.op2 .iand (.arg 3) (.int 1)) (.int 0)), (.int 0), false), (false, (.op2 .lcmp (.op2 .frem (.op2 .iand (.op2 .iushr (.arg 0) (.int 12)) (.int 7)) (.int 0)) (.int 0)), (.int 1), true), (false, (.op2 .lcmp (.op2 .frem (.op2 .iand (.op2 .iushr (.arg 0) (.int 9)) (.int 7)) (.int 0)) (.int 0)), (.int 1), true)] := Okk.leaf (by decide +kernel)
theorem nd278 : Okk (rn_0 3 5) [(false, (.op2 .lcmp (.op2 .frem (.op2 .iand (.op2 .iushr (.arg 0) (.int 12)) (.int 7)) (.int 0)) (.int 0)), (.int 1), true), (false, (.op2 .lcmp (.op2 .frem (.op2 .iand (.op2 .iushr (.arg 0) (.int 9)) (.int 7)) (.int 0)) (.int 0)), (.int 1), true)] := Okk.fork nd276 nd277
set_option maxRecDepth 1000000 in
theorem nd279 : Okk (rn_0 3 5) [(false, (.op2 .frem (.op2 .iand (.op2 .iushr (.arg 0) (.int 12)) (.int 7)) (.int 0)), (.int 10), true), (false, (.op2 .lcmp (.op2 .frem (.op2 .iand (.op2 .iushr (.arg 0) (.int 12)) (.int 7)) (.int 0)) (.int 0)), (.int 1), false), (false, (.op2 .lcmp (.op2 .frem (.op2 .iand (.op2 .iushr (.arg 0) (.int 9)) (.int 7)) (.int 0)) (.int 0)), (.int 1), true)] := Okk.leaf (by decide +kernel)
set_option maxRecDepth 1000000 in
theorem nd280 : Okk (rn_0 3 5) [(false, (.op2 .frem (.op2 .iand (.op2 .iushr (.arg 0) (.int 12)) (.int 7)) (.int 0)), (.int 123), true), (false, (.op2 .lcmp (.op2 .frem (.op2 .iand (.op2 .iushr (.arg 0) (.int 12)) (.int 7)) (.int 0)) (.int 0)), (.int 1), false), (false, (.op2 .lcmp (.op2 .frem (.op2 .iand (.op2 .iushr (.arg 0) (.int 9)) (.int 7)) (.int 0)) (.int 0)), (.int 1), true)] := Okk.leaf (by decide +kernel)
set_option maxRecDepth 1000000 in
theorem nd281 : Okk (rn_0 3 5) [(false, (.op2 .frem (.op2 .iand (.op2 .iushr (.arg 0) (.int 12)) (.int 7)) (.int 0)), (.int 125), true), (false, (.op2 .lcmp (.op2 .frem (.op2 .iand (.op2 .iushr (.arg 0) (.int 12)) (.int 7)) (.int 0)) (.int 0)), (.int 1), false), (false, (.op2 .lcmp (.op2 .frem (.op2 .iand (.op2 .iushr (.arg 0) (.int 9)) (.int 7)) (.int 0)) (.int 0)), (.int 1), true)] := Okk.leaf (by decide +kernel)
set_option maxRecDepth 1000000 in
theorem nd282 : Okk (rn_0 3 5) [(false, (.op2 .frem (.op2 .iand (.op2 .iushr (.arg 0) (.int 12)) (.int 7)) (.int 0)), (.int 11), true), (false, (.op2 .lcmp (.op2 .frem (.op2 .iand (.op2 .iushr (.arg 0) (.int 12)) (.int 7)) (.int 0)) (.int 0)), (.int 1), false), (false, (.op2 .lcmp (.op2 .frem (.op2 .iand (.op2 .iushr (.arg 0) (.int 9)) (.int 7)) (.int 0)) (.int 0)), (.int 1), true)] := Okk.leaf (by decide +kernel)
set_option maxRecDepth 1000000 in
theorem nd283 : Okk (rn_0 3 5) [(false, (.op2 .frem (.op2 .iand (.op2 .iushr (.arg 0) (.int 12)) (.int 7)) (.int 0)), (.int (-30)), true), (false, (.op2 .lcmp (.op2 .frem (.op2 .iand (.op2 .iushr (.arg 0) (.int 12)) (.int 7)) (.int 0)) (.int 0)), (.int 1), false), (false, (.op2 .lcmp (.op2 .frem (.op2 .iand (.op2 .iushr (.arg 0) (.int 9)) (.int 7)) (.int 0)) (.int 0)), (.int 1), true)] := Okk.leaf (by decide +kernel)
theorem nd284 : Okk (rn_0 3 5) [(false, (.op2 .lcmp (.op2 .frem (.op2 .iand (.op2 .iushr (.arg 0) (.int 12)) (.int 7)) (.int 0)) (.int 0)), (.int 1), false), (false, (.op2 .lcmp (.op2 .frem (.op2 .iand (.op2 .iushr (.arg 0) (.int 9)) (.int 7)) (.int 0)) (.int 0)), (.int 1), true)] := Okk.tab (by decide +kernel) nd279 nd280 nd281 nd282 nd283
theorem nd285 : Okk (rn_0 3 5) [(false, (.op2 .lcmp (.op2 .frem (.op2 .iand (.op2 .iushr (.arg 0) (.int 9)) (.int 7)) (.int 0)) (.int 0)), (.int 1), true)] := Okk.fork nd278 nd284
set_option maxRecDepth 1000000 in
theorem nd286 : Okk (rn_0 3 5) [(false, (.op2 .frem (.op2 .iand (.op2 .iushr (.arg 0) (.int 9)) (.int 7)) (.int 0)), (.int 10), true), (false, (.op2 .lcmp (.op2 .frem (.op2 .iand (.op2 .iushr (.arg 0) (.int 9)) (.int 7)) (.int 0)) (.int 0)), (.int 1), false)] := Okk.leaf (by decide +kernel)
set_option maxRecDepth 1000000 in
theorem nd287 : Okk (rn_0 3 5) [(false, (.op2 .frem (.op2 .iand (.op2 .iushr (.arg 0) (.int 9)) (.int 7)) (.int 0)), (.int 123), true), (false, (.op2 .lcmp (.op2 .frem (.op2 .iand (.op2 .iushr (.arg 0) (.int 9)) (.int 7)) (.int 0)) (.int 0)), (.int 1), false)] := Okk.leaf (by decide +kernel)
set_option maxRecDepth 1000000 in
theorem nd288 : Okk (rn_0 3 5) [(false, (.op2 .frem (.op2 .iand (.op2 .iushr (.arg 0) (.int 9)) (.int 7)) (.int 0)), (.int 125), true), (false, (.op2 .lcmp (.op2 .frem (.op2 .iand (.op2 .iushr (.arg 0) (.int 9)) (.int 7)) (.int 0)) (.int 0)), (.int 1), false)] := Okk.leaf (by decide +kernel)
set_option maxRecDepth 1000000 in
theorem nd289 : Okk (rn_0 3 5) [(false, (.op2 .frem (.op2 .iand (.op2 .iushr (.arg 0) (.int 9)) (.int 7)) (.int 0)), (.int 11), true), (false, (.op2 .lcmp (.op2 .frem (.op2 .iand (.op2 .iushr (.arg 0) (.int 9)) (.int 7)) (.int 0)) (.int 0)), (.int 1), false)] := Okk.leaf (by decide +kernel)
set_option maxRecDepth 1000000 in
theorem nd290 : Okk (rn_0 3 5) [(false, (.op2 .frem (.op2 .iand (.op2 .iushr (.arg 0) (.int 9)) (.int 7)) (.int 0)), (.int (-30)), true), (false, (.op2 .lcmp (.op2 .frem (.op2 .iand (.op2 .iushr (.arg 0) (.int 9)) (.int 7)) (.int 0)) (.int 0)), (.int 1), false)] := Okk.leaf (by decide +kernel)
theorem nd291 : Okk (rn_0 3 5) [(false, (.op2 .lcmp (.op2 .frem (.op2 .iand (.op2 .iushr (.arg 0) (.int 9)) (.int 7)) (.int 0)) (.int 0)), (.int 1), false)] := Okk.tab (by decide +kernel) nd286 nd287 nd288 nd289 nd290
theorem nd292 : Okk (rn_0 3 5) [] := Okk.fork nd285 nd291
set_option maxRecDepth 1000000 in
theorem nd293 : Okk (rn_0 4 4) [(false, (.op2 .dcmpl (.op2 .iand (.arg 3) (.int 1)) (.int 0)), (.int 0), true)] := Okk.leaf (by decide +kernel)
set_option maxRecDepth 1000000 in
theorem nd294 : Okk (rn_0 4 4) [(false, (.op2 .dcmpl (.op2 .iand (.arg 3) (.int 1)) (.int 0)), (.int 0), false)] := Okk.leaf (by decide +kernel)
theorem nd295 : Okk (rn_0 4 4) [] := Okk.fork nd293 nd294
set_option maxRecDepth 1000000 in
theorem nd296 : Okk (rn_0 4 5) [(false, (.op2 .dcmpl (.op2 .iand (.arg 3) (.int 1)) (.int 0)), (.int 0), true), (false, (.op2 .lcmp (.op2 .frem (.op2 .iand (.op2 .iushr (.arg 0) (.int 12)) (.int 7)) (.int 0)) (.int 0)), (.int 1), true)] := Okk.leaf (by decide +kernel)
set_option maxRecDepth 1000000 in
theorem nd297 : Okk (rn_0 4 5) [(false, (.op2 .dcmpl (.op2 .iand (.arg 3) (.int 1)) (.int 0)), (.int 0), false), (false, (.op2 .lcmp (.op2 .frem (.op2 .iand (.op2 .iushr (.arg 0) (.int 12)) (.int 7)) (.int 0)) (.int 0)), (.int 1), true)] := Okk.leaf (by decide +kernel)
theorem nd298 : Okk (rn_0 4 5) [(false, (.op2 .lcmp (.op2 .frem (.op2 .iand (.op2 .iushr (.arg 0) (.int 12)) (.int 7)) (.int 0)) (.int 0)), (.int 1), true)] := Okk.fork nd296 nd297
set_option maxRecDepth 1000000 in
theorem nd299 : Okk (rn_0 4 5) [(false, (.op2 .frem (.op2 .iand (.op2 .iushr (.arg 0) (.int 12)) (.int 7)) (.int 0)), (.int 10), true), (false, (.op2 .lcmp (.op2 .frem (.op2 .iand (.op2 .iushr (.arg 0) (.int 12)) (.int 7)) (.int 0)) (.int 0)), (.int 1), false)] := Okk.leaf (by decide +kernel)
set_option maxRecDepth 1000000 in
theorem nd300 : Okk (rn_0 4 5) [(false, (.op2 .frem (.op2 .iand (.op2 .iushr (.arg 0) (.int 12)) (.int 7)) (.int 0)), (.int 123), true), (false, (.op2 .lcmp (.op2 .frem (.op2 .iand (.op2 .iushr (.arg 0) (.int 12)) (.int 7)) (.int 0)) (.int 0)), (.int 1), false)] := Okk.leaf (by decide +kernel)
set_option maxRecDepth 1000000 in
theorem nd301 : Okk (rn_0 4 5) [(false, (.op2 .frem (.op2 .iand (.op2 .iushr (.arg 0) (.int 12)) (.int 7)) (.int 0)), (.int 125), true), (false, (.op2 .lcmp (.op2 .frem (.op2 .iand (.op2 .iushr (.arg 0) (.int 12)) (.int 7)) (.int 0)) (.int 0)), (.int 1), false)] := Okk.leaf (by decide +kernel)
set_option maxRecDepth 1000000 in
theorem nd302 : Okk (rn_0 4 5) [(false, (.op2 .frem (.op2 .iand (.op2 .iushr (.arg 0) (.int 12)) (.int 7)) (.int 0)), (.int 11), true), (false, (.op2 .lcmp (.op2 .frem (.op2 .iand (.op2 .iushr (.arg 0) (.int 12)) (.int 7)) (.int 0)) (.int 0)), (.int 1), false)] := Okk.leaf (by decide +kernel)
set_option maxRecDepth 1000000 in
theorem nd303 : Okk (rn_0 4 5) [(false, (.op2 .frem (.op2 .iand (.op2 .iushr (.arg 0) (.int 12)) (.int 7)) (.int 0)), (.int (-30)), true), (false, (.op2 .lcmp (.op2 .frem (.op2 .iand (.op2 .iushr (.arg 0) (.int 12)) (.int 7)) (.int 0)) (.int 0)), (.int 1), false)] := Okk.leaf (by decide +kernel)
theorem nd304 : Okk (rn_0 4 5) [(false, (.op2 .lcmp (.op2 .frem (.op2 .iand (.op2 .iushr (.arg 0) (.int 12)) (.int 7)) (.int 0)) (.int 0)), (.int 1), false)] := Okk.tab (by decide +kernel) nd299 nd300 nd301 nd302 nd303
theorem nd305 : Okk (rn_0 4 5) [] := Okk.fork nd298 nd304
set_option maxRecDepth 1000000 in
theorem nd306 : Okk (rn_0 5 5) [(false, (.op2 .dcmpl (.op2 .iand (.arg 3) (.int 1)) (.int 0)), (.int 0), true)] := Okk.leaf (by decide +kernel)
set_option maxRecDepth 1000000 in
theorem nd307 : Okk (rn_0 5 5) [(false, (.op2 .dcmpl (.op2 .iand (.arg 3) (.int 1)) (.int 0)), (.int 0), false)] := Okk.leaf (by decide +kernel)
theorem nd308 : Okk (rn_0 5 5) [] := Okk.fork nd306 nd307
set_option maxRecDepth 1000000 in
theorem nd309 : Okk (rn_1 0 0) [(false, (.op2 .dcmpl (.op2 .iand (.arg 3) (.int 1)) (.int 0)), (.int 0), true)] := Okk.leaf (by decide +kernel)
set_option maxRecDepth 1000000 in
theorem nd310 : Okk (rn_1 0 0) [(false, (.op2 .dcmpl (.op2 .iand (.arg 3) (.int 1)) (.int 0)), (.int 0), false)] := Okk.leaf (by decide +kernel)
theorem nd311 : Okk (rn_1 0 0) [] := Okk.fork nd309 nd310
set_option maxRecDepth 1000000 in
theorem nd312 : Okk (rn_1 0 1) [(false, (.op2 .dcmpl (.op2 .iand (.arg 3) (.int 1)) (.int 0)), (.int 0), true), (false, (.op2 .lcmp (.op2 .frem (.op2 .iand (.arg 0) (.int 7)) (.int 0)) (.int 0)), (.int 1), true)] := Okk.leaf (by decide +kernel)
set_option maxRecDepth 1000000 in
theorem nd313 : Okk (rn_1 0 1) [(false, (.op2 .dcmpl (.op2 .iand (.arg 3) (.int 1)) (.int 0)), (.int 0), false), (false, (.op2 .lcmp (.op2 .frem (.op2 .iand (.arg 0) (.int 7)) (.int 0)) (.int 0)), (.int 1), true)] := Okk.leaf (by decide +kernel)
theorem nd314 : Okk (rn_1 0 1) [(false, (.op2 .lcmp (.op2 .frem (.op2 .iand (.arg 0) (.int 7)) (.int 0)) (.int 0)), (.int 1), true)] := Okk.fork nd312 nd313
set_option maxRecDepth 1000000 in
theorem nd315 : Okk (rn_1 0 1) [(false, (.op2 .frem (.op2 .iand (.arg 0) (.int 7)) (.int 0)), (.int 10), true), (false, (.op2 .lcmp (.op2 .frem (.op2 .iand (.arg 0) (.int 7)) (.int 0)) (.int 0)), (.int 1), false)] := Okk.leaf (by decide +kernel)
set_option maxRecDepth 1000000 in
theorem nd316 : Okk (rn_1 0 1) [(false, (.op2 .frem (.op2 .iand (.arg 0) (.int 7)) (.int 0)), (.int 123), true), (false, (.op2 .lcmp (.op2 .frem (.op2 .iand (.arg 0) (.int 7)) (.int 0)) (.int 0)), (.int 1), false)] := Okk.leaf (by decide +kernel)
set_option maxRecDepth 1000000 in
theorem nd317 : Okk (rn_1 0 1) [(false, (.op2 .frem (.op2 .iand (.arg 0) (.int 7)) (.int 0)), (.int 125), true), (false, (.op2 .lcmp (.op2 .frem (.op2 .iand (.arg 0) (.int 7)) (.int 0)) (.int 0)), (.int 1), false)] := Okk.leaf (by decide +kernel)
set_option maxRecDepth 1000000 in
theorem nd318 : Okk (rn_1 0 1) [(false, (.op2 .frem (.op2 .iand (.arg 0) (.int 7)) (.int 0)), (.int 11), true), (false, (.op2 .lcmp (.op2 .frem (.op2 .iand (.arg 0) (.int 7)) (.int 0)) (.int 0)), (.int 1), false)] := Okk.leaf (by decide +kernel)
set_option maxRecDepth 1000000 in
theorem nd319 : Okk (rn_1 0 1) [(false, (.op2 .frem (.op2 .iand (.arg 0) (.int 7)) (.int 0)), (.int (-30)), true), (false, (.op2 .lcmp (.op2 .frem (.op2 .iand (.arg 0) (.int 7)) (.int 0)) (.int 0)), (.int 1), false)] := Okk.leaf (by decide +kernel)
theorem nd320 : Okk (rn_1 0 1) [(false, (.op2 .lcmp (.op2 .frem (.op2 .iand (.arg 0) (.int 7)) (.int 0)) (.int 0)), (.int 1), false)] := Okk.tab (by decide +kernel) nd315 nd316 nd317 nd318 nd319
theorem nd321 : Okk (rn_1 0 1) [] := Okk.fork nd314 nd320
set_option maxRecDepth 1000000 in
theorem nd322 : Okk (rn_1 0 2) [(false, (.op2 .dcmpl (.op2 .iand (.arg 3) (.int 1)) (.int 0)), (.int 0), true), (false, (.op2 .lcmp (.op2 .frem (.op2 .iand (.op2 .iushr (.arg 0) (.int 3)) (.int 7)) (.int 0)) (.int 0)), (.int 1), true), (false, (.op2 .lcmp (.op2 .frem (.op2 .iand (.arg 0) (.int 7)) (.int 0)) (.int 0)), (.int 1), true)] := Okk.leaf (by decide +kernel)
set_option maxRecDepth 1000000 in
theorem nd323 : Okk (rn_1 0 2) [(false, (.op2 .dcmpl (.op2 .iand (.arg 3) (.int 1)) (.int 0)), (.int 0), false), (false, (.op2 .lcmp (.op2 .frem (.op2 .iand (.op2 .iushr (.arg 0) (.int 3)) (.int 7)) (.int 0)) (.int 0)), (.int 1), true), (false, (.op2 .lcmp (.op2 .frem (.op2 .iand (.arg 0) (.int 7)) (.int 0)) (.int 0)), (.int 1), true)] := Okk.leaf (by decide +kernel)
theorem nd324 : Okk (rn_1 0 2) [(false, (.op2 .lcmp (.op2 .frem (.op2 .iand (.op2 .iushr (.arg 0) (.int 3)) (.int 7)) (.int 0)) (.int 0)), (.int 1), true), (false, (.op2 .lcmp (.op2 .frem (.op2 .iand (.arg 0) (.int 7)) (.int 0)) (.int 0)), (.int 1), true)] := Okk.fork nd322 nd323
set_option maxRecDepth 1000000 in
theorem nd325 : Okk (rn_1 0 2) [(false, (.op2 .frem (.op2 .iand (.op2 .iushr (.arg 0) (.int 3)) (.int 7)) (.int 0)), (.int 10), true), (false, (.op2 .lcmp (.op2 .frem (.op2 .iand (.op2 .iushr (.arg 0) (.int 3)) (.int 7)) (.int 0)) (.int 0)), (.int 1), false), (false, (.op2 .lcmp (.op2 .frem (.op2 .iand (.arg 0) (.int 7)) (.int 0)) (.int 0)), (.int 1), true)] := Okk.leaf (by decide +kernel)
set_option maxRecDepth 1000000 in
theorem nd326 : Okk (rn_1 0 2) [(false, (.op2 .frem (.op2 .iand (.op2 .iushr (.arg 0) (.int 3)) (.int 7)) (.int 0)), (.int 123), true), (false, (.op2 .lcmp (.op2 .frem (.op2 .iand (.op2 .iushr (.arg 0) (.int 3)) (.int 7)) (.int 0)) (.int 0)), (.int 1), false), (false, (.op2 .lcmp (.op2 .frem (.op2 .iand (.arg 0) (.int 7)) (.int 0)) (.int 0)), (.int 1), true)] := Okk.leaf (by decide +kernel)
set_option maxRecDepth 1000000 in
theorem nd327 : Okk (rn_1 0 2) [(false, (.op2 .frem (.op2 .iand (.op2 .iushr (.arg 0) (.int 3)) (.int 7)) (.int 0)), (.int 125), true), (false, (.op2 .lcmp (.op2 .frem (.op2 .iand (.op2 .iushr (.arg 0) (.int 3)) (.int 7)) (.int 0)) (.int 0)), (.int 1), false), (false, (.op2 .lcmp (.op2 .frem (.op2 .iand (.arg 0) (.int 7)) (.int 0)) (.int 0)), (.int 1), true)] := Okk.leaf (by decide +kernel)
set_option maxRecDepth 1000000 in
theorem nd328 : Okk (rn_1 0 2) [(false, (.op2 .frem (.op2 .iand (.op2 .iushr (.arg 0) (.int 3)) (.int 7)) (.int 0)), (.int 11), true), (false, (.op2 .lcmp (.op2 .frem (.op2 .iand (.op2 .iushr (.arg 0) (.int 3)) (.int 7)) (.int 0)) (.int 0)), (.int 1), false), (false, (.op2 .lcmp (.op2 .frem (.op2 .iand (.arg 0) (.int 7)) (.int 0)) (.int 0)), (.int 1), true)] := Okk.leaf (by decide +kernel)
set_option maxRecDepth 1000000 in
theorem nd329 : Okk (rn_1 0 2) [(false, (.op2 .frem (.op2 .iand (.op2 .iushr (.arg 0) (.int 3)) (.int 7)) (.int 0)), (.int (-30)), true), (false, (.op2 .lcmp (.op2 .frem (.op2 .iand (.op2 .iushr (.arg 0) (.int 3)) (.int 7)) (.int 0)) (.int 0)), (.int 1), false), (false, (.op2 .lcmp (.op2 .frem (.op2 .iand (.arg 0) (.int 7)) (.int 0)) (.int 0)), (.int 1), true)] := Okk.leaf (by decide +kernel)
theorem nd330 : Okk (rn_1 0 2) [(false, (.op2 .lcmp (.op2 .frem (.op2 .iand (.op2 .iushr (.arg 0) (.int 3)) (.int 7)) (.int 0)) (.int 0)), (.int 1), false), (false, (.op2 .lcmp (.op2 .frem (.op2 .iand (.arg 0) (.int 7)) (.int 0)) (.int 0)), (.int 1), true)] := Okk.tab (by decide +kernel) nd325 nd326 nd327 nd328 nd329
theorem nd331 : Okk (rn_1 0 2) [(false, (.op2 .lcmp (.op2 .frem (.op2 .iand (.arg 0) (.int 7)) (.int 0)) (.int 0)), (.int 1), true)] := Okk.fork nd324 nd330
set_option maxRecDepth 1000000 in
theorem nd332 : Okk (rn_1 0 2) [(false, (.op2 .frem (.op2 .iand (.arg 0) (.int 7)) (.int 0)), (.int 10), true), (false, (.op2 .lcmp (.op2 .frem (.op2 .iand (.arg 0) (.int 7)) (.int 0)) (.int 0)), (.int 1), false)] := Okk.leaf (by decide +kernel)
set_option maxRecDepth 1000000 in
theorem nd333 : Okk (rn_1 0 2) [(false, (.op2 .frem (.op2 .iand (.arg 0) (.int 7)) (.int 0)), (.int 123), true), (false, (.op2 .lcmp (.op2 .frem (.op2 .iand (.arg 0) (.int 7)) (.int 0)) (.int 0)), (.int 1), false)] := Okk.leaf (by decide +kernel)
set_option maxRecDepth 1000000 in
theorem nd334 : Okk (rn_1 0 2) [(false, (.op2 .frem (.op2 .iand (.arg 0) (.int 7)) (.int 0)), (.int 125), true), (false, (.op2 .lcmp (.op2 .frem (.op2 .iand (.arg 0) (.int 7)) (.int 0)) (.int 0)), (.int 1), false)] := Okk.leaf (by decide +kernel)
set_option maxRecDepth 1000000 in
theorem nd335 : Okk (rn_1 0 2) [(false, (.op2 .frem (.op2 .iand (.arg 0) (.int 7)) (.int 0)), (.int 11), true), (false, (.op2 .lcmp (.op2 .frem (.op2 .iand (.arg 0) (.int 7)) (.int 0)) (.int 0)), (.int 1), false)] := Okk.leaf (by decide +kernel)
set_option maxRecDepth 1000000 in
theorem nd336 : Okk (rn_1 0 2) [(false, (.op2 .frem (.op2 .iand (.arg 0) (.int 7)) (.int 0)), (.int (-30)), true), (false, (.op2 .lcmp (.op2 .frem (.op2 .iand (.arg 0) (.int 7)) (.int 0)) (.int 0)), (.int 1), false)] := Okk.leaf (by decide +kernel)
theorem nd337 : Okk (rn_1 0 2) [(false, (.op2 .lcmp (.op2 .frem (.op2 .iand (.arg 0) (.int 7)) (.int 0)) (.int 0)), (.int 1), false)] := Okk.tab (by decide +kernel) nd332 nd333 nd334 nd335 nd336
theorem nd338 : Okk (rn_1 0 2) [] := Okk.fork nd331 nd337
set_option maxRecDepth 1000000 in
theorem nd339 : Okk (rn_1 0 3) [(false, (.op2 .dcmpl (.op2 .iand (.arg 3) (.int 1)) (.int 0)), (.int 0), true), (false, (.op2 .lcmp (.op2 .frem (.op2 .iand (.op2 .iushr (.arg 0) (.int 6)) (.int 7)) (.int 0)) (.int 0)), (.int 1), true), (false, (.op2 .lcmp (.op2 .frem (.op2 .iand (.op2 .iushr (.arg 0) (.int 3)) (.int 7)) (.int 0)) (.int 0)), (.int 1), true), (false, (.op2 .lcmp (.op2 .frem (.op2 .iand (.arg 0) (.int 7)) (.int 0)) (.int 0)), (.int 1), true)] := Okk.leaf (by decide +kernel)
set_option maxRecDepth 1000000 in
theorem nd340 : Okk (rn_1 0 3) [(false, (.op2 .dcmpl (.op2 .iand (.arg 3) (.int 1)) (.int 0)), (.int 0), false), (false, (.op2 .lcmp (.op2 .frem (.op2 .iand (.op2 .iushr (.arg 0) (.int 6)) (.int 7)) (.int 0)) (.int 0)), (.int 1), true), (false, (.op2 .lcmp (.op2 .frem (.op2 .iand (.op2 .iushr (.arg 0) (.int 3)) (.int 7)) (.int 0)) (.int 0)), (.int 1), true), (false, (.op2 .lcmp (.op2 .frem (.op2 .iand (.arg 0) (.int 7)) (.int 0)) (.int 0)), (.int 1), true)] := Okk.leaf (by decide +kernel)
theorem nd341 : Okk (rn_1 0 3) [(false, (.op2 .lcmp (.op2 .frem (.op2 .iand (.op2 .iushr (.arg 0) (.int 6)) (.int 7)) (.int 0)) (.int 0)), (.int 1), true), (false, (.op2 .lcmp (.op2 .frem (.op2 .iand (.op2 .iushr (.arg 0) (.int 3)) (.int 7)) (.int 0)) (.int 0)), (.int 1), true), (false, (.op2 .lcmp (.op2 .frem (.op2 .iand (.arg 0) (.int 7)) (.int 0)) (.int 0)), (.int 1), true)] := Okk.fork nd339 nd340
set_option maxRecDepth 1000000 in
theorem nd342 : Okk (rn_1 0 3) [(false, (.op2 .frem (.op2 .iand (.op2 .iushr (.arg 0) (.int 6)) (.int 7)) (.int 0)), (.int 10), true), (false, (.op2 .lcmp (.op2 .frem (.op2 .iand (.op2 .iushr (.arg 0) (.int 6)) (.int 7)) (.int 0)) (.int 0)), (.int 1), false), (false, (.op2 .lcmp (.op2 .frem (.op2 .iand (.op2 .iushr (.arg 0) (.int 3)) (.int 7)) (.int 0)) (.int 0)), (.int 1), true), (false, (.op2 .lcmp (.op2 .frem (.op2 .iand (.arg 0) (.int 7)) (.int 0)) (.int 0)), (.int 1), true)] := Okk.leaf (by decide +kernel)
set_option maxRecDepth 1000000 in
theorem nd343 : Okk (rn_1 0 3) [(false, (.op2 .frem (.op2 .iand (.op2 .iushr (.arg 0) (.int 6)) (.int 7)) (.int 0)), (.int 123), true), (false, (.op2 .lcmp (.op2 .frem (.op2 .iand (.op2 .iushr (.arg 0) (.int 6)) (.int 7)) (.int 0)) (.int 0)), (.int 1), false), (false, (.op2 .lcmp (.op2 .frem (.op2 .iand (.op2 .iushr (.arg 0) (.int 3)) (.int 7)) (.int 0)) (.int 0)), (.int 1), true), (false, (.op2 .lcmp (.op2 .frem (.op2 .iand (.arg 0) (.int 7)) (.int 0)) (.int 0)), (.int 1), true)] := Okk.leaf (by decide +kernel)
set_option maxRecDepth 1000000 in
theorem nd344 : Okk (rn_1 0 3) [(false, (.op2 .frem (.op2 .iand (.op2 .iushr (.arg 0) (.int 6)) (.int 7)) (.int 0)), (.int 125), true), (false, (.op2 .lcmp (.op2 .frem (.op2 .iand (.op2 .iushr (.arg 0) (.int 6)) (.int 7)) (.int 0)) (.int 0)), (.int 1), false), (false, (.op2 .lcmp (.op2 .frem (.op2 .iand (.op2 .iushr (.arg 0) (.int 3)) (.int 7)) (.int 0)) (.int 0)), (.int 1), true), (false, (.op2 .lcmp (.op2 .frem (.op2 .iand (.arg 0) (.int 7)) (.int 0)) (.int 0)), (.int 1), true)] := Okk.leaf (by decide +kernel)
set_option maxRecDepth 1000000 in
theorem nd345 : Okk (rn_1 0 3) [(false, (.op2 .frem (.op2 .iand (.op2 .iushr (.arg 0) (.int 6)) (.int 7)) (.int 0)), (.int 11), true), (false, (.op2 .lcmp (.op2 .frem (.op2 .iand (.op2 .iushr (.arg 0) (.int 6)) (.int 7)) (.int 0)) (.int 0)), (.int 1), false), (false, (.op2 .lcmp (.op2 .frem (.op2 .iand (.op2 .iushr (.arg 0) (.int 3)) (.int 7)) (.int 0)) (.int 0)), (.int 1), true), (false, (.op2 .lcmp (.op2 .frem (.op2 .iand (.arg 0) (.int 7)) (.int 0)) (.int 0)), (.int 1), true)] := Okk.leaf (by decide +kernel)
set_option maxRecDepth 1000000 in
theorem nd346 : Okk (rn_1 0 3) [(false, (.op2 .frem (.op2 .iand (.op2 .iushr (.arg 0) (.int 6)) (.int 7)) (.int 0)), (.int (-30)), true), (false, (.op2 .lcmp (.op2 .frem (.op2 .iand (.op2 .iushr (.arg 0) (.int 6)) (.int 7)) (.int 0)) (.int 0)), (.int 1), false), (false, (.op2 .lcmp (.op2 .frem (.op2 .iand (.op2 .iushr (.arg 0) (.int 3)) (.int 7)) (.int 0)) (.int 0)), (.int 1), true), (false, (.op2 .lcmp (.op2 .frem (.op2 .iand (.arg 0) (.int 7)) (.int 0)) (.int 0)), (.int 1), true)] := Okk.leaf (by decide +kernel)
theorem nd347 : Okk (rn_1 0 3) [(false, (.op2 .lcmp (.op2 .frem (.op2 .iand (.op2 .iushr (.arg 0) (.int 6)) (.int 7)) (.int 0)) (.int 0)), (.int 1), false), (false, (.op2 .lcmp (.op2 .frem (.op2 .iand (.op2 .iushr (.arg 0) (.int 3)) (.int 7)) (.int 0)) (.int 0)), (.int 1), true), (false, (.op2 .lcmp (.op2 .frem (.op2 .iand (.arg 0) (.int 7)) (.int 0)) (.int 0)), (.int 1), true)] := Okk.tab (by decide +kernel) nd342 nd343 nd344 nd345 nd346
theorem nd348 : Okk (rn_1 0 3) [(false, (.op2 .lcmp (.op2 .frem (.op2 .iand (.op2 .iushr (.arg 0) (.int 3)) (.int 7)) (.int 0)) (.int 0)), (.int 1), true), (false, (.op2 .lcmp (.op2 .frem (.op2 .iand (.arg 0) (.int 7)) (.int 0)) (.int 0)), (.int 1), true)] := Okk.fork nd341 nd347
set_option maxRecDepth 1000000 in
theorem nd349 : Okk (rn_1 0 3) [(false, (.op2 .frem (.op2 .iand (.op2 .iushr (.arg 0) (.int 3)) (.int 7)) (.int 0)), (.int 10), true), (false, (.op2 .lcmp (.op2 .frem (.op2 .iand (.op2 .iushr (.arg 0) (.int 3)) (.int 7)) (.int 0)) (.int 0)), (.int 1), false), (false, (.op2 .lcmp (.op2 .frem (.op2 .iand (.arg 0) (.int 7)) (.int 0)) (.int 0)), (.int 1), true)] := Okk.leaf (by decide +kernel)
set_option maxRecDepth 1000000 in
theorem nd350 : Okk (rn_1 0 3) [(false, (.op2 .frem (.op2 .iand (.op2 .iushr (.arg 0) (.int 3)) (.int 7)) (.int 0)), (.int 123), true), (false, (.op2 .lcmp (.op2 .frem (.op2 .iand (.op2 .iushr (.arg 0) (.int 3)) (.int 7)) (.int 0)) (.int 0)), (.int 1), false), (false, (.op2 .lcmp (.op2 .frem (.op2 .iand (.arg 0) (.int 7)) (.int 0)) (.int 0)), (.int 1), true)] := Okk.leaf (by decide +kernel)
set_option maxRecDepth 1000000 in
theorem nd351 : Okk (rn_1 0 3) [(false, (.op2 .frem (.op2 .iand (.op2 .iushr (.arg 0) (.int 3)) (.int 7)) (.int 0)), (.int 125), true), (false, (.op2 .lcmp (.op2 .frem (.op2 .iand (.op2 .iushr (.arg 0) (.int 3)) (.int 7)) (.int 0)) (.int 0)), (.int 1), false), (false, (.op2 .lcmp (.op2 .frem (.op2 .iand (.arg 0) (.int 7)) (.int 0)) (.int 0)), (.int 1), true)] := Okk.leaf (by decide +kernel)
set_option maxRecDepth 1000000 in
theorem nd352 : Okk (rn_1 0 3) [(false, (.op2 .frem (.op2 .iand (.op2 .iushr (.arg 0) (.int 3)) (.int 7)) (.int 0)), (.int 11), true), (false, (.op2 .lcmp (.op2 .frem (.op2 .iand (.op2 .iushr (.arg 0) (.int 3)) (.int 7)) (.int 0)) (.int 0)), (.int 1), false), (false, (.op2 .lcmp (.op2 .frem (.op2 .iand (.arg 0) (.int 7)) (.int 0)) (.int 0)), (.int 1), true)] := Okk.leaf (by decide +kernel)
set_option maxRecDepth 1000000 in
theorem nd353 : Okk (rn_1 0 3) [(false, (.op2 .frem (.op2 .iand (.op2 .iushr (.arg 0) (.int 3)) (.int 7)) (.int 0)), (.int (-30)), true), (false, (.op2 .lcmp (.op2 .frem (.op2 .iand (.op2 .iushr (.arg 0) (.int 3)) (.int 7)) (.int 0)) (.int 0)), (.int 1), false), (false, (.op2 .lcmp (.op2 .frem (.op2 .iand (.arg 0) (.int 7)) (.int 0)) (.int 0)), (.int 1), true)] := Okk.leaf (by decide +kernel)
theorem nd354 : Okk (rn_1 0 3) [(false, (.op2 .lcmp (.op2 .frem (.op2 .iand (.op2 .iushr (.arg 0) (.int 3)) (.int 7)) (.int 0)) (.int 0)), (.int 1), false), (false, (.op2 .lcmp (.op2 .frem (.op2 .iand (.arg 0) (.int 7)) (.int 0)) (.int 0)), (.int 1), true)] := Okk.tab (by decide +kernel) nd349 nd350 nd351 nd352 nd353
theorem nd355 : Okk (rn_1 0 3) [(false, (.op2 .lcmp (.op2 .frem (.op2 .iand (.arg 0) (.int 7)) (.int 0)) (.int 0)), (.int 1), true)] := Okk.fork nd348 nd354
set_option maxRecDepth 1000000 in
theorem nd356 : Okk (rn_1 0 3) [(false, (.op2 .frem (.op2 .iand (.arg 0) (.int 7)) (.int 0)), (.int 10), true), (false, (.op2 .lcmp (.op2 .frem (.op2 .iand (.arg 0) (.int 7)) (.int 0)) (.int 0)), (.int 1), false)] := Okk.leaf (by decide +kernel)
set_option maxRecDepth 1000000 in
theorem nd357 : Okk (rn_1 0 3) [(false, (.op2 .frem (.op2 .iand (.arg 0) (.int 7)) (.int 0)), (.int 123), true), (false, (.op2 .lcmp (.op2 .frem (.op2 .iand (.arg 0) (.int 7)) (.int 0)) (.int 0)), (.int 1), false)] := Okk.leaf (by decide +kernel)
set_option maxRecDepth 1000000 in
theorem nd358 : Okk (rn_1 0 3) [(false, (.op2 .frem (.op2 .iand (.arg 0) (.int 7)) (.int 0)), (.int 125), true), (false, (.op2 .lcmp (.op2 .frem (.op2 .iand (.arg 0) (.int 7)) (.int 0)) (.int 0)), (.int 1), false)] := Okk.leaf (by decide +kernel)
set_option maxRecDepth 1000000 in
theorem nd359 : Okk (rn_1 0 3) [(false, (.op2 .frem (.op2 .iand (.arg 0) (.int 7)) (.int 0)), (.int 11), true), (false, (.op2 .lcmp (.op2 .frem (.op2 .iand (.arg 0) (.int 7)) (.int 0)) (.int 0)), (.int 1), false)] := Okk.leaf (by decide +kernel)
set_option maxRecDepth 1000000 in
theorem nd360 : Okk (rn_1 0 3) [(false, (.op2 .frem (.op2 .iand (.arg 0) (.int 7)) (.int 0)), (.int (-30)), true), (false, (.op2 .lcmp (.op2 .frem (.op2 .iand (.arg 0) (.int 7)) (.int 0)) (.int 0)), (.int 1), false)] := Okk.leaf (by decide +kernel)
theorem nd361 : Okk (rn_1 0 3) [(false, (.op2 .lcmp (.op2 .frem (.op2 .iand (.arg 0) (.int 7)) (.int 0)) (.int 0)), (.int 1), false)] := Okk.tab (by decide +kernel) nd356 nd357 nd358 nd359 nd360
theorem nd362 : Okk (rn_1 0 3) [] := Okk.fork nd355 nd361
set_option maxRecDepth 1000000 in
theorem nd363 : Okk (rn_1 0 4) [(false, (.op2 .dcmpl (.op2 .iand (.arg 3) (.int 1)) (.int 0)), (.int 0), true), (false, (.op2 .lcmp (.op2 .frem (.op2 .iand (.op2 .iushr (.arg 0) (.int 9)) (.int 7)) (.int 0)) (.int 0)), (.int 1), true), (false, (.op2 .lcmp (.op2 .frem (.op2 .iand (.op2 .iushr (.arg 0) (.int 6)) (.int 7)) (.int 0)) (.int 0)), (.int 1), true), (false, (.op2 .lcmp (.op2 .frem (.op2 .iand (.op2 .iushr (.arg 0) (.int 3)) (.int 7)) (.int 0)) (.int 0)), (.int 1), true), (false, (.op2 .lcmp (.op2 .frem (.op2 .iand (.arg 0) (.int 7)) (.int 0)) (.int 0)), (.int 1), true)] := Okk.leaf (by decide +kernel)
set_option maxRecDepth 1000000 in
theorem nd364 : Okk (rn_1 0 4) [(false, (.op2 .dcmpl (.op2 .iand (.arg 3) (.int 1)) (.int 0)), (.int 0), false), (false, (.op2 .lcmp (.op2 .frem (.op2 .iand (.op2 .iushr (.arg 0) (.int 9)) (.int 7)) (.int 0)) (.int 0)), (.int 1), true), (false, (.op2 .lcmp (.op2 .frem (.op2 .iand (.op2 .iushr (.arg 0) (.int 6)) (.int 7)) (.int 0)) (.int 0)), (.int 1), true), (false, (.op2 .lcmp (.op2 .frem (.op2 .iand (.op2 .iushr (.arg 0) (.int 3)) (.int 7)) (.int 0)) (.int 0)), (.int 1), true), (false, (.op2 .lcmp (.op2 .frem (.op2 .iand (.arg 0) (.int 7)) (.int 0)) (.int 0)), (.int 1), true)] := Okk.leaf (by decide +kernel)
theorem nd365 : Okk (rn_1 0 4) [(false, (.op2 .lcmp (.op2 .frem (.op2 .iand (.op2 .iushr (.arg 0) (.int 9)) (.int 7)) (.int 0)) (.int 0)), (.int 1), true), (false, (.op2 .lcmp (.op2 .frem (.op2 .iand (.op2 .iushr (.arg 0) (.int 6)) (.int 7)) (.int 0)) (.int 0)), (.int 1), true), (false, (.op2 .lcmp (.op2 .frem (.op2 .iand (.op2 .iushr (.arg 0) (.int 3)) (.int 7)) (.int 0)) (.int 0)), (.int 1), true), (false, (.op2 .lcmp (.op2 .frem (.op2 .iand (.arg 0) (.int 7)) (.int 0)) (.int 0)), (.int 1), true)] := Okk.fork nd363 nd364
set_option maxRecDepth 1000000 in
theorem nd366 : Okk (rn_1 0 4) [(false, (.op2 .frem (.op2 .iand (.op2 .iushr (.arg 0) (.int 9)) (.int 7)) (.int 0)), (.int 10), true), (false, (.op2 .lcmp (.op2 .frem (.op2 .iand (.op2 .iushr (.arg 0) (.int 9)) (.int 7)) (.int 0)) (.int 0)), (.int 1), false), (false, (.op2 .lcmp (.op2 .frem (.op2 .iand (.op2 .iushr (.arg 0) (.int 6)) (.int 7)) (.int 0)) (.int 0)), (.int 1), true), (false, (.op2 .lcmp (.op2 .frem (.op2 .iand (.op2 .iushr (.arg 0) (.int 3)) (.int 7)) (.int 0)) (.int 0)), (.int 1), true), (false, (.op2 .lcmp (.op2 .frem (.op2 .iand (.arg 0) (.int 7)) (.int 0)) (.int 0)), (.int 1), true)] := Okk.leaf (by decide +kernel)
set_option maxRecDepth 1000000 in
theorem nd367 : Okk (rn_1 0 4) [(false, (.op2 .frem (.op2 .iand (.op2 .iushr (.arg 0) (.int 9)) (.int 7)) (.int 0)), (.int 123), true), (false, (.op2 .lcmp (.op2 .frem (.op2 .iand (.op2 .iushr (.arg 0) (.int 9)) (.int 7)) (.int 0)) (.int 0)), (.int 1), false), (false, (.op2 .lcmp (.op2 .frem (.op2 .iand (.op2 .iushr (.arg 0) (.int 6)) (.int 7)) (.int 0)) (.int 0)), (.int 1), true), (false, (.op2 .lcmp (.op2 .frem (.op2 .iand (.op2 .iushr (.arg 0) (.int 3)) (.int 7)) (.int 0)) (.int 0)), (.int 1), true), (false, (.op2 .lcmp (.op2 .frem (.op2 .iand (.arg 0) (.int 7)) (.int 0)) (.int 0)), (.int 1), true)] := Okk.leaf (by decide +kernel)
set_option maxRecDepth 1000000 in
theorem nd368 : Okk (rn_1 0 4) [(false, (.op2 .frem (.op2 .iand (.op2 .iushr (.arg 0) (.int 9)) (.int 7)) (.int 0)), (.int 125), true), (false, (.op2 .lcmp (.op2 .frem (.op2 .iand (.op2 .iushr (.arg 0) (.int 9)) (.int 7)) (.int 0)) (.int 0)), (.int 1), false), (false, (.op2 .lcmp (.op2 .frem (.op2 .iand (.op2 .iushr (.arg 0) (.int 6)) (.int 7)) (.int 0)) (.int 0)), (.int 1), true), (false, (.op2 .lcmp (.op2 .frem (.op2 .iand (.op2 .iushr (.arg 0) (.int 3)) (.int 7)) (.int 0)) (.int 0)), (.int 1), true), (false, (.op2 .lcmp (.op2 .frem (.op2 .iand (.arg 0) (.int 7)) (.int 0)) (.int 0)), (.int 1), true)] := Okk.leaf (by decide +kernel)
set_option maxRecDepth 1000000 in
theorem nd369 : Okk (rn_1 0 4) [(false, (.op2 .frem (.op2 .iand (.op2 .iushr (.arg 0) (.int 9)) (.int 7)) (.int 0)), (.int 11), true), (false, (.op2 .lcmp (.op2 .frem (.op2 .iand (.op2 .iushr (.arg 0) (.int 9)) (.int 7)) (.int 0)) (.int 0)), (.int 1), false), (false, (.op2 .lcmp (.op2 .frem (.op2 .iand (.op2 .iushr (.arg 0) (.int 6)) (.int 7)) (.int 0)) (.int 0)), (.int 1), true), (false, (.op2 .lcmp (.op2 .frem (.op2 .iand (.op2 .iushr (.arg 0) (.int 3)) (.int 7)) (.int 0)) (.int 0)), (.int 1), true), (false, (.op2 .lcmp (.op2 .frem (.op2 .iand (.arg 0) (.int 7)) (.int 0)) (.int 0)), (.int 1), true)] := Okk.leaf (by decide +kernel)
set_option maxRecDepth 1000000 in
theorem nd370 : Okk (rn_1 0 4) [(false, (.op2 .frem (.op2 .iand (.op2 .iushr (.arg 0) (.int 9)) (.int 7)) (.int 0)), (.int (-30)), true), (false, (.op2 .lcmp (.op2 .frem (.op2 .iand (.op2 .iushr (.arg 0) (.int 9)) (.int 7)) (.int 0)) (.int 0)), (.int 1), false), (false, (.op2 .lcmp (.op2 .frem (.op2 .iand (.op2 .iushr (.arg 0) (.int 6)) (.int 7)) (.int 0)) (.int 0)), (.int 1), true), (false, (.op2 .lcmp (.op2 .frem (.op2 .iand (.op2 .iushr (.arg 0) (.int 3)) (.int 7)) (.int 0)) (.int 0)), (.int 1), true), (false, (.op2 .lcmp (.op2 .frem (.op2 .iand (.arg 0) (.int 7)) (.int 0)) (.int 0)), (.int 1), true)] := Okk.leaf (by decide +kernel)
theorem nd371 : Okk (rn_1 0 4) [(false, (.op2 .lcmp (.op2 .frem (.op2 .iand (.op2 .iushr (.arg 0) (.int 9)) (.int 7)) (.int 0)) (.int 0)), (.int 1), false), (false, (.op2 .lcmp (.op2 .frem (.op2 .iand (.op2 .iushr (.arg 0) (.int 6)) (.int 7)) (.int 0)) (.int 0)), (.int 1), true), (false, (.op2 .lcmp (.op2 .frem (.op2 .iand (.op2 .iushr (.arg 0) (.int 3)) (.int 7)) (.int 0)) (.int 0)), (.int 1), true), (false, (.op2 .lcmp (.op2 .frem (.op2 .iand (.arg 0) (.int 7)) (.int 0)) (.int 0)), (.int 1), true)] := Okk.tab (by decide +kernel) nd366 nd367 nd368 nd369 nd370
theorem nd372 : Okk (rn_1 0 4) [(false, (.op2 .lcmp (.op2 .frem (.op2 .iand (.op2 .iushr (.arg 0) (.int 6)) (.int 7)) (.int 0)) (.int 0)), (.int 1), true), (false, (.op2 .lcmp (.op2 .frem (.op2 .iand (.op2 .iushr (.arg 0) (.int 3)) (.int 7)) (.int 0)) (.int 0)), (.int 1), true), (false, (.op2 .lcmp (.op2 .frem (.op2 .iand (.arg 0) (.int 7)) (.int 0)) (.int 0)), (.int 1), true)] := Okk.fork nd365 nd371
set_option maxRecDepth 1000000 in
theorem nd373 : Okk (rn_1 0 4) [(false, (.op2 .frem (.op2 .iand (.op2 .iushr (.arg 0) (.int 6)) (.int 7)) (.int 0)), (.int 10), true), (false, (.op2 .lcmp (.op2 .frem (.op2 .iand (.op2 .iushr (.arg 0) (.int 6)) (.int 7)) (.int 0)) (.int 0)), (.int 1), false), (false, (.op2 .lcmp (.op2 .frem (.op2 .iand (.op2 .iushr (.arg 0) (.int 3)) (.int 7)) (.int 0)) (.int 0)), (.int 1), true), (false, (.op2 .lcmp (.op2 .frem (.op2 .iand (.arg 0) (.int 7)) (.int 0)) (.int 0)), (.int 1), true)] := Okk.leaf (by decide +kernel)
set_option maxRecDepth 1000000 in
theorem nd374 : Okk (rn_1 0 4) [(false, (.op2 .frem (.op2 .iand (.op2 .iushr (.arg 0) (.int 6)) (.int 7)) (.int 0)), (.int 123), true), (false, (.op2 .lcmp (.op2 .frem (.op2 .iand (.op2 .iushr (.arg 0) (.int 6)) (.int 7)) (.int 0)) (.int 0)), (.int 1), false), (false, (.op2 .lcmp (.op2 .frem (.op2 .iand (.op2 .iushr (.arg 0) (.int 3)) (.int 7)) (.int 0)) (.int 0)), (.int 1), true), (false, (.op2 .lcmp (.op2 .frem (.op2 .iand (.arg 0) (.int 7)) (.int 0)) (.int 0)), (.int 1), true)] := Okk.leaf (by decide +kernel)
set_option maxRecDepth 1000000 in
theorem nd375 : Okk (rn_1 0 4) [(false, (.op2 .frem (.op2 .iand (.op2 .iushr (.arg 0) (.int 6)) (.int 7)) (.int 0)), (.int 125), true), (false, (.op2 .lcmp (.op2 .frem (.op2 .iand (.op2 .iushr (.arg 0) (.int 6)) (.int 7)) (.int 0)) (.int 0)), (.int 1), false), (false, (.op2 .lcmp (.op2 .frem (.op2 .iand (.op2 .iushr (.arg 0) (.int 3)) (.int 7)) (.int 0)) (.int 0)), (.int 1), true), (false, (.op2 .lcmp (.op2 .frem (.op2 .iand (.arg 0) (.int 7)) (.int 0)) (.int 0)), (.int 1), true)] := Okk.leaf (by decide +kernel)
set_option maxRecDepth 1000000 in
theorem nd376 : Okk (rn_1 0 4) [(false, (.op2 .frem (.op2 .iand (.op2 .iushr (.arg 0) (.int 6)) (.int 7)) (.int 0)), (.int 11), true), (false, (.op2 .lcmp (.op2 .frem (.op2 .iand (.op2 .iushr (.arg 0) (.int 6)) (.int 7)) (.int 0)) (.int 0)), (.int 1), false), (false, (.op2 .lcmp (.op2 .frem (.op2 .iand (.op2 .iushr (.arg 0) (.int 3)) (.int 7)) (.int 0)) (.int 0)), (.int 1), true), (false, (.op2 .lcmp (.op2 .frem (.op2 .iand (.arg 0) (.int 7)) (.int 0)) (.int 0)), (.int 1), true)] := Okk.leaf (by decide +kernel)
set_option maxRecDepth 1000000 in
theorem nd377 : Okk (rn_1 0 4) [(false, (.op2 .frem (.op2 .iand (.op2 .iushr (.arg 0) (.int 6)) (.int 7)) (.int 0)), (.int (-30)), true), (false, (.op2 .lcmp (.op2 .frem (.op2 .iand (.op2 .iushr (.arg 0) (.int 6)) (.int 7)) (.int 0)) (.int 0)), (.int 1), false), (false, (.op2 .lcmp (.op2 .frem (.op2 .iand (.op2 .iushr (.arg 0) (.int 3)) (.int 7)) (.int 0)) (.int 0)), (.int 1), true), (false, (.op2 .lcmp (.op2 .frem (.op2 .iand (.arg 0) (.int 7)) (.int 0)) (.int 0)), (.int 1), true)] := Okk.leaf (by decide +kernel)
theorem nd378 : Okk (rn_1 0 4) [(false, (.op2 .lcmp (.op2 .frem (.op2 .iand (.op2 .iushr (.arg 0) (.int 6)) (.int 7)) (.int 0)) (.int 0)), (.int 1), false), (false, (.op2 .lcmp (.op2 .frem (.op2 .iand (.op2 .iushr (.arg 0) (.int 3)) (.int 7)) (.int 0)) (.int 0)), (.int 1), true), (false, (.op2 .lcmp (.op2 .frem (.op2 .iand (.arg 0) (.int 7)) (.int 0)) (.int 0)), (.int 1), true)] := Okk.tab (by decide +kernel) nd373 nd374 nd375 nd376 nd377
theorem nd379 : Okk (rn_1 0 4) [(false, (.op2 .lcmp (.op2 .frem (.op2 .iand (.op2 .iushr (.arg 0) (.int 3)) (.int 7)) (.int 0)) (.int 0)), (.int 1), true), (false, (.op2 .lcmp (.op2 .frem (.op2 .iand (.arg 0) (.int 7)) (.int 0)) (.int 0)), (.int 1), true)] := Okk.fork nd372 nd378
set_option maxRecDepth 1000000 in
theorem nd380 : Okk (rn_1 0 4) [(false, (.op2 .frem (.op2 .iand (.op2 .iushr (.arg 0) (.int 3)) (.int 7)) (.int 0)), (.int 10), true), (false, (.op2 .lcmp (.op2 .frem (.op2 .iand (.op2 .iushr (.arg 0) (.int 3)) (.int 7)) (.int 0)) (.int 0)), (.int 1), false), (false, (.op2 .lcmp (.op2 .frem (.op2 .iand (.arg 0) (.int 7)) (.int 0)) (.int 0)), (.int 1), true)] := Okk.leaf (by decide +kernel)
set_option maxRecDepth 1000000 in
theorem nd381 : Okk (rn_1 0 4) [(false, (.op2 .frem (.op2 .iand (.op2 .iushr (.arg 0) (.int 3)) (.int 7)) (.int 0)), (.int 123), true), (false, (.op2 .lcmp (.op2 .frem (.op2 .iand (.op2 .iushr (.arg 0) (.int 3)) (.int 7)) (.int 0)) (.int 0)), (.int 1), false), (false, (.op2 .lcmp (.op2 .frem (.op2 .iand (.arg 0) (.int 7)) (.int 0)) (.int 0)), (.int 1), true)] := Okk.leaf (by decide +kernel)
set_option maxRecDepth 1000000 in
theorem nd382 : Okk (rn_1 0 4) [(false, (.op2 .frem (.op2 .iand (.op2 .iushr (.arg 0) (.int 3)) (.int 7)) (.int 0)), (.int 125), true), (false, (.op2 .lcmp (.op2 .frem (.op2 .iand (.op2 .iushr (.arg 0) (.int 3)) (.int 7)) (.int 0)) (.int 0)), (.int 1), false), (false, (.op2 .lcmp (.op2 .frem (.op2 .iand (.arg 0) (.int 7)) (.int 0)) (.int 0)), (.int 1), true)] := Okk.leaf (by decide +kernel)
set_option maxRecDepth 1000000 in
theorem nd383 : Okk (rn_1 0 4) [(false, (.op2 .frem (.op2 .iand (.op2 .iushr (.arg 0) (.int 3)) (.int 7)) (.int 0)), (.int 11), true), (false, (.op2 .lcmp (.op2 .frem (.op2 .iand (.op2 .iushr (.arg 0) (.int 3)) (.int 7)) (.int 0)) (.int 0)), (.int 1), false), (false, (.op2 .lcmp (.op2 .frem (.op2 .iand (.arg 0) (.int 7)) (.int 0)) (.int 0)), (.int 1), true)] := Okk.leaf (by decide +kernel)
set_option maxRecDepth 1000000 in
theorem nd384 : Okk (rn_1 0 4) [(false, (.op2 .frem (.op2 .iand (.op2 .iushr (.arg 0) (.int 3)) (.int 7)) (.int 0)), (.int (-30)), true), (false, (.op2 .lcmp (.op2 .frem (.op2 .iand (.op2 .iushr (.arg 0) (.int 3)) (.int 7)) (.int 0)) (.int 0)), (.int 1), false), (false, (.op2 .lcmp (.op2 .frem (.op2 .iand (.arg 0) (.int 7)) (.int 0)) (.int 0)), (.int 1), true)] := Okk.leaf (by decide +kernel)
theorem nd385 : Okk (rn_1 0 4) [(false, (.op2 .lcmp (.op2 .frem (.op2 .iand (.op2 .iushr (.arg 0) (.int 3)) (.int 7)) (.int 0)) (.int 0)), (.int 1), false), (false, (.op2 .lcmp (.op2 .frem (.op2 .iand (.arg 0) (.int 7)) (.int 0)) (.int 0)), (.int 1), true)] := Okk.tab (by decide +kernel) nd380 nd381 nd382 nd383 nd384
theorem nd386 : Okk (rn_1 0 4) [(false, (.op2 .lcmp (.op2 .frem (.op2 .iand (.arg 0) (.int 7)) (.int 0)) (.int 0)), (.int 1), true)] := Okk.fork nd379 nd385
set_option maxRecDepth 1000000 in
theorem nd387 : Okk (rn_1 0 4) [(false, (.op2 .frem (.op2 .iand (.arg 0) (.int 7)) (.int 0)), (.int 10), true), (false, (.op2 .lcmp (.op2 .frem (.op2 .iand (.arg 0) (.int 7)) (.int 0)) (.int 0)), (.int 1), false)] := Okk.leaf (by decide +kernel)
set_option maxRecDepth 1000000 in
theorem nd388 : Okk (rn_1 0 4) [(false, (.op2 .frem (.op2 .iand (.arg 0) (.int 7)) (.int 0)), (.int 123), true), (false, (.op2 .lcmp (.op2 .frem (.op2 .iand (.arg 0) (.int 7)) (.int 0)) (.int 0)), (.int 1), false)] := Okk.leaf (by decide +kernel)
set_option maxRecDepth 1000000 in
theorem nd389 : Okk (rn_1 0 4) [(false, (.op2 .frem (.op2 .iand (.arg 0) (.int 7)) (.int 0)), (.int 125), true), (false, (.op2 .lcmp (.op2 .frem (.op2 .iand (.arg 0) (.int 7)) (.int 0)) (.int 0)), (.int 1), false)] := Okk.leaf (by decide +kernel)
set_option maxRecDepth 1000000 in
theorem nd390 : Okk (rn_1 0 4) [(false, (.op2 .frem (.op2 .iand (.arg 0) (.int 7)) (.int 0)), (.int 11), true), (false, (.op2 .lcmp (.op2 .frem (.op2 .iand (.arg 0) (.int 7)) (.int 0)) (.int 0)), (.int 1), false)] := Okk.leaf (by decide +kernel)
set_option maxRecDepth 1000000 in
theorem nd391 : Okk (rn_1 0 4) [(false, (.op2 .frem (.op2 .iand (.arg 0) (.int 7)) (.int 0)), (.int (-30)), true), (false, (.op2 .lcmp (.op2 .frem (.op2 .iand (.arg 0) (.int 7)) (.int 0)) (.int 0)), (.int 1), false)] := Okk.leaf (by decide +kernel)
theorem nd392 : Okk (rn_1 0 4) [(false, (.op2 .lcmp (.op2 .frem (.op2 .iand (.arg 0) (.int 7)) (.int 0)) (.int 0)), (.int 1), false)] := Okk.tab (by decide +kernel) nd387 nd388 nd389 nd390 nd391
theorem nd393 : Okk (rn_1 0 4) [] := Okk.fork nd386 nd392
set_option maxRecDepth 1000000 in
theorem nd394 : Okk (rn_1 0 5) [(false, (.op2 .dcmpl (.op2 .iand (.arg 3) (.int 1)) (.int 0)), (.int 0), true), (false, (.op2 .lcmp (.op2 .frem (.op2 .iand (.op2 .iushr (.arg 0) (.int 12)) (.int 7)) (.int 0)) (.int 0)), (.int 1), true), (false, (.op2 .lcmp (.op2 .frem (.op2 .iand (.op2 .iushr (.arg 0) (.int 9)) (.int 7)) (.int 0)) (.int 0)), (.int 1), true), (false, (.op2 .lcmp (.op2 .frem (.op2 .iand (.op2 .iushr (.arg 0) (.int 6)) (.int 7)) (.int 0)) (.int 0)), (.int 1), true), (false, (.op2 .lcmp (.op2 .frem (.op2 .iand (.op2 .iushr (.arg 0) (.int 3)) (.int 7)) (.int 0)) (.int 0)), (.int 1), true), (false, (.op2 .lcmp (.op2 .frem (.op2 .iand (.arg 0) (.int 7)) (.int 0)) (.int 0)), (.int 1), true)] := Okk.leaf (by decide +kernel)
set_option maxRecDepth 1000000 in
theorem nd395 : Okk (rn_1 0 5) [(false, (.op2 .dcmpl (.op2 .iand (.arg 3) (.int 1)) (.int 0)), (.int 0), false), (false, (.op2 .lcmp (.op2 .frem (.op2 .iand (.op2 .iushr (.arg 0) (.int 12)) (.int 7)) (.int 0)) (.int 0)), (.int 1), true), (false, (.op2 .lcmp (.op2 .frem (.op2 .iand (.op2 .iushr (.arg 0) (.int 9)) (.int 7)) (.int 0)) (.int 0)), (.int 1), true), (false, (.op2 .lcmp (.op2 .frem (.op2 .iand (.op2 .iushr (.arg 0) (.int 6)) (.int 7)) (.int 0)) (.int 0)), (.int 1), true), (false, (.op2 .lcmp (.op2 .frem (.op2 .iand (.op2 .iushr (.arg 0) (.int 3)) (.int 7)) (.int 0)) (.int 0)), (.int 1), true), (false, (.op2 .lcmp (.op2 .frem (.op2 .iand (.arg 0) (.int 7)) (.int 0)) (.int 0)), (.int 1), true)] := Okk.leaf (by decide +kernel)
theorem nd396 : Okk (rn_1 0 5) [(false, (.op2 .lcmp (.op2 .frem (.op2 .iand (.op2 .iushr (.arg 0) (.int 12)) (.int 7)) (.int 0)) (.int 0)), (.int 1), true), (false, (.op2 .lcmp (.op2 .frem (.op2 .iand (.op2 .iushr (.arg 0) (.int 9)) (.int 7)) (.int 0)) (.int 0)), (.int 1), true), (false, (.op2 .lcmp (.op2 .frem (.op2 .iand (.op2 .iushr (.arg 0) (.int 6)) (.int 7)) (.int 0)) (.int 0)), (.int 1), true), (false, (.op2 .lcmp (.op2 .frem (.op2 .iand (.op2 .iushr (.arg 0) (.int 3)) (.int 7)) (.int 0)) (.int 0)), (.int 1), true), (false, (.op2 .lcmp (.op2 .frem (.op2 .iand (.arg 0) (.int 7)) (.int 0)) (.int 0)), (.int 1), true)] := Okk.fork nd394 nd395
set_option maxRecDepth 1000000 in
theorem nd397 : Okk (rn_1 0 5) [(false, (.op2 .frem (.op2 .iand (.op2 .iushr (.arg 0) (.int 12)) (.int 7)) (.int 0)), (.int 10), true), (false, (.op2 .lcmp (.op2 .frem (.op2 .iand (.op2 .iushr (.arg 0) (.int 12)) (.int 7)) (.int 0)) (.int 0)), (.int 1), false), (false, (.op2 .lcmp (.op2 .frem (.op2 .iand (.op2 .iushr (.arg 0) (.int 9)) (.int 7)) (.int 0)) (.int 0)), (.int 1), true), (false, (.op2 .lcmp (.op2 .frem (.op2 .iand (.op2 .iushr (.arg 0) (.int 6)) (.int 7)) (.int 0)) (.int 0)), (.int 1), true), (false, (.op2 .lcmp (.op2 .frem (.op2 .iand (.op2 .iushr (.arg 0) (.int 3)) (.int 7)) (.int 0)) (.int 0)), (.int 1), true), (false, (.op2 .lcmp (.op2 .frem (.op2 .iand (.arg 0) (.int 7)) (.int 0)) (.int 0)), (.int 1), true)] := Okk.leaf (by decide +kernel)
set_option maxRecDepth 1000000 in
theorem nd398 : Okk (rn_1 0 5) [(false, (.op2 .frem (.op2 .iand (.op2 .iushr (.arg 0) (.int 12)) (.int 7)) (.int 0)), (.int 123), true), (false, (.op2 .lcmp (.op2 .frem (.op2 .iand (.op2 .iushr (.arg 0) (.int 12)) (.int 7)) (.int 0)) (.int 0)), (.int 1), false), (false, (.op2 .lcmp (.op2 .frem (.op2 .iand (.op2 .iushr (.arg 0) (.int 9)) (.int 7)) (.int 0)) (.int 0)), (.int 1), true), (false, (.op2 .lcmp (.op2 .frem (.op2 .iand (.op2 .iushr (.arg 0) (.int 6)) (.int 7)) (.int 0)) (.int 0)), (.int 1), true), (false, (.op2 .lcmp (.op2 .frem (.op2 .iand (.op2 .iushr (.arg 0) (.int 3)) (.int 7)) (.int 0)) (.int 0)), (.int 1), true), (false, (.op2 .lcmp (.op2 .frem (.op2 .iand (.arg 0) (.int 7)) (.int 0)) (.int 0)), (.int 1), true)] := Okk.leaf (by decide +kernel)
set_option maxRecDepth 1000000 in
theorem nd399 : Okk (rn_1 0 5) [(false, (.op2 .frem (.op2 .iand (.op2 .iushr (.arg 0) (.int 12)) (.int 7)) (.int 0)), (.int 125), true), (false, (.op2 .lcmp (.op2 .frem (.op2 .iand (.op2 .iushr (.arg 0) (.int 12)) (.int 7)) (.int 0)) (.int 0)), (.int 1), false), (false, (.op2 .lcmp (.op2 .frem (.op2 .iand (.op2 .iushr (.arg 0) (.int 9)) (.int 7)) (.int 0)) (.int 0)), (.int 1), true), (false, (.op2 .lcmp (.op2 .frem (.op2 .iand (.op2 .iushr (.arg 0) (.int 6)) (.int 7)) (.int 0)) (.int 0)), (.int 1), true), (false, (.op2 .lcmp (.op2 .frem (.op2 .iand (.op2 .iushr (.arg 0) (.int 3)) (.int 7)) (.int 0)) (.int 0)), (.int 1), true), (false, (.op2 .lcmp (.op2 .frem (.op2 .iand (.arg 0) (.int 7)) (.int 0)) (.int 0)), (.int 1), true)] := Okk.leaf (by decide +kernel)
set_option maxRecDepth 1000000 in
theorem nd400 : Okk (rn_1 0 5) [(false, (.op2 .frem (.op2 .iand (.op2 .iushr (.arg 0) (.int 12)) (.int 7)) (.int 0)), (.int 11), true), (false, (.op2 .lcmp (.op2 .frem (.op2 .iand (.op2 .iushr (.arg 0) (.int 12)) (.int 7)) (.int 0)) (.int 0)), (.int 1), false), (false, (.op2 .lcmp (.op2 .frem (.op2 .iand (.op2 .iushr (.arg 0) (.int 9)) (.int 7)) (.int 0)) (.int 0)), (.int 1), true), (false, (.op2 .lcmp (.op2 .frem (.op2 .iand (.op2 .iushr (.arg 0) (.int 6)) (.int 7)) (.int 0)) (.int 0)), (.int 1), true), (false, (.op2 .lcmp (.op2 .frem (.op2 .iand (.op2 .iushr (.arg 0) (.int 3)) (.int 7)) (.int 0)) (.int 0)), (.int 1), true), (false, (.op2 .lcmp (.op2 .frem (.op2 .iand (.arg 0) (.int 7)) (.int 0)) (.int 0)), (.int 1), true)] := Okk.leaf (by decide +kernel)
set_option maxRecDepth 1000000 in
theorem nd401 : Okk (rn_1 0 5) [(false, (.op2 .frem (.op2 .iand (.op2 .iushr (.arg 0) (.int 12)) (.int 7)) (.int 0)), (.int (-30)), true), (false, (.op2 .lcmp (.op2 .frem (.op2 .iand (.op2 .iushr (.arg 0) (.int 12)) (.int 7)) (.int 0)) (.int 0)), (.int 1), false), (false, (.op2 .lcmp (.op2 .frem (.op2 .iand (.op2 .iushr (.arg 0) (.int 9)) (.int 7)) (.int 0)) (.int 0)), (.int 1), true), (false, (.op2 .lcmp (.op2 .frem (.op2 .iand (.op2 .iushr (.arg 0) (.int 6)) (.int 7)) (.int 0)) (.int 0)), (.int 1), true), (false, (.op2 .lcmp (.op2 .frem (.op2 .iand (.op2 .iushr (.arg 0) (.int 3)) (.int 7)) (.int 0)) (.int 0)), (.int 1), true), (false, (.op2 .lcmp (.op2 .frem (.op2 .iand (.arg 0) (.int 7)) (.int 0)) (.int 0)), (.int 1), true)] := Okk.leaf (by decide +kernel)
theorem nd402 : Okk (rn_1 0 5) [(false, (.op2 .lcmp (.op2 .frem (.op2 .iand (.op2 .iushr (.arg 0) (.int 12)) (.int 7)) (.int 0)) (.int 0)), (.int 1), false), (false, (.op2 .lcmp (.op2 .frem (.op2 .iand (.op2 .iushr (.arg 0) (.int 9)) (.int 7)) (.int 0)) (.int 0)), (.int 1), true), (false, (.op2 .lcmp (.op2 .frem (.op2 .iand (.op2 .iushr (.arg 0) (.int 6)) (.int 7)) (.int 0)) (.int 0)), (.int 1), true), (false, (.op2 .lcmp (.op2 .frem (.op2 .iand (.op2 .iushr (.arg 0) (.int 3)) (.int 7)) (.int 0)) (.int 0)), (.int 1), true), (false, (.op2 .lcmp (.op2 .frem (.op2 .iand (.arg 0) (.int 7)) (.int 0)) (.int 0)), (.int 1), true)] := Okk.tab (by decide +kernel) nd397 nd398 nd399 nd400 nd401
theorem nd403 : Okk (rn_1 0 5) [(false, (.op2 .lcmp (.op2 .frem (.op2 .iand (.op2 .iushr (.arg 0) (.int 9)) (.int 7)) (.int 0)) (.int 0)), (.int 1), true), (false, (.op2 .lcmp (.op2 .frem (.op2 .iand (.op2 .iushr (.arg 0) (.int 6)) (.int 7)) (.int 0)) (.int 0)), (.int 1), true), (false, (.op2 .lcmp (.op2 .frem (.op2 .iand (.op2 .iushr (.arg 0) (.int 3)) (.int 7)) (.int 0)) (.int 0)), (.int 1), true), (false, (.op2 .lcmp (.op2 .frem (.op2 .iand (.arg 0) (.int 7)) (.int 0)) (.int 0)), (.int 1), true)] := Okk.fork nd396 nd402
set_option maxRecDepth 1000000 in
theorem nd404 : Okk (rn_1 0 5) [(false, (.op2 .frem (.op2 .iand (.op2 .iushr (.arg 0) (.int 9)) (.int 7)) (.int 0)), (.int 10), true), (false, (.op2 .lcmp (.op2 .frem (.op2 .iand (.op2 .iushr (.arg 0) (.int 9)) (.int 7)) (.int 0)) (.int 0)), (.int 1), false), (false, (.op2 .lcmp (.op2 .frem (.op2 .iand (.op2 .iushr (.arg 0) (.int 6)) (.int 7)) (.int 0)) (.int 0)), (.int 1), true), (false, (.op2 .lcmp (.op2 .frem (.op2 .iand (.op2 .iushr (.arg 0) (.int 3)) (.int 7)) (.int 0)) (.int 0)), (.int 1), true), (false, (.op2 .lcmp (.op2 .frem (.op2 .iand (.arg 0) (.int 7)) (.int 0)) (.int 0)), (.int 1), true)] := Okk.leaf (by decide +kernel)
set_option maxRecDepth 1000000 in
theorem nd405 : Okk (rn_1 0 5) [(false, (.op2 .frem (.op2 .iand (.op2 .iushr (.arg 0) (.int 9)) (.int 7)) (.int 0)), (.int 123), true), (false, (.op2 .lcmp (.op2 .frem (.op2 .iand (.op2 .iushr (.arg 0) (.int 9)) (.int 7)) (.int 0)) (.int 0)), (.int 1), false), (false, (.op2 .lcmp (.op2 .frem (.op2 .iand (.op2 .iushr (.arg 0) (.int 6)) (.int 7)) (.int 0)) (.int 0)), (.int 1), true), (false, (.op2 .lcmp (.op2 .frem (.op2 .iand (.op2 .iushr (.arg 0) (.int 3)) (.int 7)) (.int 0)) (.int 0)), (.int 1), true), (false, (.op2 .lcmp (.op2 .frem (.op2 .iand (.arg 0) (.int 7)) (.int 0)) (.int 0)), (.int 1), true)] := Okk.leaf (by decide +kernel)
set_option maxRecDepth 1000000 in
theorem nd406 : Okk (rn_1 0 5) [(false, (.op2 .frem (.op2 .iand (.op2 .iushr (.arg 0) (.int 9)) (.int 7)) (.int 0)), (.int 125), true), (false, (.op2 .lcmp (.op2 .frem (.op2 .iand (.op2 .iushr (.arg 0) (.int 9)) (.int 7)) (.int 0)) (.int 0)), (.int 1), false), (false, (.op2 .lcmp (.op2 .frem (.op2 .iand (.op2 .iushr (.arg 0) (.int 6)) (.int 7)) (.int 0)) (.int 0)), (.int 1), true), (false, (.op2 .lcmp (.op2 .frem (.op2 .iand (.op2 .iushr (.arg 0) (.int 3)) (.int 7)) (.int 0)) (.int 0)), (.int 1), true), (false, (.op2 .lcmp (.op2 .frem (.op2 .iand (.arg 0) (.int 7)) (.int 0)) (.int 0)), (.int 1), true)] := Okk.leaf (by decide +kernel)
set_option maxRecDepth 1000000 in
theorem nd407 : Okk (rn_1 0 5) [(false, (.op2 .frem (.op2 .iand (.op2 .iushr (.arg 0) (.int 9)) (.int 7)) (.int 0)), (.int 11), true), (false, (.op2 .lcmp (.op2 .frem (.op2 .iand (.op2 .iushr (.arg 0) (.int 9)) (.int 7)) (.int 0)) (.int 0)), (.int 1), false), (false, (.op2 .lcmp (.op2 .frem (.op2 .iand (.op2 .iushr (.arg 0) (.int 6)) (.int 7)) (.int 0)) (.int 0)), (.int 1), true), (false, (.op2 .lcmp (.op2 .frem (.op2 .iand (.op2 .iushr (.arg 0) (.int 3)) (.int 7)) (.int 0)) (.int 0)), (.int 1), true), (false, (.op2 .lcmp (.op2 .frem (.op2 .iand (.arg 0) (.int 7)) (.int 0)) (.int 0)), (.int 1), true)] := Okk.leaf (by decide +kernel)
set_option maxRecDepth 1000000 in
theorem nd408 : Okk (rn_1 0 5) [(false, (.op2 .frem (.op2 .iand (.op2 .iushr (.arg 0) (.int 9)) (.int 7)) (.int 0)), (.int (-30)), true), (false, (.op2 .lcmp (.op2 .frem (.op2 .iand (.op2 .iushr (.arg 0) (.int 9)) (.int 7)) (.int 0)) (.int 0)), (.int 1), false), (false, (.op2 .lcmp (.op2 .frem (.op2 .iand (.op2 .iushr (.arg 0) (.int 6)) (.int 7)) (.int 0)) (.int 0)), (.int 1), true), (false, (.op2 .lcmp (.op2 .frem (.op2 .iand (.op2 .iushr (.arg 0) (.int 3)) (.int 7)) (.int 0)) (.int 0)), (.int 1), true), (false, (.op2 .lcmp (.op2 .frem (.op2 .iand (.arg 0) (.int 7)) (.int 0)) (.int 0)), (.int 1), true)] := Okk.leaf (by decide +kernel)
theorem nd409 : Okk (rn_1 0 5) [(false, (.op2 .lcmp (.op2 .frem (.op2 .iand (.op2 .iushr (.arg 0) (.int 9)) (.int 7)) (.int 0)) (.int 0)), (.int 1), false), (false, (.op2 .lcmp (.op2 .frem (.op2 .iand (.op2 .iushr (.arg 0) (.int 6)) (.int 7)) (.int 0)) (.int 0)), (.int 1), true), (false, (.op2 .lcmp (.op2 .frem (.op2 .iand (.op2 .iushr (.arg 0) (.int 3)) (.int 7)) (.int 0)) (.int 0)), (.int 1), true), (false, (.op2 .lcmp (.op2 .frem (.op2 .iand (.arg 0) (.int 7)) (.int 0)) (.int 0)), (.int 1), true)] := Okk.tab (by decide +kernel) nd404 nd405 nd406 nd407 nd408
theorem nd410 : Okk (rn_1 0 5) [(false, (.op2 .lcmp (.op2 .frem (.op2 .iand (.op2 .iushr (.arg 0) (.int 6)) (.int 7)) (.int 0)) (.int 0)), (.int 1), true), (false, (.op2 .lcmp (.op2 .frem (.op2 .iand (.op2 .iushr (.arg 0) (.int 3)) (.int 7)) (.int 0)) (.int 0)), (.int 1), true), (false, (.op2 .lcmp (.op2 .frem (.op2 .iand (.arg 0) (.int 7)) (.int 0)) (.int 0)), (.int 1), true)] := Okk.fork nd403 nd409
set_option maxRecDepth 1000000 in
theorem nd411 : Okk (rn_1 0 5) [(false, (.op2 .frem (.op2 .iand (.op2 .iushr (.arg 0) (.int 6)) (.int 7)) (.int 0)), (.int 10), true), (false, (.op2 .lcmp (.op2 .frem (.op2 .iand (.op2 .iushr (.arg 0) (.int 6)) (.int 7)) (.int 0)) (.int 0)), (.int 1), false), (false, (.op2 .lcmp (.op2 .frem (.op2 .iand (.op2 .iushr (.arg 0) (.int 3)) (.int 7)) (.int 0)) (.int 0)), (.int 1), true), (false, (.op2 .lcmp (.op2 .frem (.op2 .iand (.arg 0) (.int 7)) (.int 0)) (.int 0)), (.int 1), true)] := Okk.leaf (by decide +kernel)
set_option maxRecDepth 1000000 in
theorem nd412 : Okk (rn_1 0 5) [(false, (.op2 .frem (.op2 .iand (.op2 .iushr (.arg 0) (.int 6)) (.int 7)) (.int 0)), (.int 123), true), (false, (.op2 .lcmp (.op2 .frem (.op2 .iand (.op2 .iushr (.arg 0) (.int 6)) (.int 7)) (.int 0)) (.int 0)), (.int 1), false), (false, (.op2 .lcmp (.op2 .frem (.op2 .iand (.op2 .iushr (.arg 0) (.int 3)) (.int 7)) (.int 0)) (.int 0)), (.int 1), true), (false, (.op2 .lcmp (.op2 .frem (.op2 .iand (.arg 0) (.int 7)) (.int 0)) (.int 0)), (.int 1), true)] := Okk.leaf (by decide +kernel)
set_option maxRecDepth 1000000 in
theorem nd413 : Okk (rn_1 0 5) [(false, (.op2 .frem (.op2 .iand (.op2 .iushr (.arg 0) (.int 6)) (.int 7)) (.int 0)), (.int 125), true), (false, (.op2 .lcmp (.op2 .frem (.op2 .iand (.op2 .iushr (.arg 0) (.int 6)) (.int 7)) (.int 0)) (.int 0)), (.int 1), false), (false, (.op2 .lcmp (.op2 .frem (.op2 .iand (.op2 .iushr (.arg 0) (.int 3)) (.int 7)) (.int 0)) (.int 0)), (.int 1), true), (false, (.op2 .lcmp (.op2 .frem (.op2 .iand (.arg 0) (.int 7)) (.int 0)) (.int 0)), (.int 1), true)] := Okk.leaf (by decide +kernel)
set_option maxRecDepth 1000000 in
theorem nd414 : Okk (rn_1 0 5) [(false, (.op2 .frem (.op2 .iand (.op2 .iushr (.arg 0) (.int 6)) (.int 7)) (.int 0)), (.int 11), true), (false, (.op2 .lcmp (.op2 .frem (.op2 .iand (.op2 .iushr (.arg 0) (.int 6)) (.int 7)) (.int 0)) (.int 0)), (.int 1), false), (false, (.op2 .lcmp (.op2 .frem (.op2 .iand (.op2 .iushr (.arg 0) (.int 3)) (.int 7)) (.int 0)) (.int 0)), (.int 1), true), (false, (.op2 .lcmp (.op2 .frem (.op2 .iand (.arg 0) (.int 7)) (.int 0)) (.int 0)), (.int 1), true)] := Okk.leaf (by decide +kernel)
set_option maxRecDepth 1000000 in
theorem nd415 : Okk (rn_1 0 5) [(false, (.op2 .frem (.op2 .iand (.op2 .iushr (.arg 0) (.int 6)) (.int 7)) (.int 0)), (.int (-30)), true), (false, (.op2 .lcmp (.op2 .frem (.op2 .iand (.op2 .iushr (.arg 0) (.int 6)) (.int 7)) (.int 0)) (.int 0)), (.int 1), false), (false, (.op2 .lcmp (.op2 .frem (.op2 .iand (.op2 .iushr (.arg 0) (.int 3)) (.int 7)) (.int 0)) (.int 0)), (.int 1), true), (false, (.op2 .lcmp (.op2 .frem (.op2 .iand (.arg 0) (.int 7)) (.int 0)) (.int 0)), (.int 1), true)] := Okk.leaf (by decide +kernel)
theorem nd416 : Okk (rn_1 0 5) [(false, (.op2 .lcmp (.op2 .frem (.op2 .iand (.op2 .iushr (.arg 0) (.int 6)) (.int 7)) (.int 0)) (.int 0)), (.int 1), false), (false, (.op2 .lcmp (.op2 .frem (.op2 .iand (.op2 .iushr (.arg 0) (.int 3)) (.int 7)) (.int 0)) (.int 0)), (.int 1), true), (false, (.op2 .lcmp (.op2 .frem (.op2 .iand (.arg 0) (.int 7)) (.int 0)) (.int 0)), (.int 1), true)] := Okk.tab (by decide +kernel) nd411 nd412 nd413 nd414 nd415
theorem nd417 : Okk (rn_1 0 5) [(false, (.op2 .lcmp (.op2 .frem (.op2 .iand (.op2 .iushr (.arg 0) (.int 3)) (.int 7)) (.int 0)) (.int 0)), (.int 1), true), (false, (.op2 .lcmp (.op2 .frem (.op2 .iand (.arg 0) (.int 7)) (.int 0)) (.int 0)), (.int 1), true)] := Okk.fork nd410 nd416
set_option maxRecDepth 1000000 in
theorem nd418 : Okk (rn_1 0 5) [(false, (.op2 .frem (.op2 .iand (.op2 .iushr (.arg 0) (.int 3)) (.int 7)) (.int 0)), (.int 10), true), (false, (.op2 .lcmp (.op2 .frem (.op2 .iand (.op2 .iushr (.arg 0) (.int 3)) (.int 7)) (.int 0)) (.int 0)), (.int 1), false), (false, (.op2 .lcmp (.op2 .frem (.op2 .iand (.arg 0) (.int 7)) (.int 0)) (.int 0)), (.int 1), true)] := Okk.leaf (by decide +kernel)
set_option maxRecDepth 1000000 in
theorem nd419 : Okk (rn_1 0 5) [(false, (.op2 .frem (.op2 .iand (.op2 .iushr (.arg 0) (.int 3)) (.int 7)) (.int 0)), (.int 123), true), (false, (.op2 .lcmp (.op2 .frem (.op2 .iand (.op2 .iushr (.arg 0) (.int 3)) (.int 7)) (.int 0)) (.int 0)), (.int 1), false), (false, (.op2 .lcmp (.op2 .frem (.op2 .iand (.arg 0) (.int 7)) (.int 0)) (.int 0)), (.int 1), true)] := Okk.leaf (by decide +kernel)
set_option maxRecDepth 1000000 in
theorem nd420 : Okk (rn_1 0 5) [(false, (.op2 .frem (.op2 .iand (.op2 .iushr (.arg 0) (.int 3)) (.int 7)) (.int 0)), (.int 125), true), (false, (.op2 .lcmp (.op2 .frem (.op2 .iand (.op2 .iushr (.arg 0) (.int 3)) (.int 7)) (.int 0)) (.int 0)), (.int 1), false), (false, (.op2 .lcmp (.op2 .frem (.op2 .iand (.arg 0) (.int 7)) (.int 0)) (.int 0)), (.int 1), true)] := Okk.leaf (by decide +kernel)
set_option maxRecDepth 1000000 in
theorem nd421 : Okk (rn_1 0 5) [(false, (.op2 .frem (.op2 .iand (.op2 .iushr (.arg 0) (.int 3)) (.int 7)) (.int 0)), (.int 11), true), (false, (.op2 .lcmp (.op2 .frem (.op2 .iand (.op2 .iushr (.arg 0) (.int 3)) (.int 7)) (.int 0)) (.int 0)), (.int 1), false), (false, (.op2 .lcmp (.op2 .frem (.op2 .iand (.arg 0) (.int 7)) (.int 0)) (.int 0)), (.int 1), true)] := Okk.leaf (by decide +kernel)
set_option maxRecDepth 1000000 in
theorem nd422 : Okk (rn_1 0 5) [(false, (.op2 .frem (.op2 .iand (.op2 .iushr (.arg 0) (.int 3)) (.int 7)) (.int 0)), (.int (-30)), true), (false, (.op2 .lcmp (.op2 .frem (.op2 .iand (.op2 .iushr (.arg 0) (.int 3)) (.int 7)) (.int 0)) (.int 0)), (.int 1), false), (false, (.op2 .lcmp (.op2 .frem (.op2 .iand (.arg 0) (.int 7)) (.int 0)) (.int 0)), (.int 1), true)] := Okk.leaf (by decide +kernel)
theorem nd423 : Okk (rn_1 0 5) [(false, (.op2 .lcmp (.op2 .frem (.op2 .iand (.op2 .iushr (.arg 0) (.int 3)) (.int 7)) (.int 0)) (.int 0)), (.int 1), false), (false, (.op2 .lcmp (.op2 .frem (.op2 .iand (.arg 0) (.int 7)) (.int 0)) (.int 0)), (.int 1), true)] := Okk.tab (by decide +kernel) nd418 nd419 nd420 nd421 nd422
theorem nd424 : Okk (rn_1 0 5) [(false, (.op2 .lcmp (.op2 .frem (.op2 .iand (.arg 0) (.int 7)) (.int 0)) (.int 0)), (.int 1), true)] := Okk.fork nd417 nd423
set_option maxRecDepth 1000000 in
theorem nd425 : Okk (rn_1 0 5) [(false, (.op2 .frem (.op2 .iand (.arg 0) (.int 7)) (.int 0)), (.int 10), true), (false, (.op2 .lcmp (.op2 .frem (.op2 .iand (.arg 0) (.int 7)) (.int 0)) (.int 0)), (.int 1), false)] := Okk.leaf (by decide +kernel)
set_option maxRecDepth 1000000 in
theorem nd426 : Okk (rn_1 0 5) [(false, (.op2 .frem (.op2 .iand (.arg 0) (.int 7)) (.int 0)), (.int 123), true), (false, (.op2 .lcmp (.op2 .frem (.op2 .iand (.arg 0) (.int 7)) (.int 0)) (.int 0)), (.int 1), false)] := Okk.leaf (by decide +kernel)
set_option maxRecDepth 1000000 in
theorem nd427 : Okk (rn_1 0 5) [(false, (.op2 .frem (.op2 .iand (.arg 0) (.int 7)) (.int 0)), (.int 125), true), (false, (.op2 .lcmp (.op2 .frem (.op2 .iand (.arg 0) (.int 7)) (.int 0)) (.int 0)), (.int 1), false)] := Okk.leaf (by decide +kernel)
set_option maxRecDepth 1000000 in
theorem nd428 : Okk (rn_1 0 5) [(false, (.op2 .frem (.op2 .iand (.arg 0) (.int 7)) (.int 0)), (.int 11), true), (false, (.op2 .lcmp (.op2 .frem (.op2 .iand (.arg 0) (.int 7)) (.int 0)) (.int 0)), (.int 1), false)] := Okk.leaf (by decide +kernel)
set_option maxRecDepth 1000000 in
theorem nd429 : Okk (rn_1 0 5) [(false, (.op2 .frem (.op2 .iand (.arg 0) (.int 7)) (.int 0)), (.int (-30)), true), (false, (.op2 .lcmp (.op2 .frem (.op2 .iand (.arg 0) (.int 7)) (.int 0)) (.int 0)), (.int 1), false)] := Okk.leaf (by decide +kernel)
theorem nd430 : Okk (rn_1 0 5) [(false, (.op2 .lcmp (.op2 .frem (.op2 .iand (.arg 0) (.int 7)) (.int 0)) (.int 0)), (.int 1), false)] := Okk.tab (by decide +kernel) nd425 nd426 nd427 nd428 nd429
theorem nd431 : Okk (rn_1 0 5) [] := Okk.fork nd424 nd430
set_option maxRecDepth 1000000 in
theorem nd432 : Okk (rn_1 1 1) [(false, (.op2 .dcmpl (.op2 .iand (.arg 3) (.int 1)) (.int 0)), (.int 0), true)] := Okk.leaf (by decide +kernel)
set_option maxRecDepth 1000000 in
theorem nd433 : Okk (rn_1 1 1) [(false, (.op2 .dcmpl (.op2 .iand (.arg 3) (.int 1)) (.int 0)), (.int 0), false)] := Okk.leaf (by decide +kernel)
theorem nd434 : Okk (rn_1 1 1) [] := Okk.fork nd432 nd433
set_option maxRecDepth 1000000 in
theorem nd435 : Okk (rn_1 1 2) [(false, (.op2 .dcmpl (.op2 .iand (.arg 3) (.int 1)) (.int 0)), (.int 0), true), (false, (.op2 .lcmp (.op2 .frem (.op2 .iand (.op2 .iushr (.arg 0) (.int 3)) (.int 7)) (.int 0)) (.int 0)), (.int 1), true)] := Okk.leaf (by decide +kernel)
set_option maxRecDepth 1000000 in
theorem nd436 : Okk (rn_1 1 2) [(false, (.op2 .dcmpl (.op2 .iand (.arg 3) (.int 1)) (.int 0)), (.int 0), false), (false, (.op2 .lcmp (.op2 .frem (.op2 .iand (.op2 .iushr (.arg 0) (.int 3)) (.int 7)) (.int 0)) (.int 0)), (.int 1), true)] := Okk.leaf (by decide +kernel)
theorem nd437 : Okk (rn_1 1 2) [(false, (.op2 .lcmp (.op2 .frem (.op2 .iand (.op2 .iushr (.arg 0) (.int 3)) (.int 7)) (.int 0)) (.int 0)), (.int 1), true)] := Okk.fork nd435 nd436
set_option maxRecDepth 1000000 in
theorem nd438 : Okk (rn_1 1 2) [(false, (.op2 .frem (.op2 .iand (.op2 .iushr (.arg 0) (.int 3)) (.int 7)) (.int 0)), (.int 10), true), (false, (.op2 .lcmp (.op2 .frem (.op2 .iand (.op2 .iushr (.arg 0) (.int 3)) (.int 7)) (.int 0)) (.int 0)), (.int 1), false)] := Okk.leaf (by decide +kernel)
set_option maxRecDepth 1000000 in
theorem nd439 : Okk (rn_1 1 2) [(false, (.op2 .frem (.op2 .iand (.op2 .iushr (.arg 0) (.int 3)) (.int 7)) (.int 0)), (.int 123), true), (false, (.op2 .lcmp (.op2 .frem (.op2 .iand (.op2 .iushr (.arg 0) (.int 3)) (.int 7)) (.int 0)) (.int 0)), (.int 1), false)] := Okk.leaf (by decide +kernel)
set_option maxRecDepth 1000000 in
theorem nd440 : Okk (rn_1 1 2) [(false, (.op2 .frem (.op2 .iand (.op2 .iushr (.arg 0) (.int 3)) (.int 7)) (.int 0)), (.int 125), true), (false, (.op2 .lcmp (.op2 .frem (.op2 .iand (.op2 .iushr (.arg 0) (.int 3)) (.int 7)) (.int 0)) (.int 0)), (.int 1), false)] := Okk.leaf (by decide +kernel)
set_option maxRecDepth 1000000 in
theorem nd441 : Okk (rn_1 1 2) [(false, (.op2 .frem (.op2 .iand (.op2 .iushr (.arg 0) (.int 3)) (.int 7)) (.int 0)), (.int 11), true), (false, (.op2 .lcmp (.op2 .frem (.op2 .iand (.op2 .iushr (.arg 0) (.int 3)) (.int 7)) (.int 0)) (.int 0)), (.int 1), false)] := Okk.leaf (by decide +kernel)
set_option maxRecDepth 1000000 in
theorem nd442 : Okk (rn_1 1 2) [(false, (.op2 .frem (.op2 .iand (.op2 .iushr (.arg 0) (.int 3)) (.int 7)) (.int 0)), (.int (-30)), true), (false, (.op2 .lcmp (.op2 .frem (.op2 .iand (.op2 .iushr (.arg 0) (.int 3)) (.int 7)) (.int 0)) (.int 0)), (.int 1), false)] := Okk.leaf (by decide +kernel)
theorem nd443 : Okk (rn_1 1 2) [(false, (.op2 .lcmp (.op2 .frem (.op2 .iand (.op2 .iushr (.arg 0) (.int 3)) (.int 7)) (.int 0)) (.int 0)), (.int 1), false)] := Okk.tab (by decide +kernel) nd438 nd439 nd440 nd441 nd442
theorem nd444 : Okk (rn_1 1 2) [] := Okk.fork nd437 nd443
set_option maxRecDepth 1000000 in
theorem nd445 : Okk (rn_1 1 3) [(false, (.op2 .dcmpl (.op2 .iand (.arg 3) (.int 1)) (.int 0)), (.int 0), true), (false, (.op2 .lcmp (.op2 .frem (.op2 .iand (.op2 .iushr (.arg 0) (.int 6)) (.int 7)) (.int 0)) (.int 0)), (.int 1), true), (false, (.op2 .lcmp (.op2 .frem (.op2 .iand (.op2 .iushr (.arg 0) (.int 3)) (.int 7)) (.int 0)) (.int 0)), (.int 1), true)] := Okk.leaf (by decide +kernel)
set_option maxRecDepth 1000000 in
theorem nd446 : Okk (rn_1 1 3) [(false, (.op2 .dcmpl (.op2 .iand (.arg 3) (.int 1)) (.int 0)), (.int 0), false), (false, (.op2 .lcmp (.op2 .frem (.op2 .iand (.op2 .iushr (.arg 0) (.int 6)) (.int 7)) (.int 0)) (.int 0)), (.int 1), true), (false, (.op2 .lcmp (.op2 .frem (.op2 .iand (.op2 .iushr (.arg 0) (.int 3)) (.int 7)) (.int 0)) (.int 0)), (.int 1), true)] := Okk.leaf (by decide +kernel)
theorem nd447 : Okk (rn_1 1 3) [(false, (.op2 .lcmp (.op2 .frem (.op2 .iand (.op2 .iushr (.arg 0) (.int 6)) (.int 7)) (.int 0)) (.int 0)), (.int 1), true), (false, (.op2 .lcmp (.op2 .frem (.op2 .iand (.op2 .iushr (.arg 0) (.int 3)) (.int 7)) (.int 0)) (.int 0)), (.int 1), true)] := Okk.fork nd445 nd446
set_option maxRecDepth 1000000 in
theorem nd448 : Okk (rn_1 1 3) [(false, (.op2 .frem (.op2 .iand (.op2 .iushr (.arg 0) (.int 6)) (.int 7)) (.int 0)), (.int 10), true), (false, (.op2 .lcmp (.op2 .frem (.op2 .iand (.op2 .iushr (.arg 0) (.int 6)) (.int 7)) (.int 0)) (.int 0)), (.int 1), false), (false, (.op2 .lcmp (.op2 .frem (.op2 .iand (.op2 .iushr (.arg 0) (.int 3)) (.int 7)) (.int 0)) (.int 0)), (.int 1), true)] := Okk.leaf (by decide +kernel)
set_option maxRecDepth 1000000 in
theorem nd449 : Okk (rn_1 1 3) [(false, (.op2 .frem (.op2 .iand (.op2 .iushr (.arg 0) (.int 6)) (.int 7)) (.int 0)), (.int 123), true), (false, (.op2 .lcmp (.op2 .frem (.op2 .iand (.op2 .iushr (.arg 0) (.int 6)) (.int 7)) (.int 0)) (.int 0)), (.int 1), false), (false, (.op2 .lcmp (.op2 .frem (.op2 .iand (.op2 .iushr (.arg 0) (.int 3)) (.int 7)) (.int 0)) (.int 0)), (.int 1), true)] := Okk.leaf (by decide +kernel)
set_option maxRecDepth 1000000 in
theorem nd450 : Okk (rn_1 1 3) [(false, (.op2 .frem (.op2 .iand (.op2 .iushr (.arg 0) (.int 6)) (.int 7)) (.int 0)), (.int 125), true), (false, (.op2 .lcmp (.op2 .frem (.op2 .iand (.op2 .iushr (.arg 0) (.int 6)) (.int 7)) (.int 0)) (.int 0)), (.int 1), false), (false, (.op2 .lcmp (.op2 .frem (.op2 .iand (.op2 .iushr (.arg 0) (.int 3)) (.int 7)) (.int 0)) (.int 0)), (.int 1), true)] := Okk.leaf (by decide +kernel)
set_option maxRecDepth 1000000 in
theorem nd451 : Okk (rn_1 1 3) [(false, (.op2 .frem (.op2 .iand (.op2 .iushr (.arg 0) (.int 6)) (.int 7)) (.int 0)), (.int 11), true), (false, (.op2 .lcmp (.op2 .frem (.op2 .iand (.op2 .iushr (.arg 0) (.int 6)) (.int 7)) (.int 0)) (.int 0)), (.int 1), false), (false, (.op2 .lcmp (.op2 .frem (.op2 .iand (.op2 .iushr (.arg 0) (.int 3)) (.int 7)) (.int 0)) (.int 0)), (.int 1), true)] := Okk.leaf (by decide +kernel)
set_option maxRecDepth 1000000 in
theorem nd452 : Okk (rn_1 1 3) [(false, (.op2 .frem (.op2 .iand (.op2 .iushr (.arg 0) (.int 6)) (.int 7)) (.int 0)), (.int (-30)), true), (false, (.op2 .lcmp (.op2 .frem (.op2 .iand (.op2 .iushr (.arg 0) (.int 6)) (.int 7)) (.int 0)) (.int 0)), (.int 1), false), (false, (.op2 .lcmp (.op2 .frem (.op2 .iand (.op2 .iushr (.arg 0) (.int 3)) (.int 7)) (.int 0)) (.int 0)), (.int 1), true)] := Okk.leaf (by decide +kernel)
theorem nd453 : Okk (rn_1 1 3) [(false, (.op2 .lcmp (.op2 .frem (.op2 .iand (.op2 .iushr (.arg 0) (.int 6)) (.int 7)) (.int 0)) (.int 0)), (.int 1), false), (false, (.op2 .lcmp (.op2 .frem (.op2 .iand (.op2 .iushr (.arg 0) (.int 3)) (.int 7)) (.int 0)) (.int 0)), (.int 1), true)] := Okk.tab (by decide +kernel) nd448 nd449 nd450 nd451 nd452
theorem nd454 : Okk (rn_1 1 3) [(false, (.op2 .lcmp (.op2 .frem (.op2 .iand (.op2 .iushr (.arg 0) (.int 3)) (.int 7)) (.int 0)) (.int 0)), (.int 1), true)] := Okk.fork nd447 nd453
set_option maxRecDepth 1000000 in
theorem nd455 : Okk (rn_1 1 3) [(false, (.op2 .frem (.op2 .iand (.op2 .iushr (.arg 0) (.int 3)) (.int 7)) (.int 0)), (.int 10), true), (false, (.op2 .lcmp (.op2 .frem (.op2 .iand (.op2 .iushr (.arg 0) (.int 3)) (.int 7)) (.int 0)) (.int 0)), (.int 1), false)] := Okk.leaf (by decide +kernel)
set_option maxRecDepth 1000000 in
theorem nd456 : Okk (rn_1 1 3) [(false, (.op2 .frem (.op2 .iand (.op2 .iushr (.arg 0) (.int 3)) (.int 7)) (.int 0)), (.int 123), true), (false, (.op2 .lcmp (.op2 .frem (.op2 .iand (.op2 .iushr (.arg 0) (.int 3)) (.int 7)) (.int 0)) (.int 0)), (.int 1), false)] := Okk.leaf (by decide +kernel)
set_option maxRecDepth 1000000 in
theorem nd457 : Okk (rn_1 1 3) [(false, (.op2 .frem (.op2 .iand (.op2 .iushr (.arg 0) (.int 3)) (.int 7)) (.int 0)), (.int 125), true), (false, (.op2 .lcmp (.op2 .frem (.op2 .iand (.op2 .iushr (.arg 0) (.int 3)) (.int 7)) (.int 0)) (.int 0)), (.int 1), false)] := Okk.leaf (by decide +kernel)
set_option maxRecDepth 1000000 in
theorem nd458 : Okk (rn_1 1 3) [(false, (.op2 .frem (.op2 .iand (.op2 .iushr (.arg 0) (.int 3)) (.int 7)) (.int 0)), (.int 11), true), (false, (.op2 .lcmp (.op2 .frem (.op2 .iand (.op2 .iushr (.arg 0) (.int 3)) (.int 7)) (.int 0)) (.int 0)), (.int 1), false)] := Okk.leaf (by decide +kernel)
set_option maxRecDepth 1000000 in
theorem nd459 : Okk (rn_1 1 3) [(false, (.op2 .frem (.op2 .iand (.op2 .iushr (.arg 0) (.int 3)) (.int 7)) (.int 0)), (.int (-30)), true), (false, (.op2 .lcmp (.op2 .frem (.op2 .iand (.op2 .iushr (.arg 0) (.int 3)) (.int 7)) (.int 0)) (.int 0)), (.int 1), false)] := Okk.leaf (by decide +kernel)
theorem nd460 : Okk (rn_1 1 3) [(false, (.op2 .lcmp (.op2 .frem (.op2 .iand (.op2 .iushr (.arg 0) (.int 3)) (.int 7)) (.int 0)) (.int 0)), (.int 1), false)] := Okk.tab (by decide +kernel) nd455 nd456 nd457 nd458 nd459
theorem nd461 : Okk (rn_1 1 3) [] := Okk.fork nd454 nd460
set_option maxRecDepth 1000000 in
theorem nd462 : Okk (rn_1 1 4) [(false, (.op2 .dcmpl (.op2 .iand (.arg 3) (.int 1)) (.int 0)), (.int 0), true), (false, (.op2 .lcmp (.op2 .frem (.op2 .iand (.op2 .iushr (.arg 0) (.int 9)) (.int 7)) (.int 0)) (.int 0)), (.int 1), true), (false, (.op2 .lcmp (.op2 .frem (.op2 .iand (.op2 .iushr (.arg 0) (.int 6)) (.int 7)) (.int 0)) (.int 0)), (.int 1), true), (false, (.op2 .lcmp (.op2 .frem (.op2 .iand (.op2 .iushr (.arg 0) (.int 3)) (.int 7)) (.int 0)) (.int 0)), (.int 1), true)] := Okk.leaf (by decide +kernel)
set_option maxRecDepth 1000000 in
theorem nd463 : Okk (rn_1 1 4) [(false, (.op2 .dcmpl (.op2 .iand (.arg 3) (.int 1)) (.int 0)), (.int 0), false), (false, (.op2 .lcmp (.op2 .frem (.op2 .iand (.op2 .iushr (.arg 0) (.int 9)) (.int 7)) (.int 0)) (.int 0)), (.int 1), true), (false, (.op2 .lcmp (.op2 .frem (.op2 .iand (.op2 .iushr (.arg 0) (.int 6)) (.int 7)) (.int 0)) (.int 0)), (.int 1), true), (false, (.op2 .lcmp (.op2 .frem (.op2 .iand (.op2 .iushr (.arg 0) (.int 3)) (.int 7)) (.int 0)) (.int 0)), (.int 1), true)] := Okk.leaf (by decide +kernel)
theorem nd464 : Okk (rn_1 1 4) [(false, (.op2 .lcmp (.op2 .frem (.op2 .iand (.op2 .iushr (.arg 0) (.int 9)) (.int 7)) (.int 0)) (.int 0)), (.int 1), true), (false, (.op2 .lcmp (.op2 .frem (.op2 .iand (.op2 .iushr (.arg 0) (.int 6)) (.int 7)) (.int 0)) (.int 0)), (.int 1), true), (false, (.op2 .lcmp (.op2 .frem (.op2 .iand (.op2 .iushr (.arg 0) (.int 3)) (.int 7)) (.int 0)) (.int 0)), (.int 1), true)] := Okk.fork nd462 nd463
set_option maxRecDepth 1000000 in
theorem nd465 : Okk (rn_1 1 4) [(false, (.op2 .frem (.op2 .iand (.op2 .iushr (.arg 0) (.int 9)) (.int 7)) (.int 0)), (.int 10), true), (false, (.op2 .lcmp (.op2 .frem (.op2 .iand (.op2 .iushr (.arg 0) (.int 9)) (.int 7)) (.int 0)) (.int 0)), (.int 1), false), (false, (.op2 .lcmp (.op2 .frem (.op2 .iand (.op2 .iushr (.arg 0) (.int 6)) (.int 7)) (.int 0)) (.int 0)), (.int 1), true), (false, (.op2 .lcmp (.op2 .frem (.op2 .iand (.op2 .iushr (.arg 0) (.int 3)) (.int 7)) (.int 0)) (.int 0)), (.int 1), true)] := Okk.leaf (by decide +kernel)
set_option maxRecDepth 1000000 in
theorem nd466 : Okk (rn_1 1 4) [(false, (.op2 .frem (.op2 .iand (.op2 .iushr (.arg 0) (.int 9)) (.int 7)) (.int 0)), (.int 123), true), (false, (.op2 .lcmp (.op2 .frem (.op2 .iand (.op2 .iushr (.arg 0) (.int 9)) (.int 7)) (.int 0)) (.int 0)), (.int 1), false), (false, (.op2 .lcmp (.op2 .frem (.op2 .iand (.op2 .iushr (.arg 0) (.int 6)) (.int 7)) (.int 0)) (.int 0)), (.int 1), true), (false, (.op2 .lcmp (.op2 .frem (.op2 .iand (.op2 .iushr (.arg 0) (.int 3)) (.int 7)) (.int 0)) (.int 0)), (.int 1), true)] := Okk.leaf (by decide +kernel)
set_option maxRecDepth 1000000 in
theorem nd467 : Okk (rn_1 1 4) [(false, (.op2 .frem (.op2 .iand (.op2 .iushr (.arg 0) (.int 9)) (.int 7)) (.int 0)), (.int 125), true), (false, (.op2 .lcmp (.op2 .frem (.op2 .iand (.op2 .iushr (.arg 0) (.int 9)) (.int 7)) (.int 0)) (.int 0)), (.int 1), false), (false, (.op2 .lcmp (.op2 .frem (.op2 .iand (.op2 .iushr (.arg 0) (.int 6)) (.int 7)) (.int 0)) (.int 0)), (.int 1), true), (false, (.op2 .lcmp (.op2 .frem (.op2 .iand (.op2 .iushr (.arg 0) (.int 3)) (.int 7)) (.int 0)) (.int 0)), (.int 1), true)] := Okk.leaf (by decide +kernel)
set_option maxRecDepth 1000000 in
theorem nd468 : Okk (rn_1 1 4) [(false, (.op2 .frem (.op2 .iand (.op2 .iushr (.arg 0) (.int 9)) (.int 7)) (.int 0)), (.int 11), true), (false, (.op2 .lcmp (.op2 .frem (.op2 .iand (.op2 .iushr (.arg 0) (.int 9)) (.int 7)) (.int 0)) (.int 0)), (.int 1), false), (false, (.op2 .lcmp (.op2 .frem (.op2 .iand (.op2 .iushr (.arg 0) (.int 6)) (.int 7)) (.int 0)) (.int 0)), (.int 1), true), (false, (.op2 .lcmp (.op2 .frem (.op2 .iand (.op2 .iushr (.arg 0) (.int 3)) (.int 7)) (.int 0)) (.int 0)), (.int 1), true)] := Okk.leaf (by decide +kernel)
set_option maxRecDepth 1000000 in
theorem nd469 : Okk (rn_1 1 4) [(false, (.op2 .frem (.op2 .iand (.op2 .iushr (.arg 0) (.int 9)) (.int 7)) (.int 0)), (.int (-30)), true), (false, (.op2 .lcmp (.op2 .frem (.op2 .iand (.op2 .iushr (.arg 0) (.int 9)) (.int 7)) (.int 0)) (.int 0)), (.int 1), false), (false, (.op2 .lcmp (.op2 .frem (.op2 .iand (.op2 .iushr (.arg 0) (.int 6)) (.int 7)) (.int 0)) (.int 0)), (.int 1), true), (false, (.op2 .lcmp (.op2 .frem (.op2 .iand (.op2 .iushr (.arg 0) (.int 3)) (.int 7)) (.int 0)) (.int 0)), (.int 1), true)] := Okk.leaf (by decide +kernel)
theorem nd470 : Okk (rn_1 1 4) [(false, (.op2 .lcmp (.op2 .frem (.op2 .iand (.op2 .iushr (.arg 0) (.int 9)) (.int 7)) (.int 0)) (.int 0)), (.int 1), false), (false, (.op2 .lcmp (.op2 .frem (.op2 .iand (.op2 .iushr (.arg 0) (.int 6)) (.int 7)) (.int 0)) (.int 0)), (.int 1), true), (false, (.op2 .lcmp (.op2 .frem (.op2 .iand (.op2 .iushr (.arg 0) (.int 3)) (.int 7)) (.int 0)) (.int 0)), (.int 1), true)] := Okk.tab (by decide +kernel) nd465 nd466 nd467 nd468 nd469
theorem nd471 : Okk (rn_1 1 4) [(false, (.op2 .lcmp (.op2 .frem (.op2 .iand (.op2 .iushr (.arg 0) (.int 6)) (.int 7)) (.int 0)) (.int 0)), (.int 1), true), (false, (.op2 .lcmp (.op2 .frem (.op2 .iand (.op2 .iushr (.arg 0) (.int 3)) (.int 7)) (.int 0)) (.int 0)), (.int 1), true)] := Okk.fork nd464 nd470
set_option maxRecDepth 1000000 in
theorem nd472 : Okk (rn_1 1 4) [(false, (.op2 .frem (.op2 .iand (.op2 .iushr (.arg 0) (.int 6)) (.int 7)) (.int 0)), (.int 10), true), (false, (.op2 .lcmp (.op2 .frem (.op2 .iand (.op2 .iushr (.arg 0) (.int 6)) (.int 7)) (.int 0)) (.int 0)), (.int 1), false), (false, (.op2 .lcmp (.op2 .frem (.op2 .iand (.op2 .iushr (.arg 0) (.int 3)) (.int 7)) (.int 0)) (.int 0)), (.int 1), true)] := Okk.leaf (by decide +kernel)
set_option maxRecDepth 1000000 in
theorem nd473 : Okk (rn_1 1 4) [(false, (.op2 .frem (.op2 .iand (.op2 .iushr (.arg 0) (.int 6)) (.int 7)) (.int 0)), (.int 123), true), (false, (.op2 .lcmp (.op2 .frem (.op2 .iand (.op2 .iushr (.arg 0) (.int 6)) (.int 7)) (.int 0)) (.int 0)), (.int 1), false), (false, (.op2 .lcmp (.op2 .frem (.op2 .iand (.op2 .iushr (.arg 0) (.int 3)) (.int 7)) (.int 0)) (.int 0)), (.int 1), true)] := Okk.leaf (by decide +kernel)
set_option maxRecDepth 1000000 in
theorem nd474 : Okk (rn_1 1 4) [(false, (.op2 .frem (.op2 .iand (.op2 .iushr (.arg 0) (.int 6)) (.int 7)) (.int 0)), (.int 125), true), (false, (.op2 .lcmp (.op2 .frem (.op2 .iand (.op2 .iushr (.arg 0) (.int 6)) (.int 7)) (.int 0)) (.int 0)), (.int 1), false), (false, (.op2 .lcmp (.op2 .frem (.op2 .iand (.op2 .iushr (.arg 0) (.int 3)) (.int 7)) (.int 0)) (.int 0)), (.int 1), true)] := Okk.leaf (by decide +kernel)
set_option maxRecDepth 1000000 in
theorem nd475 : Okk (rn_1 1 4) [(false, (.op2 .frem (.op2 .iand (.op2 .iushr (.arg 0) (.int 6)) (.int 7)) (.int 0)), (.int 11), true), (false, (.op2 .lcmp (.op2 .frem (.op2 .iand (.op2 .iushr (.arg 0) (.int 6)) (.int 7)) (.int 0)) (.int 0)), (.int 1), false), (false, (.op2 .lcmp (.op2 .frem (.op2 .iand (.op2 .iushr (.arg 0) (.int 3)) (.int 7)) (.int 0)) (.int 0)), (.int 1), true)] := Okk.leaf (by decide +kernel)
set_option maxRecDepth 1000000 in
theorem nd476 : Okk (rn_1 1 4) [(false, (.op2 .frem (.op2 .iand (.op2 .iushr (.arg 0) (.int 6)) (.int 7)) (.int 0)), (.int (-30)), true), (false, (.op2 .lcmp (.op2 .frem (.op2 .iand (.op2 .iushr (.arg 0) (.int 6)) (.int 7)) (.int 0)) (.int 0)), (.int 1), false), (false, (.op2 .lcmp (.op2 .frem (.op2 .iand (.op2 .iushr (.arg 0) (.int 3)) (.int 7)) (.int 0)) (.int 0)), (.int 1), true)] := Okk.leaf (by decide +kernel)
theorem nd477 : Okk (rn_1 1 4) [(false, (.op2 .lcmp (.op2 .frem (.op2 .iand (.op2 .iushr (.arg 0) (.int 6)) (.int 7)) (.int 0)) (.int 0)), (.int 1), false), (false, (.op2 .lcmp (.op2 .frem (.op2 .iand (.op2 .iushr (.arg 0) (.int 3)) (.int 7)) (.int 0)) (.int 0)), (.int 1), true)] := Okk.tab (by decide +kernel) nd472 nd473 nd474 nd475 nd476
theorem nd478 : Okk (rn_1 1 4) [(false, (.op2 .lcmp (.op2 .frem (.op2 .iand (.op2 .iushr (.arg 0) (.int 3)) (.int 7)) (.int 0)) (.int 0)), (.int 1), true)] := Okk.fork nd471 nd477
set_option maxRecDepth 1000000 in
theorem nd479 : Okk (rn_1 1 4) [(false, (.op2 .frem (.op2 .iand (.op2 .iushr (.arg 0) (.int 3)) (.int 7)) (.int 0)), (.int 10), true), (false, (.op2 .lcmp (.op2 .frem (.op2 .iand (.op2 .iushr (.arg 0) (.int 3)) (.int 7)) (.int 0)) (.int 0)), (.int 1), false)] := Okk.leaf (by decide +kernel)
set_option maxRecDepth 1000000 in
theorem nd480 : Okk (rn_1 1 4) [(false, (.op2 .frem (.op2 .iand (.op2 .iushr (.arg 0) (.int 3)) (.int 7)) (.int 0)), (.int 123), true), (false, (.op2 .lcmp (.op2 .frem (.op2 .iand (.op2 .iushr (.arg 0) (.int 3)) (.int 7)) (.int 0)) (.int 0)), (.int 1), false)] := Okk.leaf (by decide +kernel)
set_option maxRecDepth 1000000 in
theorem nd481 : Okk (rn_1 1 4) [(false, (.op2 .frem (.op2 .iand (.op2 .iushr (.arg 0) (.int 3)) (.int 7)) (.int 0)), (.int 125), true), (false, (.op2 .lcmp (.op2 .frem (.op2 .iand (.op2 .iushr (.arg 0) (.int 3)) (.int 7)) (.int 0)) (.int 0)), (.int 1), false)] := Okk.leaf (by decide +kernel)
set_option maxRecDepth 1000000 in
theorem nd482 : Okk (rn_1 1 4) [(false, (.op2 .frem (.op2 .iand (.op2 .iushr (.arg 0) (.int 3)) (.int 7)) (.int 0)), (.int 11), true), (false, (.op2 .lcmp (.op2 .frem (.op2 .iand (.op2 .iushr (.arg 0) (.int 3)) (.int 7)) (.int 0)) (.int 0)), (.int 1), false)] := Okk.leaf (by decide +kernel)
set_option maxRecDepth 1000000 in
theorem nd483 : Okk (rn_1 1 4) [(false, (.op2 .frem (.op2 .iand (.op2 .iushr (.arg 0) (.int 3)) (.int 7)) (.int 0)), (.int (-30)), true), (false, (.op2 .lcmp (.op2 .frem (.op2 .iand (.op2 .iushr (.arg 0) (.int 3)) (.int 7)) (.int 0)) (.int 0)), (.int 1), false)] := Okk.leaf (by decide +kernel)
theorem nd484 : Okk (rn_1 1 4) [(false, (.op2 .lcmp (.op2 .frem (.op2 .iand (.op2 .iushr (.arg 0) (.int 3)) (.int 7)) (.int 0)) (.int 0)), (.int 1), false)] := Okk.tab (by decide +kernel) nd479 nd480 nd481 nd482 nd483
theorem nd485 : Okk (rn_1 1 4) [] := Okk.fork nd478 nd484
set_option maxRecDepth 1000000 in
theorem nd486 : Okk (rn_1 1 5) [(false, (.op2 .dcmpl (.op2 .iand (.arg 3) (.int 1)) (.int 0)), (.int 0), true), (false, (.op2 .lcmp (.op2 .frem (.op2 .iand (.op2 .iushr (.arg 0) (.int 12)) (.int 7)) (.int 0)) (.int 0)), (.int 1), true), (false, (.op2 .lcmp (.op2 .frem (.op2 .iand (.op2 .iushr (.arg 0) (.int 9)) (.int 7)) (.int 0)) (.int 0)), (.int 1), true), (false, (.op2 .lcmp (.op2 .frem (.op2 .iand (.op2 .iushr (.arg 0) (.int 6)) (.int 7)) (.int 0)) (.int 0)), (.int 1), true), (false, (.op2 .lcmp (.op2 .frem (.op2 .iand (.op2 .iushr (.arg 0) (.int 3)) (.int 7)) (.int 0)) (.int 0)), (.int 1), true)] := Okk.leaf (by decide +kernel)
set_option maxRecDepth 1000000 in
theorem nd487 : Okk (rn_1 1 5) [(false, (.op2 .dcmpl (.op2 .iand (.arg 3) (.int 1)) (.int 0)), (.int 0), false), (false, (.op2 .lcmp (.op2 .frem (.op2 .iand (.op2 .iushr (.arg 0) (.int 12)) (.int 7)) (.int 0)) (.int 0)), (.int 1), true), (false, (.op2 .lcmp (.op2 .frem (.op2 .iand (.op2 .iushr (.arg 0) (.int 9)) (.int 7)) (.int 0)) (.int 0)), (.int 1), true), (false, (.op2 .lcmp (.op2 .frem (.op2 .iand (.op2 .iushr (.arg 0) (.int 6)) (.int 7)) (.int 0)) (.int 0)), (.int 1), true), (false, (.op2 .lcmp (.op2 .frem (.op2 .iand (.op2 .iushr (.arg 0) (.int 3)) (.int 7)) (.int 0)) (.int 0)), (.int 1), true)] := Okk.leaf (by decide +kernel)
theorem nd488 : Okk (rn_1 1 5) [(false, (.op2 .lcmp (.op2 .frem (.op2 .iand (.op2 .iushr (.arg 0) (.int 12)) (.int 7)) (.int 0)) (.int 0)), (.int 1), true), (false, (.op2 .lcmp (.op2 .frem (.op2 .iand (.op2 .iushr (.arg 0) (.int 9)) (.int 7)) (.int 0)) (.int 0)), (.int 1), true), (false, (.op2 .lcmp (.op2 .frem (.op2 .iand (.op2 .iushr (.arg 0) (.int 6)) (.int 7)) (.int 0)) (.int 0)), (.int 1), true), (false, (.op2 .lcmp (.op2 .frem (.op2 .iand (.op2 .iushr (.arg 0) (.int 3)) (.int 7)) (.int 0)) (.int 0)), (.int 1), true)] := Okk.fork nd486 nd487
set_option maxRecDepth 1000000 in
theorem nd489 : Okk (rn_1 1 5) [(false, (.op2 .frem (.op2 .iand (.op2 .iushr (.arg 0) (.int 12)) (.int 7)) (.int 0)), (.int 10), true), (false, (.op2 .lcmp (.op2 .frem (.op2 .iand (.op2 .iushr (.arg 0) (.int 12)) (.int 7)) (.int 0)) (.int 0)), (.int 1), false), (false, (.op2 .lcmp (.op2 .frem (.op2 .iand (.op2 .iushr (.arg 0) (.int 9)) (.int 7)) (.int 0)) (.int 0)), (.int 1), true), (false, (.op2 .lcmp (.op2 .frem (.op2 .iand (.op2 .iushr (.arg 0) (.int 6)) (.int 7)) (.int 0)) (.int 0)), (.int 1), true), (false, (.op2 .lcmp (.op2 .frem (.op2 .iand (.op2 .iushr (.arg 0) (.int 3)) (.int 7)) (.int 0)) (.int 0)), (.int 1), true)] := Okk.leaf (by decide +kernel)
set_option maxRecDepth 1000000 in
theorem nd490 : Okk (rn_1 1 5) [(false, (.op2 .frem (.op2 .iand (.op2 .iushr (.arg 0) (.int 12)) (.int 7)) (.int 0)), (.int 123), true), (false, (.op2 .lcmp (.op2 .frem (.op2 .iand (.op2 .iushr (.arg 0) (.int 12)) (.int 7)) (.int 0)) (.int 0)), (.int 1), false), (false, (.op2 .lcmp (.op2 .frem (.op2 .iand (.op2 .iushr (.arg 0) (.int 9)) (.int 7)) (.int 0)) (.int 0)), (.int 1), true), (false, (.op2 .lcmp (.op2 .frem (.op2 .iand (.op2 .iushr (.arg 0) (.int 6)) (.int 7)) (.int 0)) (.int 0)), (.int 1), true), (false, (.op2 .lcmp (.op2 .frem (.op2 .iand (.op2 .iushr (.arg 0) (.int 3)) (.int 7)) (.int 0)) (.int 0)), (.int 1), true)] := Okk.leaf (by decide +kernel)
set_option maxRecDepth 1000000 in
theorem nd491 : Okk (rn_1 1 5) [(false, (.op2 .frem (.op2 .iand (.op2 .iushr (.arg 0) (.int 12)) (.int 7)) (.int 0)), (.int 125), true), (false, (.op2 .lcmp (.op2 .frem (.op2 .iand (.op2 .iushr (.arg 0) (.int 12)) (.int 7)) (.int 0)) (.int 0)), (.int 1), false), (false, (.op2 .lcmp (.op2 .frem (.op2 .iand (.op2 .iushr (.arg 0) (.int 9)) (.int 7)) (.int 0)) (.int 0)), (.int 1), true), (false, (.op2 .lcmp (.op2 .frem (.op2 .iand (.op2 .iushr (.arg 0) (.int 6)) (.int 7)) (.int 0)) (.int 0)), (.int 1), true), (false, (.op2 .lcmp (.op2 .frem (.op2 .iand (.op2 .iushr (.arg 0) (.int 3)) (.int 7)) (.int 0)) (.int 0)), (.int 1), true)] := Okk.leaf (by decide +kernel)
set_option maxRecDepth 1000000 in
theorem nd492 : Okk (rn_1 1 5) [(false, (.op2 .frem (.op2 .iand (.op2 .iushr (.arg 0) (.int 12)) (.int 7)) (.int 0)), (.int 11), true), (false, (.op2 .lcmp (.op2 .frem (.op2 .iand (.op2 .iushr (.arg 0) (.int 12)) (.int 7)) (.int 0)) (.int 0)), (.int 1), false), (false, (.op2 .lcmp (.op2 .frem (.op2 .iand (.op2 .iushr (.arg 0) (.int 9)) (.int 7)) (.int 0)) (.int 0)), (.int 1), true), (false, (.op2 .lcmp (.op2 .frem (.op2 .iand (.op2 .iushr (.arg 0) (.int 6)) (.int 7)) (.int 0)) (.int 0)), (.int 1), true), (false, (.op2 .lcmp (.op2 .frem (.op2 .iand (.op2 .iushr (.arg 0) (.int 3)) (.int 7)) (.int 0)) (.int 0)), (.int 1), true)] := Okk.leaf (by decide +kernel)
set_option maxRecDepth 1000000 in
theorem nd493 : Okk (rn_1 1 5) [(false, (.op2 .frem (.op2 .iand (.op2 .iushr (.arg 0) (.int 12)) (.int 7)) (.int 0)), (.int (-30)), true), (false, (.op2 .lcmp (.op2 .frem (.op2 .iand (.op2 .iushr (.arg 0) (.int 12)) (.int 7)) (.int 0)) (.int 0)), (.int 1), false), (false, (.op2 .lcmp (.op2 .frem (.op2 .iand (.op2 .iushr (.arg 0) (.int 9)) (.int 7)) (.int 0)) (.int 0)), (.int 1), true), (false, (.op2 .lcmp (.op2 .frem (.op2 .iand (.op2 .iushr (.arg 0) (.int 6)) (.int 7)) (.int 0)) (.int 0)), (.int 1), true), (false, (.op2 .lcmp (.op2 .frem (.op2 .iand (.op2 .iushr (.arg 0) (.int 3)) (.int 7)) (.int 0)) (.int 0)), (.int 1), true)] := Okk.leaf (by decide +kernel)
theorem nd494 : Okk (rn_1 1 5) [(false, (.op2 .lcmp (.op2 .frem (.op2 .iand (.op2 .iushr (.arg 0) (.int 12)) (.int 7)) (.int 0)) (.int 0)), (.int 1), false), (false, (.op2 .lcmp (.op2 .frem (.op2 .iand (.op2 .iushr (.arg 0) (.int 9)) (.int 7)) (.int 0)) (.int 0)), (.int 1), true), (false, (.op2 .lcmp (.op2 .frem (.op2 .iand (.op2 .iushr (.arg 0) (.int 6)) (.int 7)) (.int 0)) (.int 0)), (.int 1), true), (false, (.op2 .lcmp (.op2 .frem (.op2 .iand (.op2 .iushr (.arg 0) (.int 3)) (.int 7)) (.int 0)) (.int 0)), (.int 1), true)] := Okk.tab (by decide +kernel) nd489 nd490 nd491 nd492 nd493
theorem nd495 : Okk (rn_1 1 5) [(false, (.op2 .lcmp (.op2 .frem (.op2 .iand (.op2 .iushr (.arg 0) (.int 9)) (.int 7)) (.int 0)) (.int 0)), (.int 1), true), (false, (.op2 .lcmp (.op2 .frem (.op2 .iand (.op2 .iushr (.arg 0) (.int 6)) (.int 7)) (.int 0)) (.int 0)), (.int 1), true), (false, (.op2 .lcmp (.op2 .frem (.op2 .iand (.op2 .iushr (.arg 0) (.int 3)) (.int 7)) (.int 0)) (.int 0)), (.int 1), true)] := Okk.fork nd488 nd494
set_option maxRecDepth 1000000 in
theorem nd496 : Okk (rn_1 1 5) [(false, (.op2 .frem (.op2 .iand (.op2 .iushr (.arg 0) (.int 9)) (.int 7)) (.int 0)), (.int 10), true), (false, (.op2 .lcmp (.op2 .frem (.op2 .iand (.op2 .iushr (.arg 0) (.int 9)) (.int 7)) (.int 0)) (.int 0)), (.int 1), false), (false, (.op2 .lcmp (.op2 .frem (.op2 .iand (.op2 .iushr (.arg 0) (.int 6)) (.int 7)) (.int 0)) (.int 0)), (.int 1), true), (false, (.op2 .lcmp (.op2 .frem (.op2 .iand (.op2 .iushr (.arg 0) (.int 3)) (.int 7)) (.int 0)) (.int 0)), (.int 1), true)] := Okk.leaf (by decide +kernel)
set_option maxRecDepth 1000000 in
theorem nd497 : Okk (rn_1 1 5) [(false, (.op2 .frem (.op2 .iand (.op2 .iushr (.arg 0) (.int 9)) (.int 7)) (.int 0)), (.int 123), true), (false, (.op2 .lcmp (.op2 .frem (.op2 .iand (.op2 .iushr (.arg 0) (.int 9)) (.int 7)) (.int 0)) (.int 0)), (.int 1), false), (false, (.op2 .lcmp (.op2 .frem (.op2 .iand (.op2 .iushr (.arg 0) (.int 6)) (.int 7)) (.int 0)) (.int 0)), (.int 1), true), (false, (.op2 .lcmp (.op2 .frem (.op2 .iand (.op2 .iushr (.arg 0) (.int 3)) (.int 7)) (.int 0)) (.int 0)), (.int 1), true)] := Okk.leaf (by decide +kernel)
set_option maxRecDepth 1000000 in
theorem nd498 : Okk (rn_1 1 5) [(false, (.op2 .frem (.op2 .iand (.op2 .iushr (.arg 0) (.int 9)) (.int 7)) (.int 0)), (.int 125), true), (false, (.op2 .lcmp (.op2 .frem (.op2 .iand (.op2 .iushr (.arg 0) (.int 9)) (.int 7)) (.int 0)) (.int 0)), (.int 1), false), (false, (.op2 .lcmp (.op2 .frem (.op2 .iand (.op2 .iushr (.arg 0) (.int 6)) (.int 7)) (.int 0)) (.int 0)), (.int 1), true), (false, (.op2 .lcmp (.op2 .frem (.op2 .iand (.op2 .iushr (.arg 0) (.int 3)) (.int 7)) (.int 0)) (.int 0)), (.int 1), true)] := Okk.leaf (by decide +kernel)
set_option maxRecDepth 1000000 in
theorem nd499 : Okk (rn_1 1 5) [(false, (.op2 .frem (.op2 .iand (.op2 .iushr (.arg 0) (.int 9)) (.int 7)) (.int 0)), (.int 11), true), (false, (.op2 .lcmp (.op2 .frem (.op2 .iand (.op2 .iushr (.arg 0) (.int 9)) (.int 7)) (.int 0)) (.int 0)), (.int 1), false), (false, (.op2 .lcmp (.op2 .frem (.op2 .iand (.op2 .iushr (.arg 0) (.int 6)) (.int 7)) (.int 0)) (.int 0)), (.int 1), true), (false, (.op2 .lcmp (.op2 .frem (.op2 .iand (.op2 .iushr (.arg 0) (.int 3)) (.int 7)) (.int 0)) (.int 0)), (.int 1), true)] := Okk.leaf (by decide +kernel)
set_option maxRecDepth 1000000 in
theorem nd500 : Okk (rn_1 1 5) [(false, (.op2 .frem (.op2 .iand (.op2 .iushr (.arg 0) (.int 9)) (.int 7)) (.int 0)), (.int (-30)), true), (false, (.op2 .lcmp (.op2 .frem (.op2 .iand (.op2 .iushr (.arg 0) (.int 9)) (.int 7)) (.int 0)) (.int 0)), (.int 1), false), (false, (.op2 .lcmp (.op2 .frem (.op2 .iand (.op2 .iushr (.arg 0) (.int 6)) (.int 7)) (.int 0)) (.int 0)), (.int 1), true), (false, (.op2 .lcmp (.op2 .frem (.op2 .iand (.op2 .iushr (.arg 0) (.int 3)) (.int 7)) (.int 0)) (.int 0)), (.int 1), true)] := Okk.leaf (by decide +kernel)
theorem nd501 : Okk (rn_1 1 5) [(false, (.op2 .lcmp (.op2 .frem (.op2 .iand (.op2 .iushr (.arg 0) (.int 9)) (.int 7)) (.int 0)) (.int 0)), (.int 1), false), (false, (.op2 .lcmp (.op2 .frem (.op2 .iand (.op2 .iushr (.arg 0) (.int 6)) (.int 7)) (.int 0)) (.int 0)), (.int 1), true), (false, (.op2 .lcmp (.op2 .frem (.op2 .iand (.op2 .iushr (.arg 0) (.int 3)) (.int 7)) (.int 0)) (.int 0)), (.int 1), true)] := Okk.tab (by decide +kernel) nd496 nd497 nd498 nd499 nd500
theorem nd502 : Okk (rn_1 1 5) [(false, (.op2 .lcmp (.op2 .frem (.op2 .iand (.op2 .iushr (.arg 0) (.int 6)) (.int 7)) (.int 0)) (.int 0)), (.int 1), true), (false, (.op2 .lcmp (.op2 .frem (.op2 .iand (.op2 .iushr (.arg 0) (.int 3)) (.int 7)) (.int 0)) (.int 0)), (.int 1), true)] := Okk.fork nd495 nd501
set_option maxRecDepth 1000000 in
theorem nd503 : Okk (rn_1 1 5) [(false, (.op2 .frem (.op2 .iand (.op2 .iushr (.arg 0) (.int 6)) (.int 7)) (.int 0)), (.int 10), true), (false, (.op2 .lcmp (.op2 .frem (.op2 .iand (.op2 .iushr (.arg 0) (.int 6)) (.int 7)) (.int 0)) (.int 0)), (.int 1), false), (false, (.op2 .lcmp (.op2 .frem (.op2 .iand (.op2 .iushr (.arg 0) (.int 3)) (.int 7)) (.int 0)) (.int 0)), (.int 1), true)] := Okk.leaf (by decide +kernel)
set_option maxRecDepth 1000000 in
theorem nd504 : Okk (rn_1 1 5) [(false, (.op2 .frem (.op2 .iand (.op2 .iushr (.arg 0) (.int 6)) (.int 7)) (.int 0)), (.int 123), true), (false, (.op2 .lcmp (.op2 .frem (.op2 .iand (.op2 .iushr (.arg 0) (.int 6)) (.int 7)) (.int 0)) (.int 0)), (.int 1), false), (false, (.op2 .lcmp (.op2 .frem (.op2 .iand (.op2 .iushr (.arg 0) (.int 3)) (.int 7)) (.int 0)) (.int 0)), (.int 1), true)] := Okk.leaf (by decide +kernel)
set_option maxRecDepth 1000000 in
theorem nd505 : Okk (rn_1 1 5) [(false, (.op2 .frem (.op2 .iand (.op2 .iushr (.arg 0) (.int 6)) (.int 7)) (.int 0)), (.int 125), true), (false, (.op2 .lcmp (.op2 .frem (.op2 .iand (.op2 .iushr (.arg 0) (.int 6)) (.int 7)) (.int 0)) (.int 0)), (.int 1), false), (false, (.op2 .lcmp (.op2 .frem (.op2 .iand (.op2 .iushr (.arg 0) (.int 3)) (.int 7)) (.int 0)) (.int 0)), (.int 1), true)] := Okk.leaf (by decide +kernel)
set_option maxRecDepth 1000000 in
theorem nd506 : Okk (rn_1 1 5) [(false, (.op2 .frem (.op2 .iand (.op2 .iushr (.arg 0) (.int 6)) (.int 7)) (.int 0)), (.int 11), true), (false, (.op2 .lcmp (.op2 .frem (.op2 .iand (.op2 .iushr (.arg 0) (.int 6)) (.int 7)) (.int 0)) (.int 0)), (.int 1), false), (false, (.op2 .lcmp (.op2 .frem (.op2 .iand (.op2 .iushr (.arg 0) (.int 3)) (.int 7)) (.int 0)) (.int 0)), (.int 1), true)] := Okk.leaf (by decide +kernel)
set_option maxRecDepth 1000000 in
theorem nd507 : Okk (rn_1 1 5) [(false, (.op2 .frem (.op2 .iand (.op2 .iushr (.arg 0) (.int 6)) (.int 7)) (.int 0)), (.int (-30)), true), (false, (.op2 .lcmp (.op2 .frem (.op2 .iand (.op2 .iushr (.arg 0) (.int 6)) (.int 7)) (.int 0)) (.int 0)), (.int 1), false), (false, (.op2 .lcmp (.op2 .frem (.op2 .iand (.op2 .iushr (.arg 0) (.int 3)) (.int 7)) (.int 0)) (.int 0)), (.int 1), true)] := Okk.leaf (by decide +kernel)
theorem nd508 : Okk (rn_1 1 5) [(false, (.op2 .lcmp (.op2 .frem (.op2 .iand (.op2 .iushr (.arg 0) (.int 6)) (.int 7)) (.int 0)) (.int 0)), (.int 1), false), (false, (.op2 .lcmp (.op2 .frem (.op2 .iand (.op2 .iushr (.arg 0) (.int 3)) (.int 7)) (.int 0)) (.int 0)), (.int 1), true)] := Okk.tab (by decide +kernel) nd503 nd504 nd505 nd506 nd507
theorem nd509 : Okk (rn_1 1 5) [(false, (.op2 .lcmp (.op2 .frem (.op2 .iand (.op2 .iushr (.arg 0) (.int 3)) (.int 7)) (.int 0)) (.int 0)), (.int 1), true)] := Okk.fork nd502 nd508
set_option maxRecDepth 1000000 in
theorem nd510 : Okk (rn_1 1 5) [(false, (.op2 .frem (.op2 .iand (.op2 .iushr (.arg 0) (.int 3)) (.int 7)) (.int 0)), (.int 10), true), (false, (.op2 .lcmp (.op2 .frem (.op2 .iand (.op2 .iushr (.arg 0) (.int 3)) (.int 7)) (.int 0)) (.int 0)), (.int 1), false)] := Okk.leaf (by decide +kernel)
set_option maxRecDepth 1000000 in
theorem nd511 : Okk (rn_1 1 5) [(false, (.op2 .frem (.op2 .iand (.op2 .iushr (.arg 0) (.int 3)) (.int 7)) (.int 0)), (.int 123), true), (false, (.op2 .lcmp (.op2 .frem (.op2 .iand (.op2 .iushr (.arg 0) (.int 3)) (.int 7)) (.int 0)) (.int 0)), (.int 1), false)] := Okk.leaf (by decide +kernel)
set_option maxRecDepth 1000000 in
theorem nd512 : Okk (rn_1 1 5) [(false, (.op2 .frem (.op2 .iand (.op2 .iushr (.arg 0) (.int 3)) (.int 7)) (.int 0)), (.int 125), true), (false, (.op2 .lcmp (.op2 .frem (.op2 .iand (.op2 .iushr (.arg 0) (.int 3)) (.int 7)) (.int 0)) (.int 0)), (.int 1), false)] := Okk.leaf (by decide +kernel)
set_option maxRecDepth 1000000 in
theorem nd513 : Okk (rn_1 1 5) [(false, (.op2 .frem (.op2 .iand (.op2 .iushr (.arg 0) (.int 3)) (.int 7)) (.int 0)), (.int 11), true), (false, (.op2 .lcmp (.op2 .frem (.op2 .iand (.op2 .iushr (.arg 0) (.int 3)) (.int 7)) (.int 0)) (.int 0)), (.int 1), false)] := Okk.leaf (by decide +kernel)
set_option maxRecDepth 1000000 in
theorem nd514 : Okk (rn_1 1 5) [(false, (.op2 .frem (.op2 .iand (.op2 .iushr (.arg 0) (.int 3)) (.int 7)) (.int 0)), (.int (-30)), true), (false, (.op2 .lcmp (.op2 .frem (.op2 .iand (.op2 .iushr (.arg 0) (.int 3)) (.int 7)) (.int 0)) (.int 0)), (.int 1), false)] := Okk.leaf (by decide +kernel)
theorem nd515 : Okk (rn_1 1 5) [(false, (.op2 .lcmp (.op2 .frem (.op2 .iand (.op2 .iushr (.arg 0) (.int 3)) (.int 7)) (.int 0)) (.int 0)), (.int 1), false)] := Okk.tab (by decide +kernel) nd510 nd511 nd512 nd513 nd514
theorem nd516 : Okk (rn_1 1 5) [] := Okk.fork nd509 nd515
set_option maxRecDepth 1000000 in
theorem nd517 : Okk (rn_1 2 2) [(false, (.op2 .dcmpl (.op2 .iand (.arg 3) (.int 1)) (.int 0)), (.int 0), true)] := Okk.leaf (by decide +kernel)
set_option maxRecDepth 1000000 in
theorem nd518 : Okk (rn_1 2 2) [(false, (.op2 .dcmpl (.op2 .iand (.arg 3) (.int 1)) (.int 0)), (.int 0), false)] := Okk.leaf (by decide +kernel)
theorem nd519 : Okk (rn_1 2 2) [] := Okk.fork nd517 nd518
set_option maxRecDepth 1000000 in
theorem nd520 : Okk (rn_1 2 3) [(false, (.op2 .dcmpl (.op2 .iand (.arg 3) (.int 1)) (.int 0)), (.int 0), true), (false, (.op2 .lcmp (.op2 .frem (.op2 .iand (.op2 .iushr (.arg 0) (.int 6)) (.int 7)) (.int 0)) (.int 0)), (.int 1), true)] := Okk.leaf (by decide +kernel)
set_option maxRecDepth 1000000 in
theorem nd521 : Okk (rn_1 2 3) [(false, (.op2 .dcmpl (.op2 .iand (.arg 3) (.int 1)) (.int 0)), (.int 0), false), (false, (.op2 .lcmp (.op2 .frem (.op2 .iand (.op2 .iushr (.arg 0) (.int 6)) (.int 7)) (.int 0)) (.int 0)), (.int 1), true)] := Okk.leaf (by decide +kernel)
theorem nd522 : Okk (rn_1 2 3) [(false, (.op2 .lcmp (.op2 .frem (.op2 .iand (.op2 .iushr (.arg 0) (.int 6)) (.int 7)) (.int 0)) (.int 0)), (.int 1), true)] := Okk.fork nd520 nd521
set_option maxRecDepth 1000000 in
theorem nd523 : Okk (rn_1 2 3) [(false, (.op2 .frem (.op2 .iand (.op2 .iushr (.arg 0) (.int 6)) (.int 7)) (.int 0)), (.int 10), true), (false, (.op2 .lcmp (.op2 .frem (.op2 .iand (.op2 .iushr (.arg 0) (.int 6)) (.int 7)) (.int 0)) (.int 0)), (.int 1), false)] := Okk.leaf (by decide +kernel)
set_option maxRecDepth 1000000 in
theorem nd524 : Okk (rn_1 2 3) [(false, (.op2 .frem (.op2 .iand (.op2 .iushr (.arg 0) (.int 6)) (.int 7)) (.int 0)), (.int 123), true), (false, (.op2 .lcmp (.op2 .frem (.op2 .iand (.op2 .iushr (.arg 0) (.int 6)) (.int 7)) (.int 0)) (.int 0)), (.int 1), false)] := Okk.leaf (by decide +kernel)
set_option maxRecDepth 1000000 in
theorem nd525 : Okk (rn_1 2 3) [(false, (.op2 .frem (.op2 .iand (.op2 .iushr (.arg 0) (.int 6)) (.int 7)) (.int 0)), (.int 125), true), (false, (.op2 .lcmp (.op2 .frem (.op2 .iand (.op2 .iushr (.arg 0) (.int 6)) (.int 7)) (.int 0)) (.int 0)), (.int 1), false)] := Okk.leaf (by decide +kernel)
set_option maxRecDepth 1000000 in
theorem nd526 : Okk (rn_1 2 3) [(false, (.op2 .frem (.op2 .iand (.op2 .iushr (.arg 0) (.int 6)) (.int 7)) (.int 0)), (.int 11), true), (false, (.op2 .lcmp (.op2 .frem (.op2 .iand (.op2 .iushr (.arg 0) (.int 6)) (.int 7)) (.int 0)) (.int 0)), (.int 1), false)] := Okk.leaf (by decide +kernel)
set_option maxRecDepth 1000000 in
theorem nd527 : Okk (rn_1 2 3) [(false, (.op2 .frem (.op2 .iand (.op2 .iushr (.arg 0) (.int 6)) (.int 7)) (.int 0)), (.int (-30)), true), (false, (.op2 .lcmp (.op2 .frem (.op2 .iand (.op2 .iushr (.arg 0) (.int 6)) (.int 7)) (.int 0)) (.int 0)), (.int 1), false)] := Okk.leaf (by decide +kernel)
theorem nd528 : Okk (rn_1 2 3) [(false, (.op2 .lcmp (.op2 .frem (.op2 .iand (.op2 .iushr (.arg 0) (.int 6)) (.int 7)) (.int 0)) (.int 0)), (.int 1), false)] := Okk.tab (by decide +kernel) nd523 nd524 nd525 nd526 nd527
theorem nd529 : Okk (rn_1 2 3) [] := Okk.fork nd522 nd528
set_option maxRecDepth 1000000 in
theorem nd530 : Okk (rn_1 2 4) [(false, (.op2 .dcmpl (.op2 .iand (.arg 3) (.int 1)) (.int 0)), (.int 0), true), (false, (.op2 .lcmp (.op2 .frem (.op2 .iand (.op2 .iushr (.arg 0) (.int 9)) (.int 7)) (.int 0)) (.int 0)), (.int 1), true), (false, (.op2 .lcmp (.op2 .frem (.op2 .iand (.op2 .iushr (.arg 0) (.int 6)) (.int 7)) (.int 0)) (.int 0)), (.int 1), true)] := Okk.leaf (by decide +kernel)
set_option maxRecDepth 1000000 in
theorem nd531 : Okk (rn_1 2 4) [(false, (.op2 .dcmpl (.op2 .iand (.arg 3) (.int 1)) (.int 0)), (.int 0), false), (false, (.op2 .lcmp (.op2 .frem (.op2 .iand (.op2 .iushr (.arg 0) (.int 9)) (.int 7)) (.int 0)) (.int 0)), (.int 1), true), (false, (.op2 .lcmp (.op2 .frem (.op2 .iand (.op2 .iushr (.arg 0) (.int 6)) (.int 7)) (.int 0)) (.int 0)), (.int 1), true)] := Okk.leaf (by decide +kernel)
theorem nd532 : Okk (rn_1 2 4) [(false, (.op2 .lcmp (.op2 .frem (.op2 .iand (.op2 .iushr (.arg 0) (.int 9)) (.int 7)) (.int 0)) (.int 0)), (.int 1), true), (false, (.op2 .lcmp (.op2 .frem (.op2 .iand (.op2 .iushr (.arg 0) (.int 6)) (.int 7)) (.int 0)) (.int 0)), (.int 1), true)] := Okk.fork nd530 nd531
set_option maxRecDepth 1000000 in
theorem nd533 : Okk (rn_1 2 4) [(false, (.op2 .frem (.op2 .iand (.op2 .iushr (.arg 0) (.int 9)) (.int 7)) (.int 0)), (.int 10), true), (false, (.op2 .lcmp (.op2 .frem (.op2 .iand (.op2 .iushr (.arg 0) (.int 9)) (.int 7)) (.int 0)) (.int 0)), (.int 1), false), (false, (.op2 .lcmp (.op2 .frem (.op2 .iand (.op2 .iushr (.arg 0) (.int 6)) (.int 7)) (.int 0)) (.int 0)), (.int 1), true)] := Okk.leaf (by decide +kernel)
set_option maxRecDepth 1000000 in
theorem nd534 : Okk (rn_1 2 4) [(false, (.op2 .frem (.op2 .iand (.op2 .iushr (.arg 0) (.int 9)) (.int 7)) (.int 0)), (.int 123), true), (false, (.op2 .lcmp (.op2 .frem (.op2 .iand (.op2 .iushr (.arg 0) (.int 9)) (.int 7)) (.int 0)) (.int 0)), (.int 1), false), (false, (.op2 .lcmp (.op2 .frem (.op2 .iand (.op2 .iushr (.arg 0) (.int 6)) (.int 7)) (.int 0)) (.int 0)), (.int 1), true)] := Okk.leaf (by decide +kernel)
set_option maxRecDepth 1000000 in
theorem nd535 : Okk (rn_1 2 4) [(false, (.op2 .frem (.op2 .iand (.op2 .iushr (.arg 0) (.int 9)) (.int 7)) (.int 0)), (.int 125), true), (false, (.op2 .lcmp (.op2 .frem (.op2 .iand (.op2 .iushr (.arg 0) (.int 9)) (.int 7)) (.int 0)) (.int 0)), (.int 1), false), (false, (.op2 .lcmp (.op2 .frem (.op2 .iand (.op2 .iushr (.arg 0) (.int 6)) (.int 7)) (.int 0)) (.int 0)), (.int 1), true)] := Okk.leaf (by decide +kernel)
set_option maxRecDepth 1000000 in
theorem nd536 : Okk (rn_1 2 4) [(false, (.op2 .frem (.op2 .iand (.op2 .iushr (.arg 0) (.int 9)) (.int 7)) (.int 0)), (.int 11), true), (false, (.op2 .lcmp (.op2 .frem (.op2 .iand (.op2 .iushr (.arg 0) (.int 9)) (.int 7)) (.int 0)) (.int 0)), (.int 1), false), (false, (.op2 .lcmp (.op2 .frem (.op2 .iand (.op2 .iushr (.arg 0) (.int 6)) (.int 7)) (.int 0)) (.int 0)), (.int 1), true)] := Okk.leaf (by decide +kernel)
set_option maxRecDepth 1000000 in
theorem nd537 : Okk (rn_1 2 4) [(false, (.op2 .frem (.op2 .iand (.op2 .iushr (.arg 0) (.int 9)) (.int 7)) (.int 0)), (.int (-30)), true), (false, (.op2 .lcmp (.op2 .frem (.op2 .iand (.op2 .iushr (.arg 0) (.int 9)) (.int 7)) (.int 0)) (.int 0)), (.int 1), false), (false, (.op2 .lcmp (.op2 .frem (.op2 .iand (.op2 .iushr (.arg 0) (.int 6)) (.int 7)) (.int 0)) (.int 0)), (.int 1), true)] := Okk.leaf (by decide +kernel)
theorem nd538 : Okk (rn_1 2 4) [(false, (.op2 .lcmp (.op2 .frem (.op2 .iand (.op2 .iushr (.arg 0) (.int 9)) (.int 7)) (.int 0)) (.int 0)), (.int 1), false), (false, (.op2 .lcmp (.op2 .frem (.op2 .iand (.op2 .iushr (.arg 0) (.int 6)) (.int 7)) (.int 0)) (.int 0)), (.int 1), true)] := Okk.tab (by decide +kernel) nd533 nd534 nd535 nd536 nd537
theorem nd539 : Okk (rn_1 2 4) [(false, (.op2 .lcmp (.op2 .frem (.op2 .iand (.op2 .iushr (.arg 0) (.int 6)) (.int 7)) (.int 0)) (.int 0)), (.int 1), true)] := Okk.fork nd532 nd538
set_option maxRecDepth 1000000 in
theorem nd540 : Okk (rn_1 2 4) [(false, (.op2 .frem (.op2 .iand (.op2 .iushr (.arg 0) (.int 6)) (.int 7)) (.int 0)), (.int 10), true), (false, (.op2 .lcmp (.op2 .frem (.op2 .iand (.op2 .iushr (.arg 0) (.int 6)) (.int 7)) (.int 0)) (.int 0)), (.int 1), false)] := Okk.leaf (by decide +kernel)
set_option maxRecDepth 1000000 in
theorem nd541 : Okk (rn_1 2 4) [(false, (.op2 .frem (.op2 .iand (.op2 .iushr (.arg 0) (.int 6)) (.int 7)) (.int 0)), (.int 123), true), (false, (.op2 .lcmp (.op2 .frem (.op2 .iand (.op2 .iushr (.arg 0) (.int 6)) (.int 7)) (.int 0)) (.int 0)), (.int 1), false)] := Okk.leaf (by decide +kernel)
set_option maxRecDepth 1000000 in
theorem nd542 : Okk (rn_1 2 4) [(false, (.op2 .frem (.op2 .iand (.op2 .iushr (.arg 0) (.int 6)) (.int 7)) (.int 0)), (.int 125), true), (false, (.op2 .lcmp (.op2 .frem (.op2 .iand (.op2 .iushr (.arg 0) (.int 6)) (.int 7)) (.int 0)) (.int 0)), (.int 1), false)] := Okk.leaf (by decide +kernel)
set_option maxRecDepth 1000000 in
theorem nd543 : Okk (rn_1 2 4) [(false, (.op2 .frem (.op2 .iand (.op2 .iushr (.arg 0) (.int 6)) (.int 7)) (.int 0)), (.int 11), true), (false, (.op2 .lcmp (.op2 .frem (.op2 .iand (.op2 .iushr (.arg 0) (.int 6)) (.int 7)) (.int 0)) (.int 0)), (.int 1), false)] := Okk.leaf (by decide +kernel)
set_option maxRecDepth 1000000 in
theorem nd544 : Okk (rn_1 2 4) [(false, (.op2 .frem (.op2 .iand (.op2 .iushr (.arg 0) (.int 6)) (.int 7)) (.int 0)), (.int (-30)), true), (false, (.op2 .lcmp (.op2 .frem (.op2 .iand (.op2 .iushr (.arg 0) (.int 6)) (.int 7)) (.int 0)) (.int 0)), (.int 1), false)] := Okk.leaf (by decide +kernel)
theorem nd545 : Okk (rn_1 2 4) [(false, (.op2 .lcmp (.op2 .frem (.op2 .iand (.op2 .iushr (.arg 0) (.int 6)) (.int 7)) (.int 0)) (.int 0)), (.int 1), false)] := Okk.tab (by decide +kernel) nd540 nd541 nd542 nd543 nd544
theorem nd546 : Okk (rn_1 2 4) [] := Okk.fork nd539 nd545
set_option maxRecDepth 1000000 in
theorem nd547 : Okk (rn_1 2 5) [(false, (.op2 .dcmpl (.op2 .iand (.arg 3) (.int 1)) (.int 0)), (.int 0), true), (false, (.op2 .lcmp (.op2 .frem (.op2 .iand (.op2 .iushr (.arg 0) (.int 12)) (.int 7)) (.int 0)) (.int 0)), (.int 1), true), (false, (.op2 .lcmp (.op2 .frem (.op2 .iand (.op2 .iushr (.arg 0) (.int 9)) (.int 7)) (.int 0)) (.int 0)), (.int 1), true), (false, (.op2 .lcmp (.op2 .frem (.op2 .iand (.op2 .iushr (.arg 0) (.int 6)) (.int 7)) (.int 0)) (.int 0)), (.int 1), true)] := Okk.leaf (by decide +kernel)
set_option maxRecDepth 1000000 in
theorem nd548 : Okk (rn_1 2 5) [(false, (.op2 .dcmpl (.op2 .iand (.arg 3) (.int 1)) (.int 0)), (.int 0), false), (false, (.op2 .lcmp (.op2 .frem (.op2 .iand (.op2 .iushr (.arg 0) (.int 12)) (.int 7)) (.int 0)) (.int 0)), (.int 1), true), (false, (.op2 .lcmp (.op2 .frem (.op2 .iand (.op2 .iushr (.arg 0) (.int 9)) (.int 7)) (.int 0)) (.int 0)), (.int 1), true), (false, (.op2 .lcmp (.op2 .frem (.op2 .iand (.op2 .iushr (.arg 0) (.int 6)) (.int 7)) (.int 0)) (.int 0)), (.int 1), true)] := Okk.leaf (by decide +kernel)
theorem nd549 : Okk (rn_1 2 5) [(false, (.op2 .lcmp (.op2 .frem (.op2 .iand (.op2 .iushr (.arg 0) (.int 12)) (.int 7)) (.int 0)) (.int 0)), (.int 1), true), (false, (.op2 .lcmp (.op2 .frem (.op2 .iand (.op2 .iushr (.arg 0) (.int 9)) (.int 7)) (.int 0)) (.int 0)), (.int 1), true), (false, (.op2 .lcmp (.op2 .frem (.op2 .iand (.op2 .iushr (.arg 0) (.int 6)) (.int 7)) (.int 0)) (.int 0)), (.int 1), true)] := Okk.fork nd547 nd548
set_option maxRecDepth 1000000 in
theorem nd550 : Okk (rn_1 2 5) [(false, (.op2 .frem (.op2 .iand (.op2 .iushr (.arg 0) (.int 12)) (.int 7)) (.int 0)), (.int 10), true), (false, (.op2 .lcmp (.op2 .frem (.op2 .iand (.op2 .iushr (.arg 0) (.int 12)) (.int 7)) (.int 0)) (.int 0)), (.int 1), false), (false, (.op2 .lcmp (.op2 .frem (.op2 .iand (.op2 .iushr (.arg 0) (.int 9)) (.int 7)) (.int 0)) (.int 0)), (.int 1), true), (false, (.op2 .lcmp (.op2 .frem (.op2 .iand (.op2 .iushr (.arg 0) (.int 6)) (.int 7)) (.int 0)) (.int 0)), (.int 1), true)] := Okk.leaf (by decide +kernel)
set_option maxRecDepth 1000000 in
theorem nd551 : Okk (rn_1 2 5) [(false, (.op2 .frem (.op2 .iand (.op2 .iushr (.arg 0) (.int 12)) (.int 7)) (.int 0)), (.int 123), true), (false, (.op2 .lcmp (.op2 .frem (.op2 .iand (.op2 .iushr (.arg 0) (.int 12)) (.int 7)) (.int 0)) (.int 0)), (.int 1), false), (false, (.op2 .lcmp (.op2 .frem (.op2 .iand (.op2 .iushr (.arg 0) (.int 9)) (.int 7)) (.int 0)) (.int 0)), (.int 1), true), (false, (.op2 .lcmp (.op2 .frem (.op2 .iand (.op2 .iushr (.arg 0) (.int 6)) (.int 7)) (.int 0)) (.int 0)), (.int 1), true)] := Okk.leaf (by decide +kernel)
set_option maxRecDepth 1000000 in
theorem nd552 : Okk (rn_1 2 5) [(false, (.op2 .frem (.op2 .iand (.op2 .iushr (.arg 0) (.int 12)) (.int 7)) (.int 0)), (.int 125), true), (false, (.op2 .lcmp (.op2 .frem (.op2 .iand (.op2 .iushr (.arg 0) (.int 12)) (.int 7)) (.int 0)) (.int 0)), (.int 1), false), (false, (.op2 .lcmp (.op2 .frem (.op2 .iand (.op2 .iushr (.arg 0) (.int 9)) (.int 7)) (.int 0)) (.int 0)), (.int 1), true), (false, (.op2 .lcmp (.op2 .frem (.op2 .iand (.op2 .iushr (.arg 0) (.int 6)) (.int 7)) (.int 0)) (.int 0)), (.int 1), true)] := Okk.leaf (by decide +kernel)
set_option maxRecDepth 1000000 in
theorem nd553 : Okk (rn_1 2 5) [(false, (.op2 .frem (.op2 .iand (.op2 .iushr (.arg 0) (.int 12)) (.int 7)) (.int 0)), (.int 11), true), (false, (.op2 .lcmp (.op2 .frem (.op2 .iand (.op2 .iushr (.arg 0) (.int 12)) (.int 7)) (.int 0)) (.int 0)), (.int 1), false), (false, (.op2 .lcmp (.op2 .frem (.op2 .iand (.op2 .iushr (.arg 0) (.int 9)) (.int 7)) (.int 0)) (.int 0)), (.int 1), true), (false, (.op2 .lcmp (.op2 .frem (.op2 .iand (.op2 .iushr (.arg 0) (.int 6)) (.int 7)) (.int 0)) (.int 0)), (.int 1), true)] := Okk.leaf (by decide +kernel)
set_option maxRecDepth 1000000 in
theorem nd554 : Okk (rn_1 2 5) [(false, (.op2 .frem (.op2 .iand (.op2 .iushr (.arg 0) (.int 12)) (.int 7)) (.int 0)), (.int (-30)), true), (false, (.op2 .lcmp (.op2 .frem (.op2 .iand (.op2 .iushr (.arg 0) (.int 12)) (.int 7)) (.int 0)) (.int 0)), (.int 1), false), (false, (.op2 .lcmp (.op2 .frem (.op2 .iand (.op2 .iushr (.arg 0) (.int 9)) (.int 7)) (.int 0)) (.int 0)), (.int 1), true), (false, (.op2 .lcmp (.op2 .frem (.op2 .iand (.op2 .iushr (.arg 0) (.int 6)) (.int 7)) (.int 0)) (.int 0)), (.int 1), true)] := Okk.leaf (by decide +kernel)
theorem nd555 : Okk (rn_1 2 5) [(false, (.op2 .lcmp (.op2 .frem (.op2 .iand (.op2 .iushr (.arg 0) (.int 12)) (.int 7)) (.int 0)) (.int 0)), (.int 1), false), (false, (.op2 .lcmp (.op2 .frem (.op2 .iand (.op2 .iushr (.arg 0) (.int 9)) (.int 7)) (.int 0)) (.int 0)), (.int 1), true), (false, (.op2 .lcmp (.op2 .frem (.op2 .iand (.op2 .iushr (.arg 0) (.int 6)) (.int 7)) (.int 0)) (.int 0)), (.int 1), true)] := Okk.tab (by decide +kernel) nd550 nd551 nd552 nd553 nd554
theorem nd556 : Okk (rn_1 2 5) [(false, (.op2 .lcmp (.op2 .frem (.op2 .iand (.op2 .iushr (.arg 0) (.int 9)) (.int 7)) (.int 0)) (.int 0)), (.int 1), true), (false, (.op2 .lcmp (.op2 .frem (.op2 .iand (.op2 .iushr (.arg 0) (.int 6)) (.int 7)) (.int 0)) (.int 0)), (.int 1), true)] := Okk.fork nd549 nd555
set_option maxRecDepth 1000000 in
theorem nd557 : Okk (rn_1 2 5) [(false, (.op2 .frem (.op2 .iand (.op2 .iushr (.arg 0) (.int 9)) (.int 7)) (.int 0)), (.int 10), true), (false, (.op2 .lcmp (.op2 .frem (.op2 .iand (.op2 .iushr (.arg 0) (.int 9)) (.int 7)) (.int 0)) (.int 0)), (.int 1), false), (false, (.op2 .lcmp (.op2 .frem (.op2 .iand (.op2 .iushr (.arg 0) (.int 6)) (.int 7)) (.int 0)) (.int 0)), (.int 1), true)] := Okk.leaf (by decide +kernel)
set_option maxRecDepth 1000000 in
theorem nd558 : Okk (rn_1 2 5) [(false, (.op2 .frem (.op2 .iand (.op2 .iushr (.arg 0) (.int 9)) (.int 7)) (.int 0)), (.int 123), true), (false, (.op2 .lcmp (.op2 .frem (.op2 .iand (.op2 .iushr (.arg 0) (.int 9)) (.int 7)) (.int 0)) (.int 0)), (.int 1), false), (false, (.op2 .lcmp (.op2 .frem (.op2 .iand (.op2 .iushr (.arg 0) (.int 6)) (.int 7)) (.int 0)) (.int 0)), (.int 1), true)] := Okk.leaf (by decide +kernel)
set_option maxRecDepth 1000000 in
theorem nd559 : Okk (rn_1 2 5) [(false, (.op2 .frem (.op2 .iand (.op2 .iushr (.arg 0) (.int 9)) (.int 7)) (.int 0)), (.int 125), true), (false, (.op2 .lcmp (.op2 .frem (.op2 .iand (.op2 .iushr (.arg 0) (.int 9)) (.int 7)) (.int 0)) (.int 0)), (.int 1), false), (false, (.op2 .lcmp (.op2 .frem (.op2 .iand (.op2 .iushr (.arg 0) (.int 6)) (.int 7)) (.int 0)) (.int 0)), (.int 1), true)] := Okk.leaf (by decide +kernel)
set_option maxRecDepth 1000000 in
theorem nd560 : Okk (rn_1 2 5) [(false, (.op2 .frem (.op2 .iand (.op2 .iushr (.arg 0) (.int 9)) (.int 7)) (.int 0)), (.int 11), true), (false, (.op2 .lcmp (.op2 .frem (.op2 .iand (.op2 .iushr (.arg 0) (.int 9)) (.int 7)) (.int 0)) (.int 0)), (.int 1), false), (false, (.op2 .lcmp (.op2 .frem (.op2 .iand (.op2 .iushr (.arg 0) (.int 6)) (.int 7)) (.int 0)) (.int 0)), (.int 1), true)] := Okk.leaf (by decide +kernel)
set_option maxRecDepth 1000000 in
theorem nd561 : Okk (rn_1 2 5) [(false, (.op2 .frem (.op2 .iand (.op2 .iushr (.arg 0) (.int 9)) (.int 7)) (.int 0)), (.int (-30)), true), (false, (.op2 .lcmp (.op2 .frem (.op2 .iand (.op2 .iushr (.arg 0) (.int 9)) (.int 7)) (.int 0)) (.int 0)), (.int 1), false), (false, (.op2 .lcmp (.op2 .frem (.op2 .iand (.op2 .iushr (.arg 0) (.int 6)) (.int 7)) (.int 0)) (.int 0)), (.int 1), true)] := Okk.leaf (by decide +kernel)
theorem nd562 : Okk (rn_1 2 5) [(false, (.op2 .lcmp (.op2 .frem (.op2 .iand (.op2 .iushr (.arg 0) (.int 9)) (.int 7)) (.int 0)) (.int 0)), (.int 1), false), (false, (.op2 .lcmp (.op2 .frem (.op2 .iand (.op2 .iushr (.arg 0) (.int 6)) (.int 7)) (.int 0)) (.int 0)), (.int 1), true)] := Okk.tab (by decide +kernel) nd557 nd558 nd559 nd560 nd561
theorem nd563 : Okk (rn_1 2 5) [(false, (.op2 .lcmp (.op2 .frem (.op2 .iand (.op2 .iushr (.arg 0) (.int 6)) (.int 7)) (.int 0)) (.int 0)), (.int 1), true)] := Okk.fork nd556 nd562
set_option maxRecDepth 1000000 in
theorem nd564 : Okk (rn_1 2 5) [(false, (.op2 .frem (.op2 .iand (.op2 .iushr (.arg 0) (.int 6)) (.int 7)) (.int 0)), (.int 10), true), (false, (.op2 .lcmp (.op2 .frem (.op2 .iand (.op2 .iushr (.arg 0) (.int 6)) (.int 7)) (.int 0)) (.int 0)), (.int 1), false)] := Okk.leaf (by decide +kernel)
set_option maxRecDepth 1000000 in
theorem nd565 : Okk (rn_1 2 5) [(false, (.op2 .frem (.op2 .iand (.op2 .iushr (.arg 0) (.int 6)) (.int 7)) (.int 0)), (.int 123), true), (false, (.op2 .lcmp (.op2 .frem (.op2 .iand (.op2 .iushr (.arg 0) (.int 6)) (.int 7)) (.int 0)) (.int 0)), (.int 1), false)] := Okk.leaf (by decide +kernel)
set_option maxRecDepth 1000000 in
theorem nd566 : Okk (rn_1 2 5) [(false, (.op2 .frem (.op2 .iand (.op2 .iushr (.arg 0) (.int 6)) (.int 7)) (.int 0)), (.int 125), true), (false, (.op2 .lcmp (.op2 .frem (.op2 .iand (.op2 .iushr (.arg 0) (.int 6)) (.int 7)) (.int 0)) (.int 0)), (.int 1), false)] := Okk.leaf (by decide +kernel)
set_option maxRecDepth 1000000 in
theorem nd567 : Okk (rn_1 2 5) [(false, (.op2 .frem (.op2 .iand (.op2 .iushr (.arg 0) (.int 6)) (.int 7)) (.int 0)), (.int 11), true), (false, (.op2 .lcmp (.op2 .frem (.op2 .iand (.op2 .iushr (.arg 0) (.int 6)) (.int 7)) (.int 0)) (.int 0)), (.int 1), false)] := Okk.leaf (by decide +kernel)
set_option maxRecDepth 1000000 in
theorem nd568 : Okk (rn_1 2 5) [(false, (.op2 .frem (.op2 .iand (.op2 .iushr (.arg 0) (.int 6)) (.int 7)) (.int 0)), (.int (-30)), true), (false, (.op2 .lcmp (.op2 .frem (.op2 .iand (.op2 .iushr (.arg 0) (.int 6)) (.int 7)) (.int 0)) (.int 0)), (.int 1), false)] := Okk.leaf (by decide +kernel)
theorem nd569 : Okk (rn_1 2 5) [(false, (.op2 .lcmp (.op2 .frem (.op2 .iand (.op2 .iushr (.arg 0) (.int 6)) (.int 7)) (.int 0)) (.int 0)), (.int 1), false)] := Okk.tab (by decide +kernel) nd564 nd565 nd566 nd567 nd568
theorem nd570 : Okk (rn_1 2 5) [] := Okk.fork nd563 nd569
set_option maxRecDepth 1000000 in
theorem nd571 : Okk (rn_1 3 3) [(false, (.op2 .dcmpl (.op2 .iand (.arg 3) (.int 1)) (.int 0)), (.int 0), true)] := Okk.leaf (by decide +kernel)
set_option maxRecDepth 1000000 in
theorem nd572 : Okk (rn_1 3 3) [(false, (.op2 .dcmpl (.op2 .iand (.arg 3) (.int 1)) (.int 0)), (.int 0), false)] := Okk.leaf (by decide +kernel)
theorem nd573 : Okk (rn_1 3 3) [] := Okk.fork nd571 nd572
set_option maxRecDepth 1000000 in
theorem nd574 : Okk (rn_1 3 4) [(false, (.op2 .dcmpl (.op2 .iand (.arg 3) (.int 1)) (.int 0)), (.int 0), true), (false, (.op2 .lcmp (.op2 .frem (.op2 .iand (.op2 .iushr (.arg 0) (.int 9)) (.int 7)) (.int 0)) (.int 0)), (.int 1), true)] := Okk.leaf (by decide +kernel)
set_option maxRecDepth 1000000 in
theorem nd575 : Okk (rn_1 3 4) [(false, (.op2 .dcmpl (.op2 .iand (.arg 3) (.int 1)) (.int 0)), (.int 0), false), (false, (.op2 .lcmp (.op2 .frem (.op2 .iand (.op2 .iushr (.arg 0) (.int 9)) (.int 7)) (.int 0)) (.int 0)), (.int 1), true)] := Okk.leaf (by decide +kernel)
theorem nd576 : Okk (rn_1 3 4) [(false, (.op2 .lcmp (.op2 .frem (.op2 .iand (.op2 .iushr (.arg 0) (.int 9)) (.int 7)) (.int 0)) (.int 0)), (.int 1), true)] := Okk.fork nd574 nd575
set_option maxRecDepth 1000000 in
theorem nd577 : Okk (rn_1 3 4) [(false, (.op2 .frem (.op2 .iand (.op2 .iushr (.arg 0) (.int 9)) (.int 7)) (.int 0)), (.int 10), true), (false, (.op2 .lcmp (.op2 .frem (.op2 .iand (.op2 .iushr (.arg 0) (.int 9)) (.int 7)) (.int 0)) (.int 0)), (.int 1), false)] := Okk.leaf (by decide +kernel)
set_option maxRecDepth 1000000 in
theorem nd578 : Okk (rn_1 3 4) [(false, (.op2 .frem (.op2 .iand (.op2 .iushr (.arg 0) (.int 9)) (.int 7)) (.int 0)), (.int 123), true), (false, (.op2 .lcmp (.op2 .frem (.op2 .iand (.op2 .iushr (.arg 0) (.int 9)) (.int 7)) (.int 0)) (.int 0)), (.int 1), false)] := Okk.leaf (by decide +kernel)
set_option maxRecDepth 1000000 in
theorem nd579 : Okk (rn_1 3 4) [(false, (.op2 .frem (.op2 .iand (.op2 .iushr (.arg 0) (.int 9)) (.int 7)) (.int 0)), (.int 125), true), (false, (.op2 .lcmp (.op2 .frem (.op2 .iand (.op2 .iushr (.arg 0) (.int 9)) (.int 7)) (.int 0)) (.int 0)), (.int 1), false)] := Okk.leaf (by decide +kernel)
set_option maxRecDepth 1000000 in
theorem nd580 : Okk (rn_1 3 4) [(false, (.op2 .frem (.op2 .iand (.op2 .iushr (.arg 0) (.int 9)) (.int 7)) (.int 0)), (.int 11), true), (false, (.op2 .lcmp (.op2 .frem (.op2 .iand (.op2 .iushr (.arg 0) (.int 9)) (.int 7)) (.int 0)) (.int 0)), (.int 1), false)] := Okk.leaf (by decide +kernel)
set_option maxRecDepth 1000000 in
theorem nd581 : Okk (rn_1 3 4) [(false, (.op2 .frem (.op2 .iand (.op2 .iushr (.arg 0) (.int 9)) (.int 7)) (.int 0)), (.int (-30)), true), (false, (.op2 .lcmp (.op2 .frem (.op2 .iand (.op2 .iushr (.arg 0) (.int 9)) (.int 7)) (.int 0)) (.int 0)), (.int 1), false)] := Okk.leaf (by decide +kernel)
theorem nd582 : Okk (rn_1 3 4) [(false, (.op2 .lcmp (.op2 .frem (.op2 .iand (.op2 .iushr (.arg 0) (.int 9)) (.int 7)) (.int 0)) (.int 0)), (.int 1), false)] := Okk.tab (by decide +kernel) nd577 nd578 nd579 nd580 nd581
theorem nd583 : Okk (rn_1 3 4) [] := Okk.fork nd576 nd582
set_option maxRecDepth 1000000 in
theorem nd584 : Okk (rn_1 3 5) [(false, (.op2 .dcmpl (.op2 .iand (.arg 3) (.int 1)) (.int 0)), (.int 0), true), (false, (.op2 .lcmp (.op2 .frem (.op2 .iand (.op2 .iushr (.arg 0) (.int 12)) (.int 7)) (.int 0)) (.int 0)), (.int 1), true), (false, (.op2 .lcmp (.op2 .frem (.op2 .iand (.op2 .iushr (.arg 0) (.int 9)) (.int 7)) (.int 0)) (.int 0)), (.int 1), true)] := Okk.leaf (by decide +kernel)
set_option maxRecDepth 1000000 in
theorem nd585 : Okk (rn_1 3 5) [(false, (.op2 .dcmpl (.op2 .iand (.arg 3) (.int 1)) (.int 0)), (.int 0), false), (false, (.op2 .lcmp (.op2 .frem (.op2 .iand (.op2 .iushr (.arg 0) (.int 12)) (.int 7)) (.int 0)) (.int 0)), (.int 1), true), (false, (.op2 .lcmp (.op2 .frem (.op2 .iand (.op2 .iushr (.arg 0) (.int 9)) (.int 7)) (.int 0)) (.int 0)), (.int 1), true)] := Okk.leaf (by decide +kernel)
theorem nd586 : Okk (rn_1 3 5) [(false, (.op2 .lcmp (.op2 .frem (.op2 .iand (.op2 .iushr (.arg 0) (.int 12)) (.int 7)) (.int 0)) (.int 0)), (.int 1), true), (false, (.op2 .lcmp (.op2 .frem (.op2 .iand (.op2 .iushr (.arg 0) (.int 9)) (.int 7)) (.int 0)) (.int 0)), (.int 1), true)] := Okk.fork nd584 nd585
set_option maxRecDepth 1000000 in
theorem nd587 : Okk (rn_1 3 5) [(false, (.op2 .frem (.op2 .iand (.op2 .iushr (.arg 0) (.int 12)) (.int 7)) (.int 0)), (.int 10), true), (false, (.op2 .lcmp (.op2 .frem (.op2 .iand (.op2 .iushr (.arg 0) (.int 12)) (.int 7)) (.int 0)) (.int 0)), (.int 1), false), (false, (.op2 .lcmp (.op2 .frem (.op2 .iand (.op2 .iushr (.arg 0) (.int 9)) (.int 7)) (.int 0)) (.int 0)), (.int 1), true)] := Okk.leaf (by decide +kernel)
set_option maxRecDepth 1000000 in
theorem nd588 : Okk (rn_1 3 5) [(false, (.op2 .frem (.op2 .iand (.op2 .iushr (.arg 0) (.int 12)) (.int 7)) (.int 0)), (.int 123), true), (false, (.op2 .lcmp (.op2 .frem (.op2 .iand (.op2 .iushr (.arg 0) (.int 12)) (.int 7)) (.int 0)) (.int 0)), (.int 1), false), (false, (.op2 .lcmp (.op2 .frem (.op2 .iand (.op2 .iushr (.arg 0) (.int 9)) (.int 7)) (.int 0)) (.int 0)), (.int 1), true)] := Okk.leaf (by decide +kernel)
set_option maxRecDepth 1000000 in
theorem nd589 : Okk (rn_1 3 5) [(false, (.op2 .frem (.op2 .iand (.op2 .iushr (.arg 0) (.int 12)) (.int 7)) (.int 0)), (.int 125), true), (false, (.op2 .lcmp (.op2 .frem (.op2 .iand (.op2 .iushr (.arg 0) (.int 12)) (.int 7)) (.int 0)) (.int 0)), (.int 1), false), (false, (.op2 .lcmp (.op2 .frem (.op2 .iand (.op2 .iushr (.arg 0) (.int 9)) (.int 7)) (.int 0)) (.int 0)), (.int 1), true)] := Okk.leaf (by decide +kernel)
set_option maxRecDepth 1000000 in
theorem nd590 : Okk (rn_1 3 5) [(false, (.op2 .frem (.op2 .iand (.op2 .iushr (.arg 0) (.int 12)) (.int 7)) (.int 0)), (.int 11), true), (false, (.op2 .lcmp (.op2 .frem (.op2 .iand (.op2 .iushr (.arg 0) (.int 12)) (.int 7)) (.int 0)) (.int 0)), (.int 1), false), (false, (.op2 .lcmp (.op2 .frem (.op2 .iand (.op2 .iushr (.arg 0) (.int 9)) (.int 7)) (.int 0)) (.int 0)), (.int 1), true)] := Okk.leaf (by decide +kernel)
set_option maxRecDepth 1000000 in
theorem nd591 : Okk (rn_1 3 5) [(false, (.op2 .frem (.op2 .iand (.op2 .iushr (.arg 0) (.int 12)) (.int 7)) (.int 0)), (.int (-30)), true), (false, (.op2 .lcmp (.op2 .frem (.op2 .iand (.op2 .iushr (.arg 0) (.int 12)) (.int 7)) (.int 0)) (.int 0)), (.int 1), false), (false, (.op2 .lcmp (.op2 .frem (.op2 .iand (.op2 .iushr (.arg 0) (.int 9)) (.int 7)) (.int 0)) (.int 0)), (.int 1), true)] := Okk.leaf (by decide +kernel)
theorem nd592 : Okk (rn_1 3 5) [(false, (.op2 .lcmp (.op2 .frem (.op2 .iand (.op2 .iushr (.arg 0) (.int 12)) (.int 7)) (.int 0)) (.int 0)), (.int 1), false), (false, (.op2 .lcmp (.op2 .frem (.op2 .iand (.op2 .iushr (.arg 0) (.int 9)) (.int 7)) (.int 0)) (.int 0)), (.int 1), true)] := Okk.tab (by decide +kernel) nd587 nd588 nd589 nd590 nd591
theorem nd593 : Okk (rn_1 3 5) [(false, (.op2 .lcmp (.op2 .frem (.op2 .iand (.op2 .iushr (.arg 0) (.int 9)) (.int 7)) (.int 0)) (.int 0)), (.int 1), true)] := Okk.fork nd586 nd592
set_option maxRecDepth 1000000 in
theorem nd594 : Okk (rn_1 3 5) [(false, (.op2 .frem (.op2 .iand (.op2 .iushr (.arg 0) (.int 9)) (.int 7)) (.int 0)), (.int 10), true), (false, (.op2 .lcmp (.op2 .frem (.op2 .iand (.op2 .iushr (.arg 0) (.int 9)) (.int 7)) (.int 0)) (.int 0)), (.int 1), false)] := Okk.leaf (by decide +kernel)
set_option maxRecDepth 1000000 in
theorem nd595 : Okk (rn_1 3 5) [(false, (.op2 .frem (.op2 .iand (.op2 .iushr (.arg 0) (.int 9)) (.int 7)) (.int 0)), (.int 123), true), (false, (.op2 .lcmp (.op2 .frem (.op2 .iand (.op2 .iushr (.arg 0) (.int 9)) (.int 7)) (.int 0)) (.int 0)), (.int 1), false)] := Okk.leaf (by decide +kernel)
set_option maxRecDepth 1000000 in
theorem nd596 : Okk (rn_1 3 5) [(false, (.op2 .frem (.op2 .iand (.op2 .iushr (.arg 0) (.int 9)) (.int 7)) (.int 0)), (.int 125), true), (false, (.op2 .lcmp (.op2 .frem (.op2 .iand (.op2 .iushr (.arg 0) (.int 9)) (.int 7)) (.int 0)) (.int 0)), (.int 1), false)] := Okk.leaf (by decide +kernel)
set_option maxRecDepth 1000000 in
theorem nd597 : Okk (rn_1 3 5) [(false, (.op2 .frem (.op2 .iand (.op2 .iushr (.arg 0) (.int 9)) (.int 7)) (.int 0)), (.int 11), true), (false, (.op2 .lcmp (.op2 .frem (.op2 .iand (.op2 .iushr (.arg 0) (.int 9)) (.int 7)) (.int 0)) (.int 0)), (.int 1), false)] := Okk.leaf (by decide +kernel)
set_option maxRecDepth 1000000 in
theorem nd598 : Okk (rn_1 3 5) [(false, (.op2 .frem (.op2 .iand (.op2 .iushr (.arg 0) (.int 9)) (.int 7)) (.int 0)), (.int (-30)), true), (false, (.op2 .lcmp (.op2 .frem (.op2 .iand (.op2 .iushr (.arg 0) (.int 9)) (.int 7)) (.int 0)) (.int 0)), (.int 1), false)] := Okk.leaf (by decide +kernel)
theorem nd599 : Okk (rn_1 3 5) [(false, (.op2 .lcmp (.op2 .frem (.op2 .iand (.op2 .iushr (.arg 0) (.int 9)) (.int 7)) (.int 0)) (.int 0)), (.int 1), false)] := Okk.tab (by decide +kernel) nd594 nd595 nd596 nd597 nd598
theorem nd600 : Okk (rn_1 3 5) [] := Okk.fork nd593 nd599
set_option maxRecDepth 1000000 in
theorem nd601 : Okk (rn_1 4 4) [(false, (.op2 .dcmpl (.op2 .iand (.arg 3) (.int 1)) (.int 0)), (.int 0), true)] := Okk.leaf (by decide +kernel)
set_option maxRecDepth 1000000 in
theorem nd602 : Okk (rn_1 4 4) [(false, (.op2 .dcmpl (.op2 .iand (.arg 3) (.int 1)) (.int 0)), (.int 0), false)] := Okk.leaf (by decide +kernel)
theorem nd603 : Okk (rn_1 4 4) [] := Okk.fork nd601 nd602
set_option maxRecDepth 1000000 in
theorem nd604 : Okk (rn_1 4 5) [(false, (.op2 .dcmpl (.op2 .iand (.arg 3) (.int 1)) (.int 0)), (.int 0), true), (false, (.op2 .lcmp (.op2 .frem (.op2 .iand (.op2 .iushr (.arg 0) (.int 12)) (.int 7)) (.int 0)) (.int 0)), (.int 1), true)] := Okk.leaf (by decide +kernel)
set_option maxRecDepth 1000000 in
theorem nd605 : Okk (rn_1 4 5) [(false, (.op2 .dcmpl (.op2 .iand (.arg 3) (.int 1)) (.int 0)), (.int 0), false), (false, (.op2 .lcmp (.op2 .frem (.op2 .iand (.op2 .iushr (.arg 0) (.int 12)) (.int 7)) (.int 0)) (.int 0)), (.int 1), true)] := Okk.leaf (by decide +kernel)
theorem nd606 : Okk (rn_1 4 5) [(false, (.op2 .lcmp (.op2 .frem (.op2 .iand (.op2 .iushr (.arg 0) (.int 12)) (.int 7)) (.int 0)) (.int 0)), (.int 1), true)] := Okk.fork nd604 nd605
set_option maxRecDepth 1000000 in
theorem nd607 : Okk (rn_1 4 5) [(false, (.op2 .frem (.op2 .iand (.op2 .iushr (.arg 0) (.int 12)) (.int 7)) (.int 0)), (.int 10), true), (false, (.op2 .lcmp (.op2 .frem (.op2 .iand (.op2 .iushr (.arg 0) (.int 12)) (.int 7)) (.int 0)) (.int 0)), (.int 1), false)] := Okk.leaf (by decide +kernel)
set_option maxRecDepth 1000000 in
theorem nd608 : Okk (rn_1 4 5) [(false, (.op2 .frem (.op2 .iand (.op2 .iushr (.arg 0) (.int 12)) (.int 7)) (.int 0)), (.int 123), true), (false, (.op2 .lcmp (.op2 .frem (.op2 .iand (.op2 .iushr (.arg 0) (.int 12)) (.int 7)) (.int 0)) (.int 0)), (.int 1), false)] := Okk.leaf (by decide +kernel)
set_option maxRecDepth 1000000 in
theorem nd609 : Okk (rn_1 4 5) [(false, (.op2 .frem (.op2 .iand (.op2 .iushr (.arg 0) (.int 12)) (.int 7)) (.int 0)), (.int 125), true), (false, (.op2 .lcmp (.op2 .frem (.op2 .iand (.op2 .iushr (.arg 0) (.int 12)) (.int 7)) (.int 0)) (.int 0)), (.int 1), false)] := Okk.leaf (by decide +kernel)
set_option maxRecDepth 1000000 in
theorem nd610 : Okk (rn_1 4 5) [(false, (.op2 .frem (.op2 .iand (.op2 .iushr (.arg 0) (.int 12)) (.int 7)) (.int 0)), (.int 11), true), (false, (.op2 .lcmp (.op2 .frem (.op2 .iand (.op2 .iushr (.arg 0) (.int 12)) (.int 7)) (.int 0)) (.int 0)), (.int 1), false)] := Okk.leaf (by decide +kernel)
set_option maxRecDepth 1000000 in
theorem nd611 : Okk (rn_1 4 5) [(false, (.op2 .frem (.op2 .iand (.op2 .iushr (.arg 0) (.int 12)) (.int 7)) (.int 0)), (.int (-30)), true), (false, (.op2 .lcmp (.op2 .frem (.op2 .iand (.op2 .iushr (.arg 0) (.int 12)) (.int 7)) (.int 0)) (.int 0)), (.int 1), false)] := Okk.leaf (by decide +kernel)
theorem nd612 : Okk (rn_1 4 5) [(false, (.op2 .lcmp (.op2 .frem (.op2 .iand (.op2 .iushr (.arg 0) (.int 12)) (.int 7)) (.int 0)) (.int 0)), (.int 1), false)] := Okk.tab (by decide +kernel) nd607 nd608 nd609 nd610 nd611
theorem nd613 : Okk (rn_1 4 5) [] := Okk.fork nd606 nd612
set_option maxRecDepth 1000000 in
theorem nd614 : Okk (rn_1 5 5) [(false, (.op2 .dcmpl (.op2 .iand (.arg 3) (.int 1)) (.int 0)), (.int 0), true)] := Okk.leaf (by decide +kernel)
set_option maxRecDepth 1000000 in
theorem nd615 : Okk (rn_1 5 5) [(false, (.op2 .dcmpl (.op2 .iand (.arg 3) (.int 1)) (.int 0)), (.int 0), false)] := Okk.leaf (by decide +kernel)
theorem nd616 : Okk (rn_1 5 5) [] := Okk.fork nd614 nd615
def A1_0 : List Asm := [(false, (.arg 5), (.int 0), true), (false, (.arg 4), (.int 0), true), (false, (.rem (.op2 .iand (.arg 2) (.int 2147483647)) (.int 6)), (.int 0), true), (false, (.rem (.op2 .iand (.arg 1) (.int 2147483647)) (.int 6)), (.int 0), true)]
set_option maxRecDepth 1000000 in
theorem p1_0 : stEq none A1_0 (goP (go2 A1_0 559) A1_0 93 5 53 559 0 L0 [] []) 93 L93 H93 6 45 = true := by decide +kernel
set_option maxRecDepth 1000000 in
theorem p3_0 : lEq (oEq none A1_0) L183 (LT 0 0) = true := by decide +kernel
set_option maxRecDepth 1000000 in
theorem p4_0_0 : lEq (cEq none A1_0) H183_0 (HT_0 0 0) = true := by decide +kernel
set_option maxRecDepth 1000000 in
theorem p4_1_0 : lEq (cEq none A1_0) H183_1 (HT_1 0 0) = true := by decide +kernel
def A1_1 : List Asm := [(false, (.arg 5), (.int 1), true), (false, (.arg 4), (.int 0), true), (false, (.rem (.op2 .iand (.arg 2) (.int 2147483647)) (.int 6)), (.int 1), true), (false, (.rem (.op2 .iand (.arg 1) (.int 2147483647)) (.int 6)), (.int 0), true)]
set_option maxRecDepth 1000000 in
theorem p1_1 : stEq none A1_1 (goP (go2 A1_1 559) A1_1 93 5 53 559 0 L0 [] []) 93 L93 H93 6 45 = true := by decide +kernel
set_option maxRecDepth 1000000 in
theorem p3_1 : lEq (oEq none A1_1) L183 (LT 0 1) = true := by decide +kernel
set_option maxRecDepth 1000000 in
theorem p4_0_1 : lEq (cEq none A1_1) H183_0 (HT_0 0 1) = true := by decide +kernel
set_option maxRecDepth 1000000 in
theorem p4_1_1 : lEq (cEq none A1_1) H183_1 (HT_1 0 1) = true := by decide +kernel
def A1_2 : List Asm := [(false, (.arg 5), (.int 2), true), (false, (.arg 4), (.int 0), true), (false, (.rem (.op2 .iand (.arg 2) (.int 2147483647)) (.int 6)), (.int 2), true), (false, (.rem (.op2 .iand (.arg 1) (.int 2147483647)) (.int 6)), (.int 0), true)]
set_option maxRecDepth 1000000 in
theorem p1_2 : stEq none A1_2 (goP (go2 A1_2 559) A1_2 93 5 53 559 0 L0 [] []) 93 L93 H93 6 45 = true := by decide +kernel
set_option maxRecDepth 1000000 in
theorem p3_2 : lEq (oEq none A1_2) L183 (LT 0 2) = true := by decide +kernel
set_option maxRecDepth 1000000 in
theorem p4_0_2 : lEq (cEq none A1_2) H183_0 (HT_0 0 2) = true := by decide +kernel
set_option maxRecDepth 1000000 in
theorem p4_1_2 : lEq (cEq none A1_2) H183_1 (HT_1 0 2) = true := by decide +kernel
def A1_3 : List Asm := [(false, (.arg 5), (.int 3), true), (false, (.arg 4), (.int 0), true), (false, (.rem (.op2 .iand (.arg 2) (.int 2147483647)) (.int 6)), (.int 3), true), (false, (.rem (.op2 .iand (.arg 1) (.int 2147483647)) (.int 6)), (.int 0), true)]
set_option maxRecDepth 1000000 in
theorem p1_3 : stEq none A1_3 (goP (go2 A1_3 559) A1_3 93 5 53 559 0 L0 [] []) 93 L93 H93 6 45 = true := by decide +kernel
set_option maxRecDepth 1000000 in
theorem p3_3 : lEq (oEq none A1_3) L183 (LT 0 3) = true := by decide +kernel
set_option maxRecDepth 1000000 in
theorem p4_0_3 : lEq (cEq none A1_3) H183_0 (HT_0 0 3) = true := by decide +kernel
set_option maxRecDepth 1000000 in
theorem p4_1_3 : lEq (cEq none A1_3) H183_1 (HT_1 0 3) = true := by decide +kernel
def A1_4 : List Asm := [(false, (.arg 5), (.int 4), true), (false, (.arg 4), (.int 0), true), (false, (.rem (.op2 .iand (.arg 2) (.int 2147483647)) (.int 6)), (.int 4), true), (false, (.rem (.op2 .iand (.arg 1) (.int 2147483647)) (.int 6)), (.int 0), true)]
set_option maxRecDepth 1000000 in
theorem p1_4 : stEq none A1_4 (goP (go2 A1_4 559) A1_4 93 5 53 559 0 L0 [] []) 93 L93 H93 6 45 = true := by decide +kernel
set_option maxRecDepth 1000000 in
theorem p3_4 : lEq (oEq none A1_4) L183 (LT 0 4) = true := by decide +kernel
set_option maxRecDepth 1000000 in
theorem p4_0_4 : lEq (cEq none A1_4) H183_0 (HT_0 0 4) = true := by decide +kernel
set_option maxRecDepth 1000000 in
theorem p4_1_4 : lEq (cEq none A1_4) H183_1 (HT_1 0 4) = true := by decide +kernel
def A1_5 : List Asm := [(false, (.arg 5), (.int 5), true), (false, (.arg 4), (.int 0), true), (false, (.rem (.op2 .iand (.arg 2) (.int 2147483647)) (.int 6)), (.int 5), true), (false, (.rem (.op2 .iand (.arg 1) (.int 2147483647)) (.int 6)), (.int 0), true)]
set_option maxRecDepth 1000000 in
theorem p1_5 : stEq none A1_5 (goP (go2 A1_5 559) A1_5 93 5 53 559 0 L0 [] []) 93 L93 H93 6 45 = true := by decide +kernel
set_option maxRecDepth 1000000 in
theorem p3_5 : lEq (oEq none A1_5) L183 (LT 0 5) = true := by decide +kernel
set_option maxRecDepth 1000000 in
theorem p4_0_5 : lEq (cEq none A1_5) H183_0 (HT_0 0 5) = true := by decide +kernel
set_option maxRecDepth 1000000 in
theorem p4_1_5 : lEq (cEq none A1_5) H183_1 (HT_1 0 5) = true := by decide +kernel
def A1_6 : List Asm := [(false, (.arg 5), (.int 1), true), (false, (.arg 4), (.int 1), true), (false, (.rem (.op2 .iand (.arg 2) (.int 2147483647)) (.int 5)), (.int 0), true), (false, (.rem (.op2 .iand (.arg 1) (.int 2147483647)) (.int 6)), (.int 1), true)]
set_option maxRecDepth 1000000 in
theorem p1_6 : stEq none A1_6 (goP (go2 A1_6 559) A1_6 93 5 53 559 0 L0 [] []) 93 L93 H93 6 45 = true := by decide +kernel
set_option maxRecDepth 1000000 in
theorem p3_6 : lEq (oEq none A1_6) L183 (LT 1 1) = true := by decide +kernel
set_option maxRecDepth 1000000 in
theorem p4_0_6 : lEq (cEq none A1_6) H183_0 (HT_0 1 1) = true := by decide +kernel
set_option maxRecDepth 1000000 in
theorem p4_1_6 : lEq (cEq none A1_6) H183_1 (HT_1 1 1) = true := by decide +kernel
def A1_7 : List Asm := [(false, (.arg 5), (.int 2), true), (false, (.arg 4), (.int 1), true), (false, (.rem (.op2 .iand (.arg 2) (.int 2147483647)) (.int 5)), (.int 1), true), (false, (.rem (.op2 .iand (.arg 1) (.int 2147483647)) (.int 6)), (.int 1), true)]
set_option maxRecDepth 1000000 in
theorem p1_7 : stEq none A1_7 (goP (go2 A1_7 559) A1_7 93 5 53 559 0 L0 [] []) 93 L93 H93 6 45 = true := by decide +kernel
set_option maxRecDepth 1000000 in
theorem p3_7 : lEq (oEq none A1_7) L183 (LT 1 2) = true := by decide +kernel
set_option maxRecDepth 1000000 in
theorem p4_0_7 : lEq (cEq none A1_7) H183_0 (HT_0 1 2) = true := by decide +kernel
set_option maxRecDepth 1000000 in
theorem p4_1_7 : lEq (cEq none A1_7) H183_1 (HT_1 1 2) = true := by decide +kernel
def A1_8 : List Asm := [(false, (.arg 5), (.int 3), true), (false, (.arg 4), (.int 1), true), (false, (.rem (.op2 .iand (.arg 2) (.int 2147483647)) (.int 5)), (.int 2), true), (false, (.rem (.op2 .iand (.arg 1) (.int 2147483647)) (.int 6)), (.int 1), true)]
set_option maxRecDepth 1000000 in
theorem p1_8 : stEq none A1_8 (goP (go2 A1_8 559) A1_8 93 5 53 559 0 L0 [] []) 93 L93 H93 6 45 = true := by decide +kernel
set_option maxRecDepth 1000000 in
theorem p3_8 : lEq (oEq none A1_8) L183 (LT 1 3) = true := by decide +kernel
set_option maxRecDepth 1000000 in
theorem p4_0_8 : lEq (cEq none A1_8) H183_0 (HT_0 1 3) = true := by decide +kernel
set_option maxRecDepth 1000000 in
theorem p4_1_8 : lEq (cEq none A1_8) H183_1 (HT_1 1 3) = true := by decide +kernel
def A1_9 : List Asm := [(false, (.arg 5), (.int 4), true), (false, (.arg 4), (.int 1), true), (false, (.rem (.op2 .iand (.arg 2) (.int 2147483647)) (.int 5)), (.int 3), true), (false, (.rem (.op2 .iand (.arg 1) (.int 2147483647)) (.int 6)), (.int 1), true)]
set_option maxRecDepth 1000000 in
theorem p1_9 : stEq none A1_9 (goP (go2 A1_9 559) A1_9 93 5 53 559 0 L0 [] []) 93 L93 H93 6 45 = true := by decide +kernel
set_option maxRecDepth 1000000 in
theorem p3_9 : lEq (oEq none A1_9) L183 (LT 1 4) = true := by decide +kernel
set_option maxRecDepth 1000000 in
theorem p4_0_9 : lEq (cEq none A1_9) H183_0 (HT_0 1 4) = true := by decide +kernel
set_option maxRecDepth 1000000 in
theorem p4_1_9 : lEq (cEq none A1_9) H183_1 (HT_1 1 4) = true := by decide +kernel
def A1_10 : List Asm := [(false, (.arg 5), (.int 5), true), (false, (.arg 4), (.int 1), true), (false, (.rem (.op2 .iand (.arg 2) (.int 2147483647)) (.int 5)), (.int 4), true), (false, (.rem (.op2 .iand (.arg 1) (.int 2147483647)) (.int 6)), (.int 1), true)]
set_option maxRecDepth 1000000 in
theorem p1_10 : stEq none A1_10 (goP (go2 A1_10 559) A1_10 93 5 53 559 0 L0 [] []) 93 L93 H93 6 45 = true := by decide +kernel
set_option maxRecDepth 1000000 in
theorem p3_10 : lEq (oEq none A1_10) L183 (LT 1 5) = true := by decide +kernel
set_option maxRecDepth 1000000 in
theorem p4_0_10 : lEq (cEq none A1_10) H183_0 (HT_0 1 5) = true := by decide +kernel
set_option maxRecDepth 1000000 in
theorem p4_1_10 : lEq (cEq none A1_10) H183_1 (HT_1 1 5) = true := by decide +kernel
def A1_11 : List Asm := [(false, (.arg 5), (.int 2), true), (false, (.arg 4), (.int 2), true), (false, (.rem (.op2 .iand (.arg 2) (.int 2147483647)) (.int 4)), (.int 0), true), (false, (.rem (.op2 .iand (.arg 1) (.int 2147483647)) (.int 6)), (.int 2), true)]
set_option maxRecDepth 1000000 in
theorem p1_11 : stEq none A1_11 (goP (go2 A1_11 559) A1_11 93 5 53 559 0 L0 [] []) 93 L93 H93 6 45 = true := by decide +kernel
set_option maxRecDepth 1000000 in
theorem p3_11 : lEq (oEq none A1_11) L183 (LT 2 2) = true := by decide +kernel
set_option maxRecDepth 1000000 in
theorem p4_0_11 : lEq (cEq none A1_11) H183_0 (HT_0 2 2) = true := by decide +kernel
set_option maxRecDepth 1000000 in
theorem p4_1_11 : lEq (cEq none A1_11) H183_1 (HT_1 2 2) = true := by decide +kernel
def A1_12 : List Asm := [(false, (.arg 5), (.int 3), true), (false, (.arg 4), (.int 2), true), (false, (.rem (.op2 .iand (.arg 2) (.int 2147483647)) (.int 4)), (.int 1), true), (false, (.rem (.op2 .iand (.arg 1) (.int 2147483647)) (.int 6)), (.int 2), true)]
set_option maxRecDepth 1000000 in
theorem p1_12 : stEq none A1_12 (goP (go2 A1_12 559) A1_12 93 5 53 559 0 L0 [] []) 93 L93 H93 6 45 = true := by decide +kernel
set_option maxRecDepth 1000000 in
theorem p3_12 : lEq (oEq none A1_12) L183 (LT 2 3) = true := by decide +kernel
set_option maxRecDepth 1000000 in
theorem p4_0_12 : lEq (cEq none A1_12) H183_0 (HT_0 2 3) = true := by decide +kernel
set_option maxRecDepth 1000000 in
theorem p4_1_12 : lEq (cEq none A1_12) H183_1 (HT_1 2 3) = true := by decide +kernel
def A1_13 : List Asm := [(false, (.arg 5), (.int 4), true), (false, (.arg 4), (.int 2), true), (false, (.rem (.op2 .iand (.arg 2) (.int 2147483647)) (.int 4)), (.int 2), true), (false, (.rem (.op2 .iand (.arg 1) (.int 2147483647)) (.int 6)), (.int 2), true)]
set_option maxRecDepth 1000000 in
theorem p1_13 : stEq none A1_13 (goP (go2 A1_13 559) A1_13 93 5 53 559 0 L0 [] []) 93 L93 H93 6 45 = true := by decide +kernel
set_option maxRecDepth 1000000 in
theorem p3_13 : lEq (oEq none A1_13) L183 (LT 2 4) = true := by decide +kernel
set_option maxRecDepth 1000000 in
theorem p4_0_13 : lEq (cEq none A1_13) H183_0 (HT_0 2 4) = true := by decide +kernel
set_option maxRecDepth 1000000 in
theorem p4_1_13 : lEq (cEq none A1_13) H183_1 (HT_1 2 4) = true := by decide +kernel
def A1_14 : List Asm := [(false, (.arg 5), (.int 5), true), (false, (.arg 4), (.int 2), true), (false, (.rem (.op2 .iand (.arg 2) (.int 2147483647)) (.int 4)), (.int 3), true), (false, (.rem (.op2 .iand (.arg 1) (.int 2147483647)) (.int 6)), (.int 2), true)]
set_option maxRecDepth 1000000 in
theorem p1_14 : stEq none A1_14 (goP (go2 A1_14 559) A1_14 93 5 53 559 0 L0 [] []) 93 L93 H93 6 45 = true := by decide +kernel
set_option maxRecDepth 1000000 in
theorem p3_14 : lEq (oEq none A1_14) L183 (LT 2 5) = true := by decide +kernel
set_option maxRecDepth 1000000 in
theorem p4_0_14 : lEq (cEq none A1_14) H183_0 (HT_0 2 5) = true := by decide +kernel
set_option maxRecDepth 1000000 in
theorem p4_1_14 : lEq (cEq none A1_14) H183_1 (HT_1 2 5) = true := by decide +kernel
def A1_15 : List Asm := [(false, (.arg 5), (.int 3), true), (false, (.arg 4), (.int 3), true), (false, (.rem (.op2 .iand (.arg 2) (.int 2147483647)) (.int 3)), (.int 0), true), (false, (.rem (.op2 .iand (.arg 1) (.int 2147483647)) (.int 6)), (.int 3), true)]
set_option maxRecDepth 1000000 in
theorem p1_15 : stEq none A1_15 (goP (go2 A1_15 559) A1_15 93 5 53 559 0 L0 [] []) 93 L93 H93 6 45 = true := by decide +kernel
set_option maxRecDepth 1000000 in
theorem p3_15 : lEq (oEq none A1_15) L183 (LT 3 3) = true := by decide +kernel
set_option maxRecDepth 1000000 in
theorem p4_0_15 : lEq (cEq none A1_15) H183_0 (HT_0 3 3) = true := by decide +kernel
set_option maxRecDepth 1000000 in
theorem p4_1_15 : lEq (cEq none A1_15) H183_1 (HT_1 3 3) = true := by decide +kernel
def A1_16 : List Asm := [(false, (.arg 5), (.int 4), true), (false, (.arg 4), (.int 3), true), (false, (.rem (.op2 .iand (.arg 2) (.int 2147483647)) (.int 3)), (.int 1), true), (false, (.rem (.op2 .iand (.arg 1) (.int 2147483647)) (.int 6)), (.int 3), true)]
set_option maxRecDepth 1000000 in
theorem p1_16 : stEq none A1_16 (goP (go2 A1_16 559) A1_16 93 5 53 559 0 L0 [] []) 93 L93 H93 6 45 = true := by decide +kernel
set_option maxRecDepth 1000000 in
theorem p3_16 : lEq (oEq none A1_16) L183 (LT 3 4) = true := by decide +kernel
set_option maxRecDepth 1000000 in
theorem p4_0_16 : lEq (cEq none A1_16) H183_0 (HT_0 3 4) = true := by decide +kernel
set_option maxRecDepth 1000000 in
theorem p4_1_16 : lEq (cEq none A1_16) H183_1 (HT_1 3 4) = true := by decide +kernel
def A1_17 : List Asm := [(false, (.arg 5), (.int 5), true), (false, (.arg 4), (.int 3), true), (false, (.rem (.op2 .iand (.arg 2) (.int 2147483647)) (.int 3)), (.int 2), true), (false, (.rem (.op2 .iand (.arg 1) (.int 2147483647)) (.int 6)), (.int 3), true)]
set_option maxRecDepth 1000000 in
theorem p1_17 : stEq none A1_17 (goP (go2 A1_17 559) A1_17 93 5 53 559 0 L0 [] []) 93 L93 H93 6 45 = true := by decide +kernel
set_option maxRecDepth 1000000 in
theorem p3_17 : lEq (oEq none A1_17) L183 (LT 3 5) = true := by decide +kernel
set_option maxRecDepth 1000000 in
theorem p4_0_17 : lEq (cEq none A1_17) H183_0 (HT_0 3 5) = true := by decide +kernel
set_option maxRecDepth 1000000 in
theorem p4_1_17 : lEq (cEq none A1_17) H183_1 (HT_1 3 5) = true := by decide +kernel
def A1_18 : List Asm := [(false, (.arg 5), (.int 4), true), (false, (.arg 4), (.int 4), true), (false, (.rem (.op2 .iand (.arg 2) (.int 2147483647)) (.int 2)), (.int 0), true), (false, (.rem (.op2 .iand (.arg 1) (.int 2147483647)) (.int 6)), (.int 4), true)]
set_option maxRecDepth 1000000 in
theorem p1_18 : stEq none A1_18 (goP (go2 A1_18 559) A1_18 93 5 53 559 0 L0 [] []) 93 L93 H93 6 45 = true := by decide +kernel
set_option maxRecDepth 1000000 in
theorem p3_18 : lEq (oEq none A1_18) L183 (LT 4 4) = true := by decide +kernel
set_option maxRecDepth 1000000 in
theorem p4_0_18 : lEq (cEq none A1_18) H183_0 (HT_0 4 4) = true := by decide +kernel
set_option maxRecDepth 1000000 in
theorem p4_1_18 : lEq (cEq none A1_18) H183_1 (HT_1 4 4) = true := by decide +kernel
def A1_19 : List Asm := [(false, (.arg 5), (.int 5), true), (false, (.arg 4), (.int 4), true), (false, (.rem (.op2 .iand (.arg 2) (.int 2147483647)) (.int 2)), (.int 1), true), (false, (.rem (.op2 .iand (.arg 1) (.int 2147483647)) (.int 6)), (.int 4), true)]
set_option maxRecDepth 1000000 in
theorem p1_19 : stEq none A1_19 (goP (go2 A1_19 559) A1_19 93 5 53 559 0 L0 [] []) 93 L93 H93 6 45 = true := by decide +kernel
set_option maxRecDepth 1000000 in
theorem p3_19 : lEq (oEq none A1_19) L183 (LT 4 5) = true := by decide +kernel
set_option maxRecDepth 1000000 in
theorem p4_0_19 : lEq (cEq none A1_19) H183_0 (HT_0 4 5) = true := by decide +kernel
set_option maxRecDepth 1000000 in
theorem p4_1_19 : lEq (cEq none A1_19) H183_1 (HT_1 4 5) = true := by decide +kernel
def A1_20 : List Asm := [(false, (.arg 5), (.int 5), true), (false, (.arg 4), (.int 5), true), (false, (.rem (.op2 .iand (.arg 2) (.int 2147483647)) (.int 1)), (.int 0), true), (false, (.rem (.op2 .iand (.arg 1) (.int 2147483647)) (.int 6)), (.int 5), true)]
set_option maxRecDepth 1000000 in
theorem p1_20 : stEq none A1_20 (goP (go2 A1_20 559) A1_20 93 5 53 559 0 L0 [] []) 93 L93 H93 6 45 = true := by decide +kernel
set_option maxRecDepth 1000000 in
theorem p3_20 : lEq (oEq none A1_20) L183 (LT 5 5) = true := by decide +kernel
set_option maxRecDepth 1000000 in
theorem p4_0_20 : lEq (cEq none A1_20) H183_0 (HT_0 5 5) = true := by decide +kernel
set_option maxRecDepth 1000000 in
theorem p4_1_20 : lEq (cEq none A1_20) H183_1 (HT_1 5 5) = true := by decide +kernel
def A2_0 : List Asm := [(false, (.arg 7), (.int 0), true), (false, (.arg 6), (.int 0), true), (false, (.op2 .iand (.op2 .iushr (.arg 3) (.int 1)) (.int 3)), (.int 0), true)]
set_option maxRecDepth 1000000 in
theorem p2_0 : stEq none A2_0 (goP (go2 A2_0 559) A2_0 183 5 53 559 93 L93 [] H93) 183 L183 H183_0 22 12524 = true := by decide +kernel
def A2_1 : List Asm := [(false, (.arg 7), (.int 0), true), (false, (.arg 6), (.int 1), true), (false, (.op2 .iand (.op2 .iushr (.arg 3) (.int 1)) (.int 3)), (.int 1), true)]
set_option maxRecDepth 1000000 in
theorem p2_1 : stEq none A2_1 (goP (go2 A2_1 559) A2_1 183 5 53 559 93 L93 [] H93) 183 L183 H183_1 22 12524 = true := by decide +kernel
def A2_2 : List Asm := [(false, (.arg 7), (.int 2), true), (false, (.arg 6), (.int 2), true), (false, (.op2 .iand (.op2 .iushr (.arg 3) (.int 1)) (.int 3)), (.int 2), true)]
set_option maxRecDepth 1000000 in
theorem p2_2 : stEq none A2_2 (goP (go2 A2_2 559) A2_2 183 5 53 559 93 L93 [] H93) 183 L183 H183_1 22 12524 = true := by decide +kernel
def A2_3 : List Asm := [(false, (.arg 7), (.int 2), true), (false, (.arg 6), (.int 3), true), (false, (.op2 .iand (.op2 .iushr (.arg 3) (.int 1)) (.int 3)), (.int 3), true)]
set_option maxRecDepth 1000000 in
theorem p2_3 : stEq none A2_3 (goP (go2 A2_3 559) A2_3 183 5 53 559 93 L93 [] H93) 183 L183 H183_1 22 12524 = true := by decide +kernel
def un (x0 x1 x2 x3 e4 e5 e6 e7 : Int32) : Un := (fun i => [x0, x1, x2, x3, e4, e5, e6, e7].getD i 0, 0)
abbrev wl (Z : State) (x0 x1 x2 x3 e4 e5 e6 e7 : Int32) (ω : Nat → Addr) (ωe : Nat → Int32 → Value) : Wl := (Z.heap.size, un x0 x1 x2 x3 e4 e5 e6 e7, ω, ωe)

theorem own_len {Z : State} {a0 : Array Value} {t : Term} {a : Addr} {cl : Cell} {k : Int32} {n : Nat} (ev : t.eval a0 Z none [] Z = some (.ref a)) (hc : Z.heap[a]? = some cl) (h : (Jvm.Cond.eq (Term.length t) (Term.int k)).value a0 Z none Z [] = some true) (hn : k.toInt = n) : cl.slots.size = n := by
  have e := own_eqI h
  obtain ⟨x, c', e1, e2, e3⟩ := Term.length_spec e
  cases ev.symm.trans e1
  cases hc.symm.trans (State.arrayAt?_spec e2).1
  by_cases q : cl.slots.size < 2147483648
  · have e4 : k = cl.slots.size.toInt32 := Value.int.inj e3
    have e5 : (cl.slots.size.toInt32).toInt = cl.slots.size := Int32.toInt_ofNat_of_lt (by simpa using q)
    rw [← e4, hn] at e5
    exact (Int.ofNat.inj e5).symm
  · simp [Term.eval, ev, e2, q] at e
theorem own_elem {Z : State} {a0 : Array Value} {t u : Term} {a b : Addr} {cl : Cell} {k : Int32} (ev : t.eval a0 Z none [] Z = some (.ref a)) (hc : Z.heap[a]? = some cl) (eu : u.eval a0 Z none [] Z = some (.ref b)) (h : (Jvm.Cond.eq (Term.elem t (Term.int k)) u).value a0 Z none Z [] = some true) : cl.slots[k.toNatClampNeg]? = some (.ref b) := by
  obtain ⟨x, y, e1, e2, -, -⟩ := cmp_v (Or.inl h)
  have e3 := (elem_in e1 ev (Term.int_eval k) hc).2
  have h' := h
  cases x <;> simp [Jvm.Cond.value, e1, eu] at h'
  subst h'
  exact e3
def own_pick (L : List Value) (q : Nat) : Value := match L, q with
  | [], _ => .null
  | v :: _, 0 => v
  | _ :: r, q + 1 => own_pick r q
theorem own_pick_ref : ∀ (L : List Value) (_ : L.all Value.isRef = true) (q : Nat), (own_pick L q).isRef = true
  | [], _, _ => rfl
  | v :: r, h, 0 => by simp only [List.all_cons, Bool.and_eq_true] at h; exact h.1
  | v :: r, h, q + 1 => by simp only [List.all_cons, Bool.and_eq_true] at h; exact own_pick_ref r h.2 q
theorem own_vals {σ : Un} {a : Term} {u : Nat} (hu : rg a = some u) : ∃ k, k ≤ u ∧ tv σ a = k.toInt32 := by
  have hb := rg_ok (σ := σ) hu
  have h0 : ¬ tv σ a < 0 := by rw [Int32.lt_iff_toInt_lt]; have e0 : (0 : Int32).toInt = 0 := rfl; omega
  exact ⟨(tv σ a).toNatClampNeg, by simp only [Int32.toNatClampNeg]; omega, (back32 h0).1.symm⟩
theorem own_lg {σ : Un} : ∀ y : Int64, (none : Option Int64) = some y → σ.2 = y := fun _ q => nomatch q
theorem own_h0 {σ : Un} : holds σ [] := fun _ h => nomatch h
theorem own_hc {σ : Un} {a b : Term} {A : List Asm} (h : tv σ a = tv σ b) (hA : holds σ A) : holds σ ((false, a, b, true) :: A) := fun e he => by
  rcases List.mem_cons.mp he with rfl | he
  · exact decide_eq_true h
  · exact hA e he
def Q0 (n0 : Nat) (v : Option Value) (h : Heap) (L : List Loc) : Prop := v = some (.int (1 : Int32)) ∧ Fr n0 L
set_option maxRecDepth 65536 in
set_option maxHeartbeats 4000000 in
theorem pr_0 (l : Launch) (Z : State) (a0 : Array Value) (hw : ∀ d ∈ tables_1, d.before a0 Z = true) (ws : List Jvm.Cond) (x0 x1 x2 x3 : Int32) (ω : Nat → Addr) (ωe : Nat → Int32 → Value) (hW : ∀ e4 e5 e6 e7 : Int32, Wst Z a0 (wl Z x0 x1 x2 x3 e4 e5 e6 e7 ω ωe)) (eq0 : tv (un x0 x1 x2 x3 0 0 0 0) (.rem (.op2 .iand (.arg 1) (.int 2147483647)) (.int 6)) = (0 : Nat).toInt32) (eq1 : tv (un x0 x1 x2 x3 0 0 0 0) (.rem (.op2 .iand (.arg 2) (.int 2147483647)) (.int 6)) = (0 : Nat).toInt32) :
    MetFree l x (head1 (Jvm.Cond.code x code maxLocals ret :: ws) room_1) (fun a U => a = #[.int x0, .int x1, .int x2, .int x3] ∧ Z.Warmed39 U.vm ∧ U.heap = Z.heap) (fun _ _ _ _ _ => True) (fun _ U o U' => ∃ v L, o = .returned v ∧ Q0 Z.heap.size v U'.heap L ∧ FrameEnd U o U' L 64 25216) := by
  obtain ⟨m, hm, eM⟩ := own_vals (σ := (un x0 x1 x2 x3 0 0 0 0)) (a := (.op2 .iand (.op2 .iushr (.arg 3) (.int 1)) (.int 3))) (u := 3) (by decide +kernel)
  match m, hm, eM with
  | 0, _, eM =>
    have hA1 : holds (un x0 x1 x2 x3 0 0 0 0) A1_0 := (own_hc rfl (own_hc rfl (own_hc eq1 (own_hc eq0 own_h0))))
    have hA2 : holds (un x0 x1 x2 x3 0 0 0 0) A2_0 := (own_hc rfl (own_hc rfl (own_hc eM own_h0)))
    obtain ⟨A3, H3, c, s, hA3, hr, hc, hs⟩ := nd3 (un x0 x1 x2 x3 0 0 0 0) own_h0
    have M := cutmet (R := room_1) (av := #[.int x0, .int x1, .int x2, .int x3]) hw (hW 0 0 0 0) hA1 hA2 hA3 own_lg own_lg p1_0 p2_0 p3_0 p4_0_0 hr (by decide) rfl ⟨rfl, ⟨Nat.le_refl _, fun _ _ q => q⟩, rfl, fun i c q => by simp at q⟩ (by decide) (by decide) (Nat.le_trans (Nat.add_le_add_left hc _) (by decide)) (Nat.le_trans (Nat.add_le_add_left hs _) (by decide)) l ws
    intro p e h1 h2 h3 s0 m args below hf happ hP hK
    obtain ⟨n, o, g1, g2, g3, v, L, rfl, ⟨rfl, hN⟩, hE⟩ := M p e h1 h2 h3 s0 m args below hf happ hP hK
    exact ⟨n, _, g1, g2, g3, _, L, rfl, ⟨rfl, hN⟩, ⟨hE.1, hE.2.1, hE.2.2.mono (Nat.le_trans (Nat.add_le_add_left hc _) (by decide)) (Nat.le_trans (Nat.add_le_add_left hs _) (by decide))⟩⟩
  | 1, _, eM =>
    have hA1 : holds (un x0 x1 x2 x3 0 0 1 0) A1_0 := (own_hc rfl (own_hc rfl (own_hc eq1 (own_hc eq0 own_h0))))
    have hA2 : holds (un x0 x1 x2 x3 0 0 1 0) A2_1 := (own_hc rfl (own_hc rfl (own_hc eM own_h0)))
    obtain ⟨A3, H3, c, s, hA3, hr, hc, hs⟩ := nd311 (un x0 x1 x2 x3 0 0 1 0) own_h0
    have M := cutmet (R := room_1) (av := #[.int x0, .int x1, .int x2, .int x3]) hw (hW 0 0 1 0) hA1 hA2 hA3 own_lg own_lg p1_0 p2_1 p3_0 p4_1_0 hr (by decide) rfl ⟨rfl, ⟨Nat.le_refl _, fun _ _ q => q⟩, rfl, fun i c q => by simp at q⟩ (by decide) (by decide) (Nat.le_trans (Nat.add_le_add_left hc _) (by decide)) (Nat.le_trans (Nat.add_le_add_left hs _) (by decide)) l ws
    intro p e h1 h2 h3 s0 m args below hf happ hP hK
    obtain ⟨n, o, g1, g2, g3, v, L, rfl, ⟨rfl, hN⟩, hE⟩ := M p e h1 h2 h3 s0 m args below hf happ hP hK
    exact ⟨n, _, g1, g2, g3, _, L, rfl, ⟨rfl, hN⟩, ⟨hE.1, hE.2.1, hE.2.2.mono (Nat.le_trans (Nat.add_le_add_left hc _) (by decide)) (Nat.le_trans (Nat.add_le_add_left hs _) (by decide))⟩⟩
  | 2, _, eM =>
    have hA1 : holds (un x0 x1 x2 x3 0 0 2 2) A1_0 := (own_hc rfl (own_hc rfl (own_hc eq1 (own_hc eq0 own_h0))))
    have hA2 : holds (un x0 x1 x2 x3 0 0 2 2) A2_2 := (own_hc rfl (own_hc rfl (own_hc eM own_h0)))
    obtain ⟨A3, H3, c, s, hA3, hr, hc, hs⟩ := nd311 (un x0 x1 x2 x3 0 0 2 2) own_h0
    have M := cutmet (R := room_1) (av := #[.int x0, .int x1, .int x2, .int x3]) hw (hW 0 0 2 2) hA1 hA2 hA3 own_lg own_lg p1_0 p2_2 p3_0 p4_1_0 hr (by decide) rfl ⟨rfl, ⟨Nat.le_refl _, fun _ _ q => q⟩, rfl, fun i c q => by simp at q⟩ (by decide) (by decide) (Nat.le_trans (Nat.add_le_add_left hc _) (by decide)) (Nat.le_trans (Nat.add_le_add_left hs _) (by decide)) l ws
    intro p e h1 h2 h3 s0 m args below hf happ hP hK
    obtain ⟨n, o, g1, g2, g3, v, L, rfl, ⟨rfl, hN⟩, hE⟩ := M p e h1 h2 h3 s0 m args below hf happ hP hK
    exact ⟨n, _, g1, g2, g3, _, L, rfl, ⟨rfl, hN⟩, ⟨hE.1, hE.2.1, hE.2.2.mono (Nat.le_trans (Nat.add_le_add_left hc _) (by decide)) (Nat.le_trans (Nat.add_le_add_left hs _) (by decide))⟩⟩
  | 3, _, eM =>
    have hA1 : holds (un x0 x1 x2 x3 0 0 3 2) A1_0 := (own_hc rfl (own_hc rfl (own_hc eq1 (own_hc eq0 own_h0))))
    have hA2 : holds (un x0 x1 x2 x3 0 0 3 2) A2_3 := (own_hc rfl (own_hc rfl (own_hc eM own_h0)))
    obtain ⟨A3, H3, c, s, hA3, hr, hc, hs⟩ := nd311 (un x0 x1 x2 x3 0 0 3 2) own_h0
    have M := cutmet (R := room_1) (av := #[.int x0, .int x1, .int x2, .int x3]) hw (hW 0 0 3 2) hA1 hA2 hA3 own_lg own_lg p1_0 p2_3 p3_0 p4_1_0 hr (by decide) rfl ⟨rfl, ⟨Nat.le_refl _, fun _ _ q => q⟩, rfl, fun i c q => by simp at q⟩ (by decide) (by decide) (Nat.le_trans (Nat.add_le_add_left hc _) (by decide)) (Nat.le_trans (Nat.add_le_add_left hs _) (by decide)) l ws
    intro p e h1 h2 h3 s0 m args below hf happ hP hK
    obtain ⟨n, o, g1, g2, g3, v, L, rfl, ⟨rfl, hN⟩, hE⟩ := M p e h1 h2 h3 s0 m args below hf happ hP hK
    exact ⟨n, _, g1, g2, g3, _, L, rfl, ⟨rfl, hN⟩, ⟨hE.1, hE.2.1, hE.2.2.mono (Nat.le_trans (Nat.add_le_add_left hc _) (by decide)) (Nat.le_trans (Nat.add_le_add_left hs _) (by decide))⟩⟩
  | _ + 4, h, _ => exact absurd h (by omega)
set_option maxRecDepth 65536 in
set_option maxHeartbeats 4000000 in
theorem pr_1 (l : Launch) (Z : State) (a0 : Array Value) (hw : ∀ d ∈ tables_1, d.before a0 Z = true) (ws : List Jvm.Cond) (x0 x1 x2 x3 : Int32) (ω : Nat → Addr) (ωe : Nat → Int32 → Value) (hW : ∀ e4 e5 e6 e7 : Int32, Wst Z a0 (wl Z x0 x1 x2 x3 e4 e5 e6 e7 ω ωe)) (eq0 : tv (un x0 x1 x2 x3 0 0 0 0) (.rem (.op2 .iand (.arg 1) (.int 2147483647)) (.int 6)) = (0 : Nat).toInt32) (eq1 : tv (un x0 x1 x2 x3 0 0 0 0) (.rem (.op2 .iand (.arg 2) (.int 2147483647)) (.int 6)) = (1 : Nat).toInt32) :
    MetFree l x (head1 (Jvm.Cond.code x code maxLocals ret :: ws) room_1) (fun a U => a = #[.int x0, .int x1, .int x2, .int x3] ∧ Z.Warmed39 U.vm ∧ U.heap = Z.heap) (fun _ _ _ _ _ => True) (fun _ U o U' => ∃ v L, o = .returned v ∧ Q0 Z.heap.size v U'.heap L ∧ FrameEnd U o U' L 64 25216) := by
  obtain ⟨m, hm, eM⟩ := own_vals (σ := (un x0 x1 x2 x3 0 0 0 0)) (a := (.op2 .iand (.op2 .iushr (.arg 3) (.int 1)) (.int 3))) (u := 3) (by decide +kernel)
  match m, hm, eM with
  | 0, _, eM =>
    have hA1 : holds (un x0 x1 x2 x3 0 1 0 0) A1_1 := (own_hc rfl (own_hc rfl (own_hc eq1 (own_hc eq0 own_h0))))
    have hA2 : holds (un x0 x1 x2 x3 0 1 0 0) A2_0 := (own_hc rfl (own_hc rfl (own_hc eM own_h0)))
    obtain ⟨A3, H3, c, s, hA3, hr, hc, hs⟩ := nd13 (un x0 x1 x2 x3 0 1 0 0) own_h0
    have M := cutmet (R := room_1) (av := #[.int x0, .int x1, .int x2, .int x3]) hw (hW 0 1 0 0) hA1 hA2 hA3 own_lg own_lg p1_1 p2_0 p3_1 p4_0_1 hr (by decide) rfl ⟨rfl, ⟨Nat.le_refl _, fun _ _ q => q⟩, rfl, fun i c q => by simp at q⟩ (by decide) (by decide) (Nat.le_trans (Nat.add_le_add_left hc _) (by decide)) (Nat.le_trans (Nat.add_le_add_left hs _) (by decide)) l ws
    intro p e h1 h2 h3 s0 m args below hf happ hP hK
    obtain ⟨n, o, g1, g2, g3, v, L, rfl, ⟨rfl, hN⟩, hE⟩ := M p e h1 h2 h3 s0 m args below hf happ hP hK
    exact ⟨n, _, g1, g2, g3, _, L, rfl, ⟨rfl, hN⟩, ⟨hE.1, hE.2.1, hE.2.2.mono (Nat.le_trans (Nat.add_le_add_left hc _) (by decide)) (Nat.le_trans (Nat.add_le_add_left hs _) (by decide))⟩⟩
  | 1, _, eM =>
    have hA1 : holds (un x0 x1 x2 x3 0 1 1 0) A1_1 := (own_hc rfl (own_hc rfl (own_hc eq1 (own_hc eq0 own_h0))))
    have hA2 : holds (un x0 x1 x2 x3 0 1 1 0) A2_1 := (own_hc rfl (own_hc rfl (own_hc eM own_h0)))
    obtain ⟨A3, H3, c, s, hA3, hr, hc, hs⟩ := nd321 (un x0 x1 x2 x3 0 1 1 0) own_h0
    have M := cutmet (R := room_1) (av := #[.int x0, .int x1, .int x2, .int x3]) hw (hW 0 1 1 0) hA1 hA2 hA3 own_lg own_lg p1_1 p2_1 p3_1 p4_1_1 hr (by decide) rfl ⟨rfl, ⟨Nat.le_refl _, fun _ _ q => q⟩, rfl, fun i c q => by simp at q⟩ (by decide) (by decide) (Nat.le_trans (Nat.add_le_add_left hc _) (by decide)) (Nat.le_trans (Nat.add_le_add_left hs _) (by decide)) l ws
    intro p e h1 h2 h3 s0 m args below hf happ hP hK
    obtain ⟨n, o, g1, g2, g3, v, L, rfl, ⟨rfl, hN⟩, hE⟩ := M p e h1 h2 h3 s0 m args below hf happ hP hK
    exact ⟨n, _, g1, g2, g3, _, L, rfl, ⟨rfl, hN⟩, ⟨hE.1, hE.2.1, hE.2.2.mono (Nat.le_trans (Nat.add_le_add_left hc _) (by decide)) (Nat.le_trans (Nat.add_le_add_left hs _) (by decide))⟩⟩
  | 2, _, eM =>
    have hA1 : holds (un x0 x1 x2 x3 0 1 2 2) A1_1 := (own_hc rfl (own_hc rfl (own_hc eq1 (own_hc eq0 own_h0))))
    have hA2 : holds (un x0 x1 x2 x3 0 1 2 2) A2_2 := (own_hc rfl (own_hc rfl (own_hc eM own_h0)))
    obtain ⟨A3, H3, c, s, hA3, hr, hc, hs⟩ := nd321 (un x0 x1 x2 x3 0 1 2 2) own_h0
    have M := cutmet (R := room_1) (av := #[.int x0, .int x1, .int x2, .int x3]) hw (hW 0 1 2 2) hA1 hA2 hA3 own_lg own_lg p1_1 p2_2 p3_1 p4_1_1 hr (by decide) rfl ⟨rfl, ⟨Nat.le_refl _, fun _ _ q => q⟩, rfl, fun i c q => by simp at q⟩ (by decide) (by decide) (Nat.le_trans (Nat.add_le_add_left hc _) (by decide)) (Nat.le_trans (Nat.add_le_add_left hs _) (by decide)) l ws
    intro p e h1 h2 h3 s0 m args below hf happ hP hK
    obtain ⟨n, o, g1, g2, g3, v, L, rfl, ⟨rfl, hN⟩, hE⟩ := M p e h1 h2 h3 s0 m args below hf happ hP hK
    exact ⟨n, _, g1, g2, g3, _, L, rfl, ⟨rfl, hN⟩, ⟨hE.1, hE.2.1, hE.2.2.mono (Nat.le_trans (Nat.add_le_add_left hc _) (by decide)) (Nat.le_trans (Nat.add_le_add_left hs _) (by decide))⟩⟩
  | 3, _, eM =>
    have hA1 : holds (un x0 x1 x2 x3 0 1 3 2) A1_1 := (own_hc rfl (own_hc rfl (own_hc eq1 (own_hc eq0 own_h0))))
    have hA2 : holds (un x0 x1 x2 x3 0 1 3 2) A2_3 := (own_hc rfl (own_hc rfl (own_hc eM own_h0)))
    obtain ⟨A3, H3, c, s, hA3, hr, hc, hs⟩ := nd321 (un x0 x1 x2 x3 0 1 3 2) own_h0
    have M := cutmet (R := room_1) (av := #[.int x0, .int x1, .int x2, .int x3]) hw (hW 0 1 3 2) hA1 hA2 hA3 own_lg own_lg p1_1 p2_3 p3_1 p4_1_1 hr (by decide) rfl ⟨rfl, ⟨Nat.le_refl _, fun _ _ q => q⟩, rfl, fun i c q => by simp at q⟩ (by decide) (by decide) (Nat.le_trans (Nat.add_le_add_left hc _) (by decide)) (Nat.le_trans (Nat.add_le_add_left hs _) (by decide)) l ws
    intro p e h1 h2 h3 s0 m args below hf happ hP hK
    obtain ⟨n, o, g1, g2, g3, v, L, rfl, ⟨rfl, hN⟩, hE⟩ := M p e h1 h2 h3 s0 m args below hf happ hP hK
    exact ⟨n, _, g1, g2, g3, _, L, rfl, ⟨rfl, hN⟩, ⟨hE.1, hE.2.1, hE.2.2.mono (Nat.le_trans (Nat.add_le_add_left hc _) (by decide)) (Nat.le_trans (Nat.add_le_add_left hs _) (by decide))⟩⟩
  | _ + 4, h, _ => exact absurd h (by omega)
set_option maxRecDepth 65536 in
set_option maxHeartbeats 4000000 in
theorem pr_2 (l : Launch) (Z : State) (a0 : Array Value) (hw : ∀ d ∈ tables_1, d.before a0 Z = true) (ws : List Jvm.Cond) (x0 x1 x2 x3 : Int32) (ω : Nat → Addr) (ωe : Nat → Int32 → Value) (hW : ∀ e4 e5 e6 e7 : Int32, Wst Z a0 (wl Z x0 x1 x2 x3 e4 e5 e6 e7 ω ωe)) (eq0 : tv (un x0 x1 x2 x3 0 0 0 0) (.rem (.op2 .iand (.arg 1) (.int 2147483647)) (.int 6)) = (0 : Nat).toInt32) (eq1 : tv (un x0 x1 x2 x3 0 0 0 0) (.rem (.op2 .iand (.arg 2) (.int 2147483647)) (.int 6)) = (2 : Nat).toInt32) :
    MetFree l x (head1 (Jvm.Cond.code x code maxLocals ret :: ws) room_1) (fun a U => a = #[.int x0, .int x1, .int x2, .int x3] ∧ Z.Warmed39 U.vm ∧ U.heap = Z.heap) (fun _ _ _ _ _ => True) (fun _ U o U' => ∃ v L, o = .returned v ∧ Q0 Z.heap.size v U'.heap L ∧ FrameEnd U o U' L 64 25216) := by
  obtain ⟨m, hm, eM⟩ := own_vals (σ := (un x0 x1 x2 x3 0 0 0 0)) (a := (.op2 .iand (.op2 .iushr (.arg 3) (.int 1)) (.int 3))) (u := 3) (by decide +kernel)
  match m, hm, eM with
  | 0, _, eM =>
    have hA1 : holds (un x0 x1 x2 x3 0 2 0 0) A1_2 := (own_hc rfl (own_hc rfl (own_hc eq1 (own_hc eq0 own_h0))))
    have hA2 : holds (un x0 x1 x2 x3 0 2 0 0) A2_0 := (own_hc rfl (own_hc rfl (own_hc eM own_h0)))
    obtain ⟨A3, H3, c, s, hA3, hr, hc, hs⟩ := nd30 (un x0 x1 x2 x3 0 2 0 0) own_h0
    have M := cutmet (R := room_1) (av := #[.int x0, .int x1, .int x2, .int x3]) hw (hW 0 2 0 0) hA1 hA2 hA3 own_lg own_lg p1_2 p2_0 p3_2 p4_0_2 hr (by decide) rfl ⟨rfl, ⟨Nat.le_refl _, fun _ _ q => q⟩, rfl, fun i c q => by simp at q⟩ (by decide) (by decide) (Nat.le_trans (Nat.add_le_add_left hc _) (by decide)) (Nat.le_trans (Nat.add_le_add_left hs _) (by decide)) l ws
    intro p e h1 h2 h3 s0 m args below hf happ hP hK
    obtain ⟨n, o, g1, g2, g3, v, L, rfl, ⟨rfl, hN⟩, hE⟩ := M p e h1 h2 h3 s0 m args below hf happ hP hK
    exact ⟨n, _, g1, g2, g3, _, L, rfl, ⟨rfl, hN⟩, ⟨hE.1, hE.2.1, hE.2.2.mono (Nat.le_trans (Nat.add_le_add_left hc _) (by decide)) (Nat.le_trans (Nat.add_le_add_left hs _) (by decide))⟩⟩
  | 1, _, eM =>
    have hA1 : holds (un x0 x1 x2 x3 0 2 1 0) A1_2 := (own_hc rfl (own_hc rfl (own_hc eq1 (own_hc eq0 own_h0))))
    have hA2 : holds (un x0 x1 x2 x3 0 2 1 0) A2_1 := (own_hc rfl (own_hc rfl (own_hc eM own_h0)))
    obtain ⟨A3, H3, c, s, hA3, hr, hc, hs⟩ := nd338 (un x0 x1 x2 x3 0 2 1 0) own_h0
    have M := cutmet (R := room_1) (av := #[.int x0, .int x1, .int x2, .int x3]) hw (hW 0 2 1 0) hA1 hA2 hA3 own_lg own_lg p1_2 p2_1 p3_2 p4_1_2 hr (by decide) rfl ⟨rfl, ⟨Nat.le_refl _, fun _ _ q => q⟩, rfl, fun i c q => by simp at q⟩ (by decide) (by decide) (Nat.le_trans (Nat.add_le_add_left hc _) (by decide)) (Nat.le_trans (Nat.add_le_add_left hs _) (by decide)) l ws
    intro p e h1 h2 h3 s0 m args below hf happ hP hK
    obtain ⟨n, o, g1, g2, g3, v, L, rfl, ⟨rfl, hN⟩, hE⟩ := M p e h1 h2 h3 s0 m args below hf happ hP hK
    exact ⟨n, _, g1, g2, g3, _, L, rfl, ⟨rfl, hN⟩, ⟨hE.1, hE.2.1, hE.2.2.mono (Nat.le_trans (Nat.add_le_add_left hc _) (by decide)) (Nat.le_trans (Nat.add_le_add_left hs _) (by decide))⟩⟩
  | 2, _, eM =>
    have hA1 : holds (un x0 x1 x2 x3 0 2 2 2) A1_2 := (own_hc rfl (own_hc rfl (own_hc eq1 (own_hc eq0 own_h0))))
    have hA2 : holds (un x0 x1 x2 x3 0 2 2 2) A2_2 := (own_hc rfl (own_hc rfl (own_hc eM own_h0)))
    obtain ⟨A3, H3, c, s, hA3, hr, hc, hs⟩ := nd338 (un x0 x1 x2 x3 0 2 2 2) own_h0
    have M := cutmet (R := room_1) (av := #[.int x0, .int x1, .int x2, .int x3]) hw (hW 0 2 2 2) hA1 hA2 hA3 own_lg own_lg p1_2 p2_2 p3_2 p4_1_2 hr (by decide) rfl ⟨rfl, ⟨Nat.le_refl _, fun _ _ q => q⟩, rfl, fun i c q => by simp at q⟩ (by decide) (by decide) (Nat.le_trans (Nat.add_le_add_left hc _) (by decide)) (Nat.le_trans (Nat.add_le_add_left hs _) (by decide)) l ws
    intro p e h1 h2 h3 s0 m args below hf happ hP hK
    obtain ⟨n, o, g1, g2, g3, v, L, rfl, ⟨rfl, hN⟩, hE⟩ := M p e h1 h2 h3 s0 m args below hf happ hP hK
    exact ⟨n, _, g1, g2, g3, _, L, rfl, ⟨rfl, hN⟩, ⟨hE.1, hE.2.1, hE.2.2.mono (Nat.le_trans (Nat.add_le_add_left hc _) (by decide)) (Nat.le_trans (Nat.add_le_add_left hs _) (by decide))⟩⟩
  | 3, _, eM =>
    have hA1 : holds (un x0 x1 x2 x3 0 2 3 2) A1_2 := (own_hc rfl (own_hc rfl (own_hc eq1 (own_hc eq0 own_h0))))
    have hA2 : holds (un x0 x1 x2 x3 0 2 3 2) A2_3 := (own_hc rfl (own_hc rfl (own_hc eM own_h0)))
    obtain ⟨A3, H3, c, s, hA3, hr, hc, hs⟩ := nd338 (un x0 x1 x2 x3 0 2 3 2) own_h0
    have M := cutmet (R := room_1) (av := #[.int x0, .int x1, .int x2, .int x3]) hw (hW 0 2 3 2) hA1 hA2 hA3 own_lg own_lg p1_2 p2_3 p3_2 p4_1_2 hr (by decide) rfl ⟨rfl, ⟨Nat.le_refl _, fun _ _ q => q⟩, rfl, fun i c q => by simp at q⟩ (by decide) (by decide) (Nat.le_trans (Nat.add_le_add_left hc _) (by decide)) (Nat.le_trans (Nat.add_le_add_left hs _) (by decide)) l ws
    intro p e h1 h2 h3 s0 m args below hf happ hP hK
    obtain ⟨n, o, g1, g2, g3, v, L, rfl, ⟨rfl, hN⟩, hE⟩ := M p e h1 h2 h3 s0 m args below hf happ hP hK
    exact ⟨n, _, g1, g2, g3, _, L, rfl, ⟨rfl, hN⟩, ⟨hE.1, hE.2.1, hE.2.2.mono (Nat.le_trans (Nat.add_le_add_left hc _) (by decide)) (Nat.le_trans (Nat.add_le_add_left hs _) (by decide))⟩⟩
  | _ + 4, h, _ => exact absurd h (by omega)
set_option maxRecDepth 65536 in
set_option maxHeartbeats 4000000 in
theorem pr_3 (l : Launch) (Z : State) (a0 : Array Value) (hw : ∀ d ∈ tables_1, d.before a0 Z = true) (ws : List Jvm.Cond) (x0 x1 x2 x3 : Int32) (ω : Nat → Addr) (ωe : Nat → Int32 → Value) (hW : ∀ e4 e5 e6 e7 : Int32, Wst Z a0 (wl Z x0 x1 x2 x3 e4 e5 e6 e7 ω ωe)) (eq0 : tv (un x0 x1 x2 x3 0 0 0 0) (.rem (.op2 .iand (.arg 1) (.int 2147483647)) (.int 6)) = (0 : Nat).toInt32) (eq1 : tv (un x0 x1 x2 x3 0 0 0 0) (.rem (.op2 .iand (.arg 2) (.int 2147483647)) (.int 6)) = (3 : Nat).toInt32) :
    MetFree l x (head1 (Jvm.Cond.code x code maxLocals ret :: ws) room_1) (fun a U => a = #[.int x0, .int x1, .int x2, .int x3] ∧ Z.Warmed39 U.vm ∧ U.heap = Z.heap) (fun _ _ _ _ _ => True) (fun _ U o U' => ∃ v L, o = .returned v ∧ Q0 Z.heap.size v U'.heap L ∧ FrameEnd U o U' L 64 25216) := by
  obtain ⟨m, hm, eM⟩ := own_vals (σ := (un x0 x1 x2 x3 0 0 0 0)) (a := (.op2 .iand (.op2 .iushr (.arg 3) (.int 1)) (.int 3))) (u := 3) (by decide +kernel)
  match m, hm, eM with
  | 0, _, eM =>
    have hA1 : holds (un x0 x1 x2 x3 0 3 0 0) A1_3 := (own_hc rfl (own_hc rfl (own_hc eq1 (own_hc eq0 own_h0))))
    have hA2 : holds (un x0 x1 x2 x3 0 3 0 0) A2_0 := (own_hc rfl (own_hc rfl (own_hc eM own_h0)))
    obtain ⟨A3, H3, c, s, hA3, hr, hc, hs⟩ := nd54 (un x0 x1 x2 x3 0 3 0 0) own_h0
    have M := cutmet (R := room_1) (av := #[.int x0, .int x1, .int x2, .int x3]) hw (hW 0 3 0 0) hA1 hA2 hA3 own_lg own_lg p1_3 p2_0 p3_3 p4_0_3 hr (by decide) rfl ⟨rfl, ⟨Nat.le_refl _, fun _ _ q => q⟩, rfl, fun i c q => by simp at q⟩ (by decide) (by decide) (Nat.le_trans (Nat.add_le_add_left hc _) (by decide)) (Nat.le_trans (Nat.add_le_add_left hs _) (by decide)) l ws
    intro p e h1 h2 h3 s0 m args below hf happ hP hK
    obtain ⟨n, o, g1, g2, g3, v, L, rfl, ⟨rfl, hN⟩, hE⟩ := M p e h1 h2 h3 s0 m args below hf happ hP hK
    exact ⟨n, _, g1, g2, g3, _, L, rfl, ⟨rfl, hN⟩, ⟨hE.1, hE.2.1, hE.2.2.mono (Nat.le_trans (Nat.add_le_add_left hc _) (by decide)) (Nat.le_trans (Nat.add_le_add_left hs _) (by decide))⟩⟩
  | 1, _, eM =>
    have hA1 : holds (un x0 x1 x2 x3 0 3 1 0) A1_3 := (own_hc rfl (own_hc rfl (own_hc eq1 (own_hc eq0 own_h0))))
    have hA2 : holds (un x0 x1 x2 x3 0 3 1 0) A2_1 := (own_hc rfl (own_hc rfl (own_hc eM own_h0)))
    obtain ⟨A3, H3, c, s, hA3, hr, hc, hs⟩ := nd362 (un x0 x1 x2 x3 0 3 1 0) own_h0
    have M := cutmet (R := room_1) (av := #[.int x0, .int x1, .int x2, .int x3]) hw (hW 0 3 1 0) hA1 hA2 hA3 own_lg own_lg p1_3 p2_1 p3_3 p4_1_3 hr (by decide) rfl ⟨rfl, ⟨Nat.le_refl _, fun _ _ q => q⟩, rfl, fun i c q => by simp at q⟩ (by decide) (by decide) (Nat.le_trans (Nat.add_le_add_left hc _) (by decide)) (Nat.le_trans (Nat.add_le_add_left hs _) (by decide)) l ws
    intro p e h1 h2 h3 s0 m args below hf happ hP hK
    obtain ⟨n, o, g1, g2, g3, v, L, rfl, ⟨rfl, hN⟩, hE⟩ := M p e h1 h2 h3 s0 m args below hf happ hP hK
    exact ⟨n, _, g1, g2, g3, _, L, rfl, ⟨rfl, hN⟩, ⟨hE.1, hE.2.1, hE.2.2.mono (Nat.le_trans (Nat.add_le_add_left hc _) (by decide)) (Nat.le_trans (Nat.add_le_add_left hs _) (by decide))⟩⟩
  | 2, _, eM =>
    have hA1 : holds (un x0 x1 x2 x3 0 3 2 2) A1_3 := (own_hc rfl (own_hc rfl (own_hc eq1 (own_hc eq0 own_h0))))
    have hA2 : holds (un x0 x1 x2 x3 0 3 2 2) A2_2 := (own_hc rfl (own_hc rfl (own_hc eM own_h0)))
    obtain ⟨A3, H3, c, s, hA3, hr, hc, hs⟩ := nd362 (un x0 x1 x2 x3 0 3 2 2) own_h0
    have M := cutmet (R := room_1) (av := #[.int x0, .int x1, .int x2, .int x3]) hw (hW 0 3 2 2) hA1 hA2 hA3 own_lg own_lg p1_3 p2_2 p3_3 p4_1_3 hr (by decide) rfl ⟨rfl, ⟨Nat.le_refl _, fun _ _ q => q⟩, rfl, fun i c q => by simp at q⟩ (by decide) (by decide) (Nat.le_trans (Nat.add_le_add_left hc _) (by decide)) (Nat.le_trans (Nat.add_le_add_left hs _) (by decide)) l ws
    intro p e h1 h2 h3 s0 m args below hf happ hP hK
    obtain ⟨n, o, g1, g2, g3, v, L, rfl, ⟨rfl, hN⟩, hE⟩ := M p e h1 h2 h3 s0 m args below hf happ hP hK
    exact ⟨n, _, g1, g2, g3, _, L, rfl, ⟨rfl, hN⟩, ⟨hE.1, hE.2.1, hE.2.2.mono (Nat.le_trans (Nat.add_le_add_left hc _) (by decide)) (Nat.le_trans (Nat.add_le_add_left hs _) (by decide))⟩⟩
  | 3, _, eM =>
    have hA1 : holds (un x0 x1 x2 x3 0 3 3 2) A1_3 := (own_hc rfl (own_hc rfl (own_hc eq1 (own_hc eq0 own_h0))))
    have hA2 : holds (un x0 x1 x2 x3 0 3 3 2) A2_3 := (own_hc rfl (own_hc rfl (own_hc eM own_h0)))
    obtain ⟨A3, H3, c, s, hA3, hr, hc, hs⟩ := nd362 (un x0 x1 x2 x3 0 3 3 2) own_h0
    have M := cutmet (R := room_1) (av := #[.int x0, .int x1, .int x2, .int x3]) hw (hW 0 3 3 2) hA1 hA2 hA3 own_lg own_lg p1_3 p2_3 p3_3 p4_1_3 hr (by decide) rfl ⟨rfl, ⟨Nat.le_refl _, fun _ _ q => q⟩, rfl, fun i c q => by simp at q⟩ (by decide) (by decide) (Nat.le_trans (Nat.add_le_add_left hc _) (by decide)) (Nat.le_trans (Nat.add_le_add_left hs _) (by decide)) l ws
    intro p e h1 h2 h3 s0 m args below hf happ hP hK
    obtain ⟨n, o, g1, g2, g3, v, L, rfl, ⟨rfl, hN⟩, hE⟩ := M p e h1 h2 h3 s0 m args below hf happ hP hK
    exact ⟨n, _, g1, g2, g3, _, L, rfl, ⟨rfl, hN⟩, ⟨hE.1, hE.2.1, hE.2.2.mono (Nat.le_trans (Nat.add_le_add_left hc _) (by decide)) (Nat.le_trans (Nat.add_le_add_left hs _) (by decide))⟩⟩
  | _ + 4, h, _ => exact absurd h (by omega)
set_option maxRecDepth 65536 in
set_option maxHeartbeats 4000000 in
theorem pr_4 (l : Launch) (Z : State) (a0 : Array Value) (hw : ∀ d ∈ tables_1, d.before a0 Z = true) (ws : List Jvm.Cond) (x0 x1 x2 x3 : Int32) (ω : Nat → Addr) (ωe : Nat → Int32 → Value) (hW : ∀ e4 e5 e6 e7 : Int32, Wst Z a0 (wl Z x0 x1 x2 x3 e4 e5 e6 e7 ω ωe)) (eq0 : tv (un x0 x1 x2 x3 0 0 0 0) (.rem (.op2 .iand (.arg 1) (.int 2147483647)) (.int 6)) = (0 : Nat).toInt32) (eq1 : tv (un x0 x1 x2 x3 0 0 0 0) (.rem (.op2 .iand (.arg 2) (.int 2147483647)) (.int 6)) = (4 : Nat).toInt32) :
    MetFree l x (head1 (Jvm.Cond.code x code maxLocals ret :: ws) room_1) (fun a U => a = #[.int x0, .int x1, .int x2, .int x3] ∧ Z.Warmed39 U.vm ∧ U.heap = Z.heap) (fun _ _ _ _ _ => True) (fun _ U o U' => ∃ v L, o = .returned v ∧ Q0 Z.heap.size v U'.heap L ∧ FrameEnd U o U' L 64 25216) := by
  obtain ⟨m, hm, eM⟩ := own_vals (σ := (un x0 x1 x2 x3 0 0 0 0)) (a := (.op2 .iand (.op2 .iushr (.arg 3) (.int 1)) (.int 3))) (u := 3) (by decide +kernel)
  match m, hm, eM with
  | 0, _, eM =>
    have hA1 : holds (un x0 x1 x2 x3 0 4 0 0) A1_4 := (own_hc rfl (own_hc rfl (own_hc eq1 (own_hc eq0 own_h0))))
    have hA2 : holds (un x0 x1 x2 x3 0 4 0 0) A2_0 := (own_hc rfl (own_hc rfl (own_hc eM own_h0)))
    obtain ⟨A3, H3, c, s, hA3, hr, hc, hs⟩ := nd85 (un x0 x1 x2 x3 0 4 0 0) own_h0
    have M := cutmet (R := room_1) (av := #[.int x0, .int x1, .int x2, .int x3]) hw (hW 0 4 0 0) hA1 hA2 hA3 own_lg own_lg p1_4 p2_0 p3_4 p4_0_4 hr (by decide) rfl ⟨rfl, ⟨Nat.le_refl _, fun _ _ q => q⟩, rfl, fun i c q => by simp at q⟩ (by decide) (by decide) (Nat.le_trans (Nat.add_le_add_left hc _) (by decide)) (Nat.le_trans (Nat.add_le_add_left hs _) (by decide)) l ws
    intro p e h1 h2 h3 s0 m args below hf happ hP hK
    obtain ⟨n, o, g1, g2, g3, v, L, rfl, ⟨rfl, hN⟩, hE⟩ := M p e h1 h2 h3 s0 m args below hf happ hP hK
    exact ⟨n, _, g1, g2, g3, _, L, rfl, ⟨rfl, hN⟩, ⟨hE.1, hE.2.1, hE.2.2.mono (Nat.le_trans (Nat.add_le_add_left hc _) (by decide)) (Nat.le_trans (Nat.add_le_add_left hs _) (by decide))⟩⟩
  | 1, _, eM =>
    have hA1 : holds (un x0 x1 x2 x3 0 4 1 0) A1_4 := (own_hc rfl (own_hc rfl (own_hc eq1 (own_hc eq0 own_h0))))
    have hA2 : holds (un x0 x1 x2 x3 0 4 1 0) A2_1 := (own_hc rfl (own_hc rfl (own_hc eM own_h0)))
    obtain ⟨A3, H3, c, s, hA3, hr, hc, hs⟩ := nd393 (un x0 x1 x2 x3 0 4 1 0) own_h0
    have M := cutmet (R := room_1) (av := #[.int x0, .int x1, .int x2, .int x3]) hw (hW 0 4 1 0) hA1 hA2 hA3 own_lg own_lg p1_4 p2_1 p3_4 p4_1_4 hr (by decide) rfl ⟨rfl, ⟨Nat.le_refl _, fun _ _ q => q⟩, rfl, fun i c q => by simp at q⟩ (by decide) (by decide) (Nat.le_trans (Nat.add_le_add_left hc _) (by decide)) (Nat.le_trans (Nat.add_le_add_left hs _) (by decide)) l ws
    intro p e h1 h2 h3 s0 m args below hf happ hP hK
    obtain ⟨n, o, g1, g2, g3, v, L, rfl, ⟨rfl, hN⟩, hE⟩ := M p e h1 h2 h3 s0 m args below hf happ hP hK
    exact ⟨n, _, g1, g2, g3, _, L, rfl, ⟨rfl, hN⟩, ⟨hE.1, hE.2.1, hE.2.2.mono (Nat.le_trans (Nat.add_le_add_left hc _) (by decide)) (Nat.le_trans (Nat.add_le_add_left hs _) (by decide))⟩⟩
  | 2, _, eM =>
    have hA1 : holds (un x0 x1 x2 x3 0 4 2 2) A1_4 := (own_hc rfl (own_hc rfl (own_hc eq1 (own_hc eq0 own_h0))))
    have hA2 : holds (un x0 x1 x2 x3 0 4 2 2) A2_2 := (own_hc rfl (own_hc rfl (own_hc eM own_h0)))
    obtain ⟨A3, H3, c, s, hA3, hr, hc, hs⟩ := nd393 (un x0 x1 x2 x3 0 4 2 2) own_h0
    have M := cutmet (R := room_1) (av := #[.int x0, .int x1, .int x2, .int x3]) hw (hW 0 4 2 2) hA1 hA2 hA3 own_lg own_lg p1_4 p2_2 p3_4 p4_1_4 hr (by decide) rfl ⟨rfl, ⟨Nat.le_refl _, fun _ _ q => q⟩, rfl, fun i c q => by simp at q⟩ (by decide) (by decide) (Nat.le_trans (Nat.add_le_add_left hc _) (by decide)) (Nat.le_trans (Nat.add_le_add_left hs _) (by decide)) l ws
    intro p e h1 h2 h3 s0 m args below hf happ hP hK
    obtain ⟨n, o, g1, g2, g3, v, L, rfl, ⟨rfl, hN⟩, hE⟩ := M p e h1 h2 h3 s0 m args below hf happ hP hK
    exact ⟨n, _, g1, g2, g3, _, L, rfl, ⟨rfl, hN⟩, ⟨hE.1, hE.2.1, hE.2.2.mono (Nat.le_trans (Nat.add_le_add_left hc _) (by decide)) (Nat.le_trans (Nat.add_le_add_left hs _) (by decide))⟩⟩
  | 3, _, eM =>
    have hA1 : holds (un x0 x1 x2 x3 0 4 3 2) A1_4 := (own_hc rfl (own_hc rfl (own_hc eq1 (own_hc eq0 own_h0))))
    have hA2 : holds (un x0 x1 x2 x3 0 4 3 2) A2_3 := (own_hc rfl (own_hc rfl (own_hc eM own_h0)))
    obtain ⟨A3, H3, c, s, hA3, hr, hc, hs⟩ := nd393 (un x0 x1 x2 x3 0 4 3 2) own_h0
    have M := cutmet (R := room_1) (av := #[.int x0, .int x1, .int x2, .int x3]) hw (hW 0 4 3 2) hA1 hA2 hA3 own_lg own_lg p1_4 p2_3 p3_4 p4_1_4 hr (by decide) rfl ⟨rfl, ⟨Nat.le_refl _, fun _ _ q => q⟩, rfl, fun i c q => by simp at q⟩ (by decide) (by decide) (Nat.le_trans (Nat.add_le_add_left hc _) (by decide)) (Nat.le_trans (Nat.add_le_add_left hs _) (by decide)) l ws
    intro p e h1 h2 h3 s0 m args below hf happ hP hK
    obtain ⟨n, o, g1, g2, g3, v, L, rfl, ⟨rfl, hN⟩, hE⟩ := M p e h1 h2 h3 s0 m args below hf happ hP hK
    exact ⟨n, _, g1, g2, g3, _, L, rfl, ⟨rfl, hN⟩, ⟨hE.1, hE.2.1, hE.2.2.mono (Nat.le_trans (Nat.add_le_add_left hc _) (by decide)) (Nat.le_trans (Nat.add_le_add_left hs _) (by decide))⟩⟩
  | _ + 4, h, _ => exact absurd h (by omega)
set_option maxRecDepth 65536 in
set_option maxHeartbeats 4000000 in
theorem pr_5 (l : Launch) (Z : State) (a0 : Array Value) (hw : ∀ d ∈ tables_1, d.before a0 Z = true) (ws : List Jvm.Cond) (x0 x1 x2 x3 : Int32) (ω : Nat → Addr) (ωe : Nat → Int32 → Value) (hW : ∀ e4 e5 e6 e7 : Int32, Wst Z a0 (wl Z x0 x1 x2 x3 e4 e5 e6 e7 ω ωe)) (eq0 : tv (un x0 x1 x2 x3 0 0 0 0) (.rem (.op2 .iand (.arg 1) (.int 2147483647)) (.int 6)) = (0 : Nat).toInt32) (eq1 : tv (un x0 x1 x2 x3 0 0 0 0) (.rem (.op2 .iand (.arg 2) (.int 2147483647)) (.int 6)) = (5 : Nat).toInt32) :
    MetFree l x (head1 (Jvm.Cond.code x code maxLocals ret :: ws) room_1) (fun a U => a = #[.int x0, .int x1, .int x2, .int x3] ∧ Z.Warmed39 U.vm ∧ U.heap = Z.heap) (fun _ _ _ _ _ => True) (fun _ U o U' => ∃ v L, o = .returned v ∧ Q0 Z.heap.size v U'.heap L ∧ FrameEnd U o U' L 64 25216) := by
  obtain ⟨m, hm, eM⟩ := own_vals (σ := (un x0 x1 x2 x3 0 0 0 0)) (a := (.op2 .iand (.op2 .iushr (.arg 3) (.int 1)) (.int 3))) (u := 3) (by decide +kernel)
  match m, hm, eM with
  | 0, _, eM =>
    have hA1 : holds (un x0 x1 x2 x3 0 5 0 0) A1_5 := (own_hc rfl (own_hc rfl (own_hc eq1 (own_hc eq0 own_h0))))
    have hA2 : holds (un x0 x1 x2 x3 0 5 0 0) A2_0 := (own_hc rfl (own_hc rfl (own_hc eM own_h0)))
    obtain ⟨A3, H3, c, s, hA3, hr, hc, hs⟩ := nd123 (un x0 x1 x2 x3 0 5 0 0) own_h0
    have M := cutmet (R := room_1) (av := #[.int x0, .int x1, .int x2, .int x3]) hw (hW 0 5 0 0) hA1 hA2 hA3 own_lg own_lg p1_5 p2_0 p3_5 p4_0_5 hr (by decide) rfl ⟨rfl, ⟨Nat.le_refl _, fun _ _ q => q⟩, rfl, fun i c q => by simp at q⟩ (by decide) (by decide) (Nat.le_trans (Nat.add_le_add_left hc _) (by decide)) (Nat.le_trans (Nat.add_le_add_left hs _) (by decide)) l ws
    intro p e h1 h2 h3 s0 m args below hf happ hP hK
    obtain ⟨n, o, g1, g2, g3, v, L, rfl, ⟨rfl, hN⟩, hE⟩ := M p e h1 h2 h3 s0 m args below hf happ hP hK
    exact ⟨n, _, g1, g2, g3, _, L, rfl, ⟨rfl, hN⟩, ⟨hE.1, hE.2.1, hE.2.2.mono (Nat.le_trans (Nat.add_le_add_left hc _) (by decide)) (Nat.le_trans (Nat.add_le_add_left hs _) (by decide))⟩⟩
  | 1, _, eM =>
    have hA1 : holds (un x0 x1 x2 x3 0 5 1 0) A1_5 := (own_hc rfl (own_hc rfl (own_hc eq1 (own_hc eq0 own_h0))))
    have hA2 : holds (un x0 x1 x2 x3 0 5 1 0) A2_1 := (own_hc rfl (own_hc rfl (own_hc eM own_h0)))
    obtain ⟨A3, H3, c, s, hA3, hr, hc, hs⟩ := nd431 (un x0 x1 x2 x3 0 5 1 0) own_h0
    have M := cutmet (R := room_1) (av := #[.int x0, .int x1, .int x2, .int x3]) hw (hW 0 5 1 0) hA1 hA2 hA3 own_lg own_lg p1_5 p2_1 p3_5 p4_1_5 hr (by decide) rfl ⟨rfl, ⟨Nat.le_refl _, fun _ _ q => q⟩, rfl, fun i c q => by simp at q⟩ (by decide) (by decide) (Nat.le_trans (Nat.add_le_add_left hc _) (by decide)) (Nat.le_trans (Nat.add_le_add_left hs _) (by decide)) l ws
    intro p e h1 h2 h3 s0 m args below hf happ hP hK
    obtain ⟨n, o, g1, g2, g3, v, L, rfl, ⟨rfl, hN⟩, hE⟩ := M p e h1 h2 h3 s0 m args below hf happ hP hK
    exact ⟨n, _, g1, g2, g3, _, L, rfl, ⟨rfl, hN⟩, ⟨hE.1, hE.2.1, hE.2.2.mono (Nat.le_trans (Nat.add_le_add_left hc _) (by decide)) (Nat.le_trans (Nat.add_le_add_left hs _) (by decide))⟩⟩
  | 2, _, eM =>
    have hA1 : holds (un x0 x1 x2 x3 0 5 2 2) A1_5 := (own_hc rfl (own_hc rfl (own_hc eq1 (own_hc eq0 own_h0))))
    have hA2 : holds (un x0 x1 x2 x3 0 5 2 2) A2_2 := (own_hc rfl (own_hc rfl (own_hc eM own_h0)))
    obtain ⟨A3, H3, c, s, hA3, hr, hc, hs⟩ := nd431 (un x0 x1 x2 x3 0 5 2 2) own_h0
    have M := cutmet (R := room_1) (av := #[.int x0, .int x1, .int x2, .int x3]) hw (hW 0 5 2 2) hA1 hA2 hA3 own_lg own_lg p1_5 p2_2 p3_5 p4_1_5 hr (by decide) rfl ⟨rfl, ⟨Nat.le_refl _, fun _ _ q => q⟩, rfl, fun i c q => by simp at q⟩ (by decide) (by decide) (Nat.le_trans (Nat.add_le_add_left hc _) (by decide)) (Nat.le_trans (Nat.add_le_add_left hs _) (by decide)) l ws
    intro p e h1 h2 h3 s0 m args below hf happ hP hK
    obtain ⟨n, o, g1, g2, g3, v, L, rfl, ⟨rfl, hN⟩, hE⟩ := M p e h1 h2 h3 s0 m args below hf happ hP hK
    exact ⟨n, _, g1, g2, g3, _, L, rfl, ⟨rfl, hN⟩, ⟨hE.1, hE.2.1, hE.2.2.mono (Nat.le_trans (Nat.add_le_add_left hc _) (by decide)) (Nat.le_trans (Nat.add_le_add_left hs _) (by decide))⟩⟩
  | 3, _, eM =>
    have hA1 : holds (un x0 x1 x2 x3 0 5 3 2) A1_5 := (own_hc rfl (own_hc rfl (own_hc eq1 (own_hc eq0 own_h0))))
    have hA2 : holds (un x0 x1 x2 x3 0 5 3 2) A2_3 := (own_hc rfl (own_hc rfl (own_hc eM own_h0)))
    obtain ⟨A3, H3, c, s, hA3, hr, hc, hs⟩ := nd431 (un x0 x1 x2 x3 0 5 3 2) own_h0
    have M := cutmet (R := room_1) (av := #[.int x0, .int x1, .int x2, .int x3]) hw (hW 0 5 3 2) hA1 hA2 hA3 own_lg own_lg p1_5 p2_3 p3_5 p4_1_5 hr (by decide) rfl ⟨rfl, ⟨Nat.le_refl _, fun _ _ q => q⟩, rfl, fun i c q => by simp at q⟩ (by decide) (by decide) (Nat.le_trans (Nat.add_le_add_left hc _) (by decide)) (Nat.le_trans (Nat.add_le_add_left hs _) (by decide)) l ws
    intro p e h1 h2 h3 s0 m args below hf happ hP hK
    obtain ⟨n, o, g1, g2, g3, v, L, rfl, ⟨rfl, hN⟩, hE⟩ := M p e h1 h2 h3 s0 m args below hf happ hP hK
    exact ⟨n, _, g1, g2, g3, _, L, rfl, ⟨rfl, hN⟩, ⟨hE.1, hE.2.1, hE.2.2.mono (Nat.le_trans (Nat.add_le_add_left hc _) (by decide)) (Nat.le_trans (Nat.add_le_add_left hs _) (by decide))⟩⟩
  | _ + 4, h, _ => exact absurd h (by omega)
set_option maxRecDepth 65536 in
set_option maxHeartbeats 4000000 in
theorem pr_6 (l : Launch) (Z : State) (a0 : Array Value) (hw : ∀ d ∈ tables_1, d.before a0 Z = true) (ws : List Jvm.Cond) (x0 x1 x2 x3 : Int32) (ω : Nat → Addr) (ωe : Nat → Int32 → Value) (hW : ∀ e4 e5 e6 e7 : Int32, Wst Z a0 (wl Z x0 x1 x2 x3 e4 e5 e6 e7 ω ωe)) (eq0 : tv (un x0 x1 x2 x3 0 0 0 0) (.rem (.op2 .iand (.arg 1) (.int 2147483647)) (.int 6)) = (1 : Nat).toInt32) (eq1 : tv (un x0 x1 x2 x3 0 0 0 0) (.rem (.op2 .iand (.arg 2) (.int 2147483647)) (.int 5)) = (0 : Nat).toInt32) :
    MetFree l x (head1 (Jvm.Cond.code x code maxLocals ret :: ws) room_1) (fun a U => a = #[.int x0, .int x1, .int x2, .int x3] ∧ Z.Warmed39 U.vm ∧ U.heap = Z.heap) (fun _ _ _ _ _ => True) (fun _ U o U' => ∃ v L, o = .returned v ∧ Q0 Z.heap.size v U'.heap L ∧ FrameEnd U o U' L 64 25216) := by
  obtain ⟨m, hm, eM⟩ := own_vals (σ := (un x0 x1 x2 x3 0 0 0 0)) (a := (.op2 .iand (.op2 .iushr (.arg 3) (.int 1)) (.int 3))) (u := 3) (by decide +kernel)
  match m, hm, eM with
  | 0, _, eM =>
    have hA1 : holds (un x0 x1 x2 x3 1 1 0 0) A1_6 := (own_hc rfl (own_hc rfl (own_hc eq1 (own_hc eq0 own_h0))))
    have hA2 : holds (un x0 x1 x2 x3 1 1 0 0) A2_0 := (own_hc rfl (own_hc rfl (own_hc eM own_h0)))
    obtain ⟨A3, H3, c, s, hA3, hr, hc, hs⟩ := nd126 (un x0 x1 x2 x3 1 1 0 0) own_h0
    have M := cutmet (R := room_1) (av := #[.int x0, .int x1, .int x2, .int x3]) hw (hW 1 1 0 0) hA1 hA2 hA3 own_lg own_lg p1_6 p2_0 p3_6 p4_0_6 hr (by decide) rfl ⟨rfl, ⟨Nat.le_refl _, fun _ _ q => q⟩, rfl, fun i c q => by simp at q⟩ (by decide) (by decide) (Nat.le_trans (Nat.add_le_add_left hc _) (by decide)) (Nat.le_trans (Nat.add_le_add_left hs _) (by decide)) l ws
    intro p e h1 h2 h3 s0 m args below hf happ hP hK
    obtain ⟨n, o, g1, g2, g3, v, L, rfl, ⟨rfl, hN⟩, hE⟩ := M p e h1 h2 h3 s0 m args below hf happ hP hK
    exact ⟨n, _, g1, g2, g3, _, L, rfl, ⟨rfl, hN⟩, ⟨hE.1, hE.2.1, hE.2.2.mono (Nat.le_trans (Nat.add_le_add_left hc _) (by decide)) (Nat.le_trans (Nat.add_le_add_left hs _) (by decide))⟩⟩
  | 1, _, eM =>
    have hA1 : holds (un x0 x1 x2 x3 1 1 1 0) A1_6 := (own_hc rfl (own_hc rfl (own_hc eq1 (own_hc eq0 own_h0))))
    have hA2 : holds (un x0 x1 x2 x3 1 1 1 0) A2_1 := (own_hc rfl (own_hc rfl (own_hc eM own_h0)))
    obtain ⟨A3, H3, c, s, hA3, hr, hc, hs⟩ := nd434 (un x0 x1 x2 x3 1 1 1 0) own_h0
    have M := cutmet (R := room_1) (av := #[.int x0, .int x1, .int x2, .int x3]) hw (hW 1 1 1 0) hA1 hA2 hA3 own_lg own_lg p1_6 p2_1 p3_6 p4_1_6 hr (by decide) rfl ⟨rfl, ⟨Nat.le_refl _, fun _ _ q => q⟩, rfl, fun i c q => by simp at q⟩ (by decide) (by decide) (Nat.le_trans (Nat.add_le_add_left hc _) (by decide)) (Nat.le_trans (Nat.add_le_add_left hs _) (by decide)) l ws
    intro p e h1 h2 h3 s0 m args below hf happ hP hK
    obtain ⟨n, o, g1, g2, g3, v, L, rfl, ⟨rfl, hN⟩, hE⟩ := M p e h1 h2 h3 s0 m args below hf happ hP hK
    exact ⟨n, _, g1, g2, g3, _, L, rfl, ⟨rfl, hN⟩, ⟨hE.1, hE.2.1, hE.2.2.mono (Nat.le_trans (Nat.add_le_add_left hc _) (by decide)) (Nat.le_trans (Nat.add_le_add_left hs _) (by decide))⟩⟩
  | 2, _, eM =>
    have hA1 : holds (un x0 x1 x2 x3 1 1 2 2) A1_6 := (own_hc rfl (own_hc rfl (own_hc eq1 (own_hc eq0 own_h0))))
    have hA2 : holds (un x0 x1 x2 x3 1 1 2 2) A2_2 := (own_hc rfl (own_hc rfl (own_hc eM own_h0)))
    obtain ⟨A3, H3, c, s, hA3, hr, hc, hs⟩ := nd434 (un x0 x1 x2 x3 1 1 2 2) own_h0
    have M := cutmet (R := room_1) (av := #[.int x0, .int x1, .int x2, .int x3]) hw (hW 1 1 2 2) hA1 hA2 hA3 own_lg own_lg p1_6 p2_2 p3_6 p4_1_6 hr (by decide) rfl ⟨rfl, ⟨Nat.le_refl _, fun _ _ q => q⟩, rfl, fun i c q => by simp at q⟩ (by decide) (by decide) (Nat.le_trans (Nat.add_le_add_left hc _) (by decide)) (Nat.le_trans (Nat.add_le_add_left hs _) (by decide)) l ws
    intro p e h1 h2 h3 s0 m args below hf happ hP hK
    obtain ⟨n, o, g1, g2, g3, v, L, rfl, ⟨rfl, hN⟩, hE⟩ := M p e h1 h2 h3 s0 m args below hf happ hP hK
    exact ⟨n, _, g1, g2, g3, _, L, rfl, ⟨rfl, hN⟩, ⟨hE.1, hE.2.1, hE.2.2.mono (Nat.le_trans (Nat.add_le_add_left hc _) (by decide)) (Nat.le_trans (Nat.add_le_add_left hs _) (by decide))⟩⟩
  | 3, _, eM =>
    have hA1 : holds (un x0 x1 x2 x3 1 1 3 2) A1_6 := (own_hc rfl (own_hc rfl (own_hc eq1 (own_hc eq0 own_h0))))
    have hA2 : holds (un x0 x1 x2 x3 1 1 3 2) A2_3 := (own_hc rfl (own_hc rfl (own_hc eM own_h0)))
    obtain ⟨A3, H3, c, s, hA3, hr, hc, hs⟩ := nd434 (un x0 x1 x2 x3 1 1 3 2) own_h0
    have M := cutmet (R := room_1) (av := #[.int x0, .int x1, .int x2, .int x3]) hw (hW 1 1 3 2) hA1 hA2 hA3 own_lg own_lg p1_6 p2_3 p3_6 p4_1_6 hr (by decide) rfl ⟨rfl, ⟨Nat.le_refl _, fun _ _ q => q⟩, rfl, fun i c q => by simp at q⟩ (by decide) (by decide) (Nat.le_trans (Nat.add_le_add_left hc _) (by decide)) (Nat.le_trans (Nat.add_le_add_left hs _) (by decide)) l ws
    intro p e h1 h2 h3 s0 m args below hf happ hP hK
    obtain ⟨n, o, g1, g2, g3, v, L, rfl, ⟨rfl, hN⟩, hE⟩ := M p e h1 h2 h3 s0 m args below hf happ hP hK
    exact ⟨n, _, g1, g2, g3, _, L, rfl, ⟨rfl, hN⟩, ⟨hE.1, hE.2.1, hE.2.2.mono (Nat.le_trans (Nat.add_le_add_left hc _) (by decide)) (Nat.le_trans (Nat.add_le_add_left hs _) (by decide))⟩⟩
  | _ + 4, h, _ => exact absurd h (by omega)
set_option maxRecDepth 65536 in
set_option maxHeartbeats 4000000 in
theorem pr_7 (l : Launch) (Z : State) (a0 : Array Value) (hw : ∀ d ∈ tables_1, d.before a0 Z = true) (ws : List Jvm.Cond) (x0 x1 x2 x3 : Int32) (ω : Nat → Addr) (ωe : Nat → Int32 → Value) (hW : ∀ e4 e5 e6 e7 : Int32, Wst Z a0 (wl Z x0 x1 x2 x3 e4 e5 e6 e7 ω ωe)) (eq0 : tv (un x0 x1 x2 x3 0 0 0 0) (.rem (.op2 .iand (.arg 1) (.int 2147483647)) (.int 6)) = (1 : Nat).toInt32) (eq1 : tv (un x0 x1 x2 x3 0 0 0 0) (.rem (.op2 .iand (.arg 2) (.int 2147483647)) (.int 5)) = (1 : Nat).toInt32) :
    MetFree l x (head1 (Jvm.Cond.code x code maxLocals ret :: ws) room_1) (fun a U => a = #[.int x0, .int x1, .int x2, .int x3] ∧ Z.Warmed39 U.vm ∧ U.heap = Z.heap) (fun _ _ _ _ _ => True) (fun _ U o U' => ∃ v L, o = .returned v ∧ Q0 Z.heap.size v U'.heap L ∧ FrameEnd U o U' L 64 25216) := by
  obtain ⟨m, hm, eM⟩ := own_vals (σ := (un x0 x1 x2 x3 0 0 0 0)) (a := (.op2 .iand (.op2 .iushr (.arg 3) (.int 1)) (.int 3))) (u := 3) (by decide +kernel)
  match m, hm, eM with
  | 0, _, eM =>
    have hA1 : holds (un x0 x1 x2 x3 1 2 0 0) A1_7 := (own_hc rfl (own_hc rfl (own_hc eq1 (own_hc eq0 own_h0))))
    have hA2 : holds (un x0 x1 x2 x3 1 2 0 0) A2_0 := (own_hc rfl (own_hc rfl (own_hc eM own_h0)))
    obtain ⟨A3, H3, c, s, hA3, hr, hc, hs⟩ := nd136 (un x0 x1 x2 x3 1 2 0 0) own_h0
    have M := cutmet (R := room_1) (av := #[.int x0, .int x1, .int x2, .int x3]) hw (hW 1 2 0 0) hA1 hA2 hA3 own_lg own_lg p1_7 p2_0 p3_7 p4_0_7 hr (by decide) rfl ⟨rfl, ⟨Nat.le_refl _, fun _ _ q => q⟩, rfl, fun i c q => by simp at q⟩ (by decide) (by decide) (Nat.le_trans (Nat.add_le_add_left hc _) (by decide)) (Nat.le_trans (Nat.add_le_add_left hs _) (by decide)) l ws
    intro p e h1 h2 h3 s0 m args below hf happ hP hK
    obtain ⟨n, o, g1, g2, g3, v, L, rfl, ⟨rfl, hN⟩, hE⟩ := M p e h1 h2 h3 s0 m args below hf happ hP hK
    exact ⟨n, _, g1, g2, g3, _, L, rfl, ⟨rfl, hN⟩, ⟨hE.1, hE.2.1, hE.2.2.mono (Nat.le_trans (Nat.add_le_add_left hc _) (by decide)) (Nat.le_trans (Nat.add_le_add_left hs _) (by decide))⟩⟩
  | 1, _, eM =>
    have hA1 : holds (un x0 x1 x2 x3 1 2 1 0) A1_7 := (own_hc rfl (own_hc rfl (own_hc eq1 (own_hc eq0 own_h0))))
    have hA2 : holds (un x0 x1 x2 x3 1 2 1 0) A2_1 := (own_hc rfl (own_hc rfl (own_hc eM own_h0)))
    obtain ⟨A3, H3, c, s, hA3, hr, hc, hs⟩ := nd444 (un x0 x1 x2 x3 1 2 1 0) own_h0
    have M := cutmet (R := room_1) (av := #[.int x0, .int x1, .int x2, .int x3]) hw (hW 1 2 1 0) hA1 hA2 hA3 own_lg own_lg p1_7 p2_1 p3_7 p4_1_7 hr (by decide) rfl ⟨rfl, ⟨Nat.le_refl _, fun _ _ q => q⟩, rfl, fun i c q => by simp at q⟩ (by decide) (by decide) (Nat.le_trans (Nat.add_le_add_left hc _) (by decide)) (Nat.le_trans (Nat.add_le_add_left hs _) (by decide)) l ws
    intro p e h1 h2 h3 s0 m args below hf happ hP hK
    obtain ⟨n, o, g1, g2, g3, v, L, rfl, ⟨rfl, hN⟩, hE⟩ := M p e h1 h2 h3 s0 m args below hf happ hP hK
    exact ⟨n, _, g1, g2, g3, _, L, rfl, ⟨rfl, hN⟩, ⟨hE.1, hE.2.1, hE.2.2.mono (Nat.le_trans (Nat.add_le_add_left hc _) (by decide)) (Nat.le_trans (Nat.add_le_add_left hs _) (by decide))⟩⟩
  | 2, _, eM =>
    have hA1 : holds (un x0 x1 x2 x3 1 2 2 2) A1_7 := (own_hc rfl (own_hc rfl (own_hc eq1 (own_hc eq0 own_h0))))
    have hA2 : holds (un x0 x1 x2 x3 1 2 2 2) A2_2 := (own_hc rfl (own_hc rfl (own_hc eM own_h0)))
    obtain ⟨A3, H3, c, s, hA3, hr, hc, hs⟩ := nd444 (un x0 x1 x2 x3 1 2 2 2) own_h0
    have M := cutmet (R := room_1) (av := #[.int x0, .int x1, .int x2, .int x3]) hw (hW 1 2 2 2) hA1 hA2 hA3 own_lg own_lg p1_7 p2_2 p3_7 p4_1_7 hr (by decide) rfl ⟨rfl, ⟨Nat.le_refl _, fun _ _ q => q⟩, rfl, fun i c q => by simp at q⟩ (by decide) (by decide) (Nat.le_trans (Nat.add_le_add_left hc _) (by decide)) (Nat.le_trans (Nat.add_le_add_left hs _) (by decide)) l ws
    intro p e h1 h2 h3 s0 m args below hf happ hP hK
    obtain ⟨n, o, g1, g2, g3, v, L, rfl, ⟨rfl, hN⟩, hE⟩ := M p e h1 h2 h3 s0 m args below hf happ hP hK
    exact ⟨n, _, g1, g2, g3, _, L, rfl, ⟨rfl, hN⟩, ⟨hE.1, hE.2.1, hE.2.2.mono (Nat.le_trans (Nat.add_le_add_left hc _) (by decide)) (Nat.le_trans (Nat.add_le_add_left hs _) (by decide))⟩⟩
  | 3, _, eM =>
    have hA1 : holds (un x0 x1 x2 x3 1 2 3 2) A1_7 := (own_hc rfl (own_hc rfl (own_hc eq1 (own_hc eq0 own_h0))))
    have hA2 : holds (un x0 x1 x2 x3 1 2 3 2) A2_3 := (own_hc rfl (own_hc rfl (own_hc eM own_h0)))
    obtain ⟨A3, H3, c, s, hA3, hr, hc, hs⟩ := nd444 (un x0 x1 x2 x3 1 2 3 2) own_h0
    have M := cutmet (R := room_1) (av := #[.int x0, .int x1, .int x2, .int x3]) hw (hW 1 2 3 2) hA1 hA2 hA3 own_lg own_lg p1_7 p2_3 p3_7 p4_1_7 hr (by decide) rfl ⟨rfl, ⟨Nat.le_refl _, fun _ _ q => q⟩, rfl, fun i c q => by simp at q⟩ (by decide) (by decide) (Nat.le_trans (Nat.add_le_add_left hc _) (by decide)) (Nat.le_trans (Nat.add_le_add_left hs _) (by decide)) l ws
    intro p e h1 h2 h3 s0 m args below hf happ hP hK
    obtain ⟨n, o, g1, g2, g3, v, L, rfl, ⟨rfl, hN⟩, hE⟩ := M p e h1 h2 h3 s0 m args below hf happ hP hK
    exact ⟨n, _, g1, g2, g3, _, L, rfl, ⟨rfl, hN⟩, ⟨hE.1, hE.2.1, hE.2.2.mono (Nat.le_trans (Nat.add_le_add_left hc _) (by decide)) (Nat.le_trans (Nat.add_le_add_left hs _) (by decide))⟩⟩
  | _ + 4, h, _ => exact absurd h (by omega)
set_option maxRecDepth 65536 in
set_option maxHeartbeats 4000000 in
theorem pr_8 (l : Launch) (Z : State) (a0 : Array Value) (hw : ∀ d ∈ tables_1, d.before a0 Z = true) (ws : List Jvm.Cond) (x0 x1 x2 x3 : Int32) (ω : Nat → Addr) (ωe : Nat → Int32 → Value) (hW : ∀ e4 e5 e6 e7 : Int32, Wst Z a0 (wl Z x0 x1 x2 x3 e4 e5 e6 e7 ω ωe)) (eq0 : tv (un x0 x1 x2 x3 0 0 0 0) (.rem (.op2 .iand (.arg 1) (.int 2147483647)) (.int 6)) = (1 : Nat).toInt32) (eq1 : tv (un x0 x1 x2 x3 0 0 0 0) (.rem (.op2 .iand (.arg 2) (.int 2147483647)) (.int 5)) = (2 : Nat).toInt32) :
    MetFree l x (head1 (Jvm.Cond.code x code maxLocals ret :: ws) room_1) (fun a U => a = #[.int x0, .int x1, .int x2, .int x3] ∧ Z.Warmed39 U.vm ∧ U.heap = Z.heap) (fun _ _ _ _ _ => True) (fun _ U o U' => ∃ v L, o = .returned v ∧ Q0 Z.heap.size v U'.heap L ∧ FrameEnd U o U' L 64 25216) := by
  obtain ⟨m, hm, eM⟩ := own_vals (σ := (un x0 x1 x2 x3 0 0 0 0)) (a := (.op2 .iand (.op2 .iushr (.arg 3) (.int 1)) (.int 3))) (u := 3) (by decide +kernel)
  match m, hm, eM with
  | 0, _, eM =>
    have hA1 : holds (un x0 x1 x2 x3 1 3 0 0) A1_8 := (own_hc rfl (own_hc rfl (own_hc eq1 (own_hc eq0 own_h0))))
    have hA2 : holds (un x0 x1 x2 x3 1 3 0 0) A2_0 := (own_hc rfl (own_hc rfl (own_hc eM own_h0)))
    obtain ⟨A3, H3, c, s, hA3, hr, hc, hs⟩ := nd153 (un x0 x1 x2 x3 1 3 0 0) own_h0
    have M := cutmet (R := room_1) (av := #[.int x0, .int x1, .int x2, .int x3]) hw (hW 1 3 0 0) hA1 hA2 hA3 own_lg own_lg p1_8 p2_0 p3_8 p4_0_8 hr (by decide) rfl ⟨rfl, ⟨Nat.le_refl _, fun _ _ q => q⟩, rfl, fun i c q => by simp at q⟩ (by decide) (by decide) (Nat.le_trans (Nat.add_le_add_left hc _) (by decide)) (Nat.le_trans (Nat.add_le_add_left hs _) (by decide)) l ws
    intro p e h1 h2 h3 s0 m args below hf happ hP hK
    obtain ⟨n, o, g1, g2, g3, v, L, rfl, ⟨rfl, hN⟩, hE⟩ := M p e h1 h2 h3 s0 m args below hf happ hP hK
    exact ⟨n, _, g1, g2, g3, _, L, rfl, ⟨rfl, hN⟩, ⟨hE.1, hE.2.1, hE.2.2.mono (Nat.le_trans (Nat.add_le_add_left hc _) (by decide)) (Nat.le_trans (Nat.add_le_add_left hs _) (by decide))⟩⟩
  | 1, _, eM =>
    have hA1 : holds (un x0 x1 x2 x3 1 3 1 0) A1_8 := (own_hc rfl (own_hc rfl (own_hc eq1 (own_hc eq0 own_h0))))
    have hA2 : holds (un x0 x1 x2 x3 1 3 1 0) A2_1 := (own_hc rfl (own_hc rfl (own_hc eM own_h0)))
    obtain ⟨A3, H3, c, s, hA3, hr, hc, hs⟩ := nd461 (un x0 x1 x2 x3 1 3 1 0) own_h0
    have M := cutmet (R := room_1) (av := #[.int x0, .int x1, .int x2, .int x3]) hw (hW 1 3 1 0) hA1 hA2 hA3 own_lg own_lg p1_8 p2_1 p3_8 p4_1_8 hr (by decide) rfl ⟨rfl, ⟨Nat.le_refl _, fun _ _ q => q⟩, rfl, fun i c q => by simp at q⟩ (by decide) (by decide) (Nat.le_trans (Nat.add_le_add_left hc _) (by decide)) (Nat.le_trans (Nat.add_le_add_left hs _) (by decide)) l ws
    intro p e h1 h2 h3 s0 m args below hf happ hP hK
    obtain ⟨n, o, g1, g2, g3, v, L, rfl, ⟨rfl, hN⟩, hE⟩ := M p e h1 h2 h3 s0 m args below hf happ hP hK
    exact ⟨n, _, g1, g2, g3, _, L, rfl, ⟨rfl, hN⟩, ⟨hE.1, hE.2.1, hE.2.2.mono (Nat.le_trans (Nat.add_le_add_left hc _) (by decide)) (Nat.le_trans (Nat.add_le_add_left hs _) (by decide))⟩⟩
  | 2, _, eM =>
    have hA1 : holds (un x0 x1 x2 x3 1 3 2 2) A1_8 := (own_hc rfl (own_hc rfl (own_hc eq1 (own_hc eq0 own_h0))))
    have hA2 : holds (un x0 x1 x2 x3 1 3 2 2) A2_2 := (own_hc rfl (own_hc rfl (own_hc eM own_h0)))
    obtain ⟨A3, H3, c, s, hA3, hr, hc, hs⟩ := nd461 (un x0 x1 x2 x3 1 3 2 2) own_h0
    have M := cutmet (R := room_1) (av := #[.int x0, .int x1, .int x2, .int x3]) hw (hW 1 3 2 2) hA1 hA2 hA3 own_lg own_lg p1_8 p2_2 p3_8 p4_1_8 hr (by decide) rfl ⟨rfl, ⟨Nat.le_refl _, fun _ _ q => q⟩, rfl, fun i c q => by simp at q⟩ (by decide) (by decide) (Nat.le_trans (Nat.add_le_add_left hc _) (by decide)) (Nat.le_trans (Nat.add_le_add_left hs _) (by decide)) l ws
    intro p e h1 h2 h3 s0 m args below hf happ hP hK
    obtain ⟨n, o, g1, g2, g3, v, L, rfl, ⟨rfl, hN⟩, hE⟩ := M p e h1 h2 h3 s0 m args below hf happ hP hK
    exact ⟨n, _, g1, g2, g3, _, L, rfl, ⟨rfl, hN⟩, ⟨hE.1, hE.2.1, hE.2.2.mono (Nat.le_trans (Nat.add_le_add_left hc _) (by decide)) (Nat.le_trans (Nat.add_le_add_left hs _) (by decide))⟩⟩
  | 3, _, eM =>
    have hA1 : holds (un x0 x1 x2 x3 1 3 3 2) A1_8 := (own_hc rfl (own_hc rfl (own_hc eq1 (own_hc eq0 own_h0))))
    have hA2 : holds (un x0 x1 x2 x3 1 3 3 2) A2_3 := (own_hc rfl (own_hc rfl (own_hc eM own_h0)))
    obtain ⟨A3, H3, c, s, hA3, hr, hc, hs⟩ := nd461 (un x0 x1 x2 x3 1 3 3 2) own_h0
    have M := cutmet (R := room_1) (av := #[.int x0, .int x1, .int x2, .int x3]) hw (hW 1 3 3 2) hA1 hA2 hA3 own_lg own_lg p1_8 p2_3 p3_8 p4_1_8 hr (by decide) rfl ⟨rfl, ⟨Nat.le_refl _, fun _ _ q => q⟩, rfl, fun i c q => by simp at q⟩ (by decide) (by decide) (Nat.le_trans (Nat.add_le_add_left hc _) (by decide)) (Nat.le_trans (Nat.add_le_add_left hs _) (by decide)) l ws
    intro p e h1 h2 h3 s0 m args below hf happ hP hK
    obtain ⟨n, o, g1, g2, g3, v, L, rfl, ⟨rfl, hN⟩, hE⟩ := M p e h1 h2 h3 s0 m args below hf happ hP hK
    exact ⟨n, _, g1, g2, g3, _, L, rfl, ⟨rfl, hN⟩, ⟨hE.1, hE.2.1, hE.2.2.mono (Nat.le_trans (Nat.add_le_add_left hc _) (by decide)) (Nat.le_trans (Nat.add_le_add_left hs _) (by decide))⟩⟩
  | _ + 4, h, _ => exact absurd h (by omega)
set_option maxRecDepth 65536 in
set_option maxHeartbeats 4000000 in
theorem pr_9 (l : Launch) (Z : State) (a0 : Array Value) (hw : ∀ d ∈ tables_1, d.before a0 Z = true) (ws : List Jvm.Cond) (x0 x1 x2 x3 : Int32) (ω : Nat → Addr) (ωe : Nat → Int32 → Value) (hW : ∀ e4 e5 e6 e7 : Int32, Wst Z a0 (wl Z x0 x1 x2 x3 e4 e5 e6 e7 ω ωe)) (eq0 : tv (un x0 x1 x2 x3 0 0 0 0) (.rem (.op2 .iand (.arg 1) (.int 2147483647)) (.int 6)) = (1 : Nat).toInt32) (eq1 : tv (un x0 x1 x2 x3 0 0 0 0) (.rem (.op2 .iand (.arg 2) (.int 2147483647)) (.int 5)) = (3 : Nat).toInt32) :
    MetFree l x (head1 (Jvm.Cond.code x code maxLocals ret :: ws) room_1) (fun a U => a = #[.int x0, .int x1, .int x2, .int x3] ∧ Z.Warmed39 U.vm ∧ U.heap = Z.heap) (fun _ _ _ _ _ => True) (fun _ U o U' => ∃ v L, o = .returned v ∧ Q0 Z.heap.size v U'.heap L ∧ FrameEnd U o U' L 64 25216) := by
  obtain ⟨m, hm, eM⟩ := own_vals (σ := (un x0 x1 x2 x3 0 0 0 0)) (a := (.op2 .iand (.op2 .iushr (.arg 3) (.int 1)) (.int 3))) (u := 3) (by decide +kernel)
  match m, hm, eM with
  | 0, _, eM =>
    have hA1 : holds (un x0 x1 x2 x3 1 4 0 0) A1_9 := (own_hc rfl (own_hc rfl (own_hc eq1 (own_hc eq0 own_h0))))
    have hA2 : holds (un x0 x1 x2 x3 1 4 0 0) A2_0 := (own_hc rfl (own_hc rfl (own_hc eM own_h0)))
    obtain ⟨A3, H3, c, s, hA3, hr, hc, hs⟩ := nd177 (un x0 x1 x2 x3 1 4 0 0) own_h0
    have M := cutmet (R := room_1) (av := #[.int x0, .int x1, .int x2, .int x3]) hw (hW 1 4 0 0) hA1 hA2 hA3 own_lg own_lg p1_9 p2_0 p3_9 p4_0_9 hr (by decide) rfl ⟨rfl, ⟨Nat.le_refl _, fun _ _ q => q⟩, rfl, fun i c q => by simp at q⟩ (by decide) (by decide) (Nat.le_trans (Nat.add_le_add_left hc _) (by decide)) (Nat.le_trans (Nat.add_le_add_left hs _) (by decide)) l ws
    intro p e h1 h2 h3 s0 m args below hf happ hP hK
    obtain ⟨n, o, g1, g2, g3, v, L, rfl, ⟨rfl, hN⟩, hE⟩ := M p e h1 h2 h3 s0 m args below hf happ hP hK
    exact ⟨n, _, g1, g2, g3, _, L, rfl, ⟨rfl, hN⟩, ⟨hE.1, hE.2.1, hE.2.2.mono (Nat.le_trans (Nat.add_le_add_left hc _) (by decide)) (Nat.le_trans (Nat.add_le_add_left hs _) (by decide))⟩⟩
  | 1, _, eM =>
    have hA1 : holds (un x0 x1 x2 x3 1 4 1 0) A1_9 := (own_hc rfl (own_hc rfl (own_hc eq1 (own_hc eq0 own_h0))))
    have hA2 : holds (un x0 x1 x2 x3 1 4 1 0) A2_1 := (own_hc rfl (own_hc rfl (own_hc eM own_h0)))
    obtain ⟨A3, H3, c, s, hA3, hr, hc, hs⟩ := nd485 (un x0 x1 x2 x3 1 4 1 0) own_h0
    have M := cutmet (R := room_1) (av := #[.int x0, .int x1, .int x2, .int x3]) hw (hW 1 4 1 0) hA1 hA2 hA3 own_lg own_lg p1_9 p2_1 p3_9 p4_1_9 hr (by decide) rfl ⟨rfl, ⟨Nat.le_refl _, fun _ _ q => q⟩, rfl, fun i c q => by simp at q⟩ (by decide) (by decide) (Nat.le_trans (Nat.add_le_add_left hc _) (by decide)) (Nat.le_trans (Nat.add_le_add_left hs _) (by decide)) l ws
    intro p e h1 h2 h3 s0 m args below hf happ hP hK
    obtain ⟨n, o, g1, g2, g3, v, L, rfl, ⟨rfl, hN⟩, hE⟩ := M p e h1 h2 h3 s0 m args below hf happ hP hK
    exact ⟨n, _, g1, g2, g3, _, L, rfl, ⟨rfl, hN⟩, ⟨hE.1, hE.2.1, hE.2.2.mono (Nat.le_trans (Nat.add_le_add_left hc _) (by decide)) (Nat.le_trans (Nat.add_le_add_left hs _) (by decide))⟩⟩
  | 2, _, eM =>
    have hA1 : holds (un x0 x1 x2 x3 1 4 2 2) A1_9 := (own_hc rfl (own_hc rfl (own_hc eq1 (own_hc eq0 own_h0))))
    have hA2 : holds (un x0 x1 x2 x3 1 4 2 2) A2_2 := (own_hc rfl (own_hc rfl (own_hc eM own_h0)))
    obtain ⟨A3, H3, c, s, hA3, hr, hc, hs⟩ := nd485 (un x0 x1 x2 x3 1 4 2 2) own_h0
    have M := cutmet (R := room_1) (av := #[.int x0, .int x1, .int x2, .int x3]) hw (hW 1 4 2 2) hA1 hA2 hA3 own_lg own_lg p1_9 p2_2 p3_9 p4_1_9 hr (by decide) rfl ⟨rfl, ⟨Nat.le_refl _, fun _ _ q => q⟩, rfl, fun i c q => by simp at q⟩ (by decide) (by decide) (Nat.le_trans (Nat.add_le_add_left hc _) (by decide)) (Nat.le_trans (Nat.add_le_add_left hs _) (by decide)) l ws
    intro p e h1 h2 h3 s0 m args below hf happ hP hK
    obtain ⟨n, o, g1, g2, g3, v, L, rfl, ⟨rfl, hN⟩, hE⟩ := M p e h1 h2 h3 s0 m args below hf happ hP hK
    exact ⟨n, _, g1, g2, g3, _, L, rfl, ⟨rfl, hN⟩, ⟨hE.1, hE.2.1, hE.2.2.mono (Nat.le_trans (Nat.add_le_add_left hc _) (by decide)) (Nat.le_trans (Nat.add_le_add_left hs _) (by decide))⟩⟩
  | 3, _, eM =>
    have hA1 : holds (un x0 x1 x2 x3 1 4 3 2) A1_9 := (own_hc rfl (own_hc rfl (own_hc eq1 (own_hc eq0 own_h0))))
    have hA2 : holds (un x0 x1 x2 x3 1 4 3 2) A2_3 := (own_hc rfl (own_hc rfl (own_hc eM own_h0)))
    obtain ⟨A3, H3, c, s, hA3, hr, hc, hs⟩ := nd485 (un x0 x1 x2 x3 1 4 3 2) own_h0
    have M := cutmet (R := room_1) (av := #[.int x0, .int x1, .int x2, .int x3]) hw (hW 1 4 3 2) hA1 hA2 hA3 own_lg own_lg p1_9 p2_3 p3_9 p4_1_9 hr (by decide) rfl ⟨rfl, ⟨Nat.le_refl _, fun _ _ q => q⟩, rfl, fun i c q => by simp at q⟩ (by decide) (by decide) (Nat.le_trans (Nat.add_le_add_left hc _) (by decide)) (Nat.le_trans (Nat.add_le_add_left hs _) (by decide)) l ws
    intro p e h1 h2 h3 s0 m args below hf happ hP hK
    obtain ⟨n, o, g1, g2, g3, v, L, rfl, ⟨rfl, hN⟩, hE⟩ := M p e h1 h2 h3 s0 m args below hf happ hP hK
    exact ⟨n, _, g1, g2, g3, _, L, rfl, ⟨rfl, hN⟩, ⟨hE.1, hE.2.1, hE.2.2.mono (Nat.le_trans (Nat.add_le_add_left hc _) (by decide)) (Nat.le_trans (Nat.add_le_add_left hs _) (by decide))⟩⟩
  | _ + 4, h, _ => exact absurd h (by omega)
set_option maxRecDepth 65536 in
set_option maxHeartbeats 4000000 in
theorem pr_10 (l : Launch) (Z : State) (a0 : Array Value) (hw : ∀ d ∈ tables_1, d.before a0 Z = true) (ws : List Jvm.Cond) (x0 x1 x2 x3 : Int32) (ω : Nat → Addr) (ωe : Nat → Int32 → Value) (hW : ∀ e4 e5 e6 e7 : Int32, Wst Z a0 (wl Z x0 x1 x2 x3 e4 e5 e6 e7 ω ωe)) (eq0 : tv (un x0 x1 x2 x3 0 0 0 0) (.rem (.op2 .iand (.arg 1) (.int 2147483647)) (.int 6)) = (1 : Nat).toInt32) (eq1 : tv (un x0 x1 x2 x3 0 0 0 0) (.rem (.op2 .iand (.arg 2) (.int 2147483647)) (.int 5)) = (4 : Nat).toInt32) :
    MetFree l x (head1 (Jvm.Cond.code x code maxLocals ret :: ws) room_1) (fun a U => a = #[.int x0, .int x1, .int x2, .int x3] ∧ Z.Warmed39 U.vm ∧ U.heap = Z.heap) (fun _ _ _ _ _ => True) (fun _ U o U' => ∃ v L, o = .returned v ∧ Q0 Z.heap.size v U'.heap L ∧ FrameEnd U o U' L 64 25216) := by
  obtain ⟨m, hm, eM⟩ := own_vals (σ := (un x0 x1 x2 x3 0 0 0 0)) (a := (.op2 .iand (.op2 .iushr (.arg 3) (.int 1)) (.int 3))) (u := 3) (by decide +kernel)
  match m, hm, eM with
  | 0, _, eM =>
    have hA1 : holds (un x0 x1 x2 x3 1 5 0 0) A1_10 := (own_hc rfl (own_hc rfl (own_hc eq1 (own_hc eq0 own_h0))))
    have hA2 : holds (un x0 x1 x2 x3 1 5 0 0) A2_0 := (own_hc rfl (own_hc rfl (own_hc eM own_h0)))
    obtain ⟨A3, H3, c, s, hA3, hr, hc, hs⟩ := nd208 (un x0 x1 x2 x3 1 5 0 0) own_h0
    have M := cutmet (R := room_1) (av := #[.int x0, .int x1, .int x2, .int x3]) hw (hW 1 5 0 0) hA1 hA2 hA3 own_lg own_lg p1_10 p2_0 p3_10 p4_0_10 hr (by decide) rfl ⟨rfl, ⟨Nat.le_refl _, fun _ _ q => q⟩, rfl, fun i c q => by simp at q⟩ (by decide) (by decide) (Nat.le_trans (Nat.add_le_add_left hc _) (by decide)) (Nat.le_trans (Nat.add_le_add_left hs _) (by decide)) l ws
    intro p e h1 h2 h3 s0 m args below hf happ hP hK
    obtain ⟨n, o, g1, g2, g3, v, L, rfl, ⟨rfl, hN⟩, hE⟩ := M p e h1 h2 h3 s0 m args below hf happ hP hK
    exact ⟨n, _, g1, g2, g3, _, L, rfl, ⟨rfl, hN⟩, ⟨hE.1, hE.2.1, hE.2.2.mono (Nat.le_trans (Nat.add_le_add_left hc _) (by decide)) (Nat.le_trans (Nat.add_le_add_left hs _) (by decide))⟩⟩
  | 1, _, eM =>
    have hA1 : holds (un x0 x1 x2 x3 1 5 1 0) A1_10 := (own_hc rfl (own_hc rfl (own_hc eq1 (own_hc eq0 own_h0))))
    have hA2 : holds (un x0 x1 x2 x3 1 5 1 0) A2_1 := (own_hc rfl (own_hc rfl (own_hc eM own_h0)))
    obtain ⟨A3, H3, c, s, hA3, hr, hc, hs⟩ := nd516 (un x0 x1 x2 x3 1 5 1 0) own_h0
    have M := cutmet (R := room_1) (av := #[.int x0, .int x1, .int x2, .int x3]) hw (hW 1 5 1 0) hA1 hA2 hA3 own_lg own_lg p1_10 p2_1 p3_10 p4_1_10 hr (by decide) rfl ⟨rfl, ⟨Nat.le_refl _, fun _ _ q => q⟩, rfl, fun i c q => by simp at q⟩ (by decide) (by decide) (Nat.le_trans (Nat.add_le_add_left hc _) (by decide)) (Nat.le_trans (Nat.add_le_add_left hs _) (by decide)) l ws
    intro p e h1 h2 h3 s0 m args below hf happ hP hK
    obtain ⟨n, o, g1, g2, g3, v, L, rfl, ⟨rfl, hN⟩, hE⟩ := M p e h1 h2 h3 s0 m args below hf happ hP hK
    exact ⟨n, _, g1, g2, g3, _, L, rfl, ⟨rfl, hN⟩, ⟨hE.1, hE.2.1, hE.2.2.mono (Nat.le_trans (Nat.add_le_add_left hc _) (by decide)) (Nat.le_trans (Nat.add_le_add_left hs _) (by decide))⟩⟩
  | 2, _, eM =>
    have hA1 : holds (un x0 x1 x2 x3 1 5 2 2) A1_10 := (own_hc rfl (own_hc rfl (own_hc eq1 (own_hc eq0 own_h0))))
    have hA2 : holds (un x0 x1 x2 x3 1 5 2 2) A2_2 := (own_hc rfl (own_hc rfl (own_hc eM own_h0)))
    obtain ⟨A3, H3, c, s, hA3, hr, hc, hs⟩ := nd516 (un x0 x1 x2 x3 1 5 2 2) own_h0
    have M := cutmet (R := room_1) (av := #[.int x0, .int x1, .int x2, .int x3]) hw (hW 1 5 2 2) hA1 hA2 hA3 own_lg own_lg p1_10 p2_2 p3_10 p4_1_10 hr (by decide) rfl ⟨rfl, ⟨Nat.le_refl _, fun _ _ q => q⟩, rfl, fun i c q => by simp at q⟩ (by decide) (by decide) (Nat.le_trans (Nat.add_le_add_left hc _) (by decide)) (Nat.le_trans (Nat.add_le_add_left hs _) (by decide)) l ws
    intro p e h1 h2 h3 s0 m args below hf happ hP hK
    obtain ⟨n, o, g1, g2, g3, v, L, rfl, ⟨rfl, hN⟩, hE⟩ := M p e h1 h2 h3 s0 m args below hf happ hP hK
    exact ⟨n, _, g1, g2, g3, _, L, rfl, ⟨rfl, hN⟩, ⟨hE.1, hE.2.1, hE.2.2.mono (Nat.le_trans (Nat.add_le_add_left hc _) (by decide)) (Nat.le_trans (Nat.add_le_add_left hs _) (by decide))⟩⟩
  | 3, _, eM =>
    have hA1 : holds (un x0 x1 x2 x3 1 5 3 2) A1_10 := (own_hc rfl (own_hc rfl (own_hc eq1 (own_hc eq0 own_h0))))
    have hA2 : holds (un x0 x1 x2 x3 1 5 3 2) A2_3 := (own_hc rfl (own_hc rfl (own_hc eM own_h0)))
    obtain ⟨A3, H3, c, s, hA3, hr, hc, hs⟩ := nd516 (un x0 x1 x2 x3 1 5 3 2) own_h0
    have M := cutmet (R := room_1) (av := #[.int x0, .int x1, .int x2, .int x3]) hw (hW 1 5 3 2) hA1 hA2 hA3 own_lg own_lg p1_10 p2_3 p3_10 p4_1_10 hr (by decide) rfl ⟨rfl, ⟨Nat.le_refl _, fun _ _ q => q⟩, rfl, fun i c q => by simp at q⟩ (by decide) (by decide) (Nat.le_trans (Nat.add_le_add_left hc _) (by decide)) (Nat.le_trans (Nat.add_le_add_left hs _) (by decide)) l ws
    intro p e h1 h2 h3 s0 m args below hf happ hP hK
    obtain ⟨n, o, g1, g2, g3, v, L, rfl, ⟨rfl, hN⟩, hE⟩ := M p e h1 h2 h3 s0 m args below hf happ hP hK
    exact ⟨n, _, g1, g2, g3, _, L, rfl, ⟨rfl, hN⟩, ⟨hE.1, hE.2.1, hE.2.2.mono (Nat.le_trans (Nat.add_le_add_left hc _) (by decide)) (Nat.le_trans (Nat.add_le_add_left hs _) (by decide))⟩⟩
  | _ + 4, h, _ => exact absurd h (by omega)
set_option maxRecDepth 65536 in
set_option maxHeartbeats 4000000 in
theorem pr_11 (l : Launch) (Z : State) (a0 : Array Value) (hw : ∀ d ∈ tables_1, d.before a0 Z = true) (ws : List Jvm.Cond) (x0 x1 x2 x3 : Int32) (ω : Nat → Addr) (ωe : Nat → Int32 → Value) (hW : ∀ e4 e5 e6 e7 : Int32, Wst Z a0 (wl Z x0 x1 x2 x3 e4 e5 e6 e7 ω ωe)) (eq0 : tv (un x0 x1 x2 x3 0 0 0 0) (.rem (.op2 .iand (.arg 1) (.int 2147483647)) (.int 6)) = (2 : Nat).toInt32) (eq1 : tv (un x0 x1 x2 x3 0 0 0 0) (.rem (.op2 .iand (.arg 2) (.int 2147483647)) (.int 4)) = (0 : Nat).toInt32) :
    MetFree l x (head1 (Jvm.Cond.code x code maxLocals ret :: ws) room_1) (fun a U => a = #[.int x0, .int x1, .int x2, .int x3] ∧ Z.Warmed39 U.vm ∧ U.heap = Z.heap) (fun _ _ _ _ _ => True) (fun _ U o U' => ∃ v L, o = .returned v ∧ Q0 Z.heap.size v U'.heap L ∧ FrameEnd U o U' L 64 25216) := by
  obtain ⟨m, hm, eM⟩ := own_vals (σ := (un x0 x1 x2 x3 0 0 0 0)) (a := (.op2 .iand (.op2 .iushr (.arg 3) (.int 1)) (.int 3))) (u := 3) (by decide +kernel)
  match m, hm, eM with
  | 0, _, eM =>
    have hA1 : holds (un x0 x1 x2 x3 2 2 0 0) A1_11 := (own_hc rfl (own_hc rfl (own_hc eq1 (own_hc eq0 own_h0))))
    have hA2 : holds (un x0 x1 x2 x3 2 2 0 0) A2_0 := (own_hc rfl (own_hc rfl (own_hc eM own_h0)))
    obtain ⟨A3, H3, c, s, hA3, hr, hc, hs⟩ := nd211 (un x0 x1 x2 x3 2 2 0 0) own_h0
    have M := cutmet (R := room_1) (av := #[.int x0, .int x1, .int x2, .int x3]) hw (hW 2 2 0 0) hA1 hA2 hA3 own_lg own_lg p1_11 p2_0 p3_11 p4_0_11 hr (by decide) rfl ⟨rfl, ⟨Nat.le_refl _, fun _ _ q => q⟩, rfl, fun i c q => by simp at q⟩ (by decide) (by decide) (Nat.le_trans (Nat.add_le_add_left hc _) (by decide)) (Nat.le_trans (Nat.add_le_add_left hs _) (by decide)) l ws
    intro p e h1 h2 h3 s0 m args below hf happ hP hK
    obtain ⟨n, o, g1, g2, g3, v, L, rfl, ⟨rfl, hN⟩, hE⟩ := M p e h1 h2 h3 s0 m args below hf happ hP hK
    exact ⟨n, _, g1, g2, g3, _, L, rfl, ⟨rfl, hN⟩, ⟨hE.1, hE.2.1, hE.2.2.mono (Nat.le_trans (Nat.add_le_add_left hc _) (by decide)) (Nat.le_trans (Nat.add_le_add_left hs _) (by decide))⟩⟩
  | 1, _, eM =>
    have hA1 : holds (un x0 x1 x2 x3 2 2 1 0) A1_11 := (own_hc rfl (own_hc rfl (own_hc eq1 (own_hc eq0 own_h0))))
    have hA2 : holds (un x0 x1 x2 x3 2 2 1 0) A2_1 := (own_hc rfl (own_hc rfl (own_hc eM own_h0)))
    obtain ⟨A3, H3, c, s, hA3, hr, hc, hs⟩ := nd519 (un x0 x1 x2 x3 2 2 1 0) own_h0
    have M := cutmet (R := room_1) (av := #[.int x0, .int x1, .int x2, .int x3]) hw (hW 2 2 1 0) hA1 hA2 hA3 own_lg own_lg p1_11 p2_1 p3_11 p4_1_11 hr (by decide) rfl ⟨rfl, ⟨Nat.le_refl _, fun _ _ q => q⟩, rfl, fun i c q => by simp at q⟩ (by decide) (by decide) (Nat.le_trans (Nat.add_le_add_left hc _) (by decide)) (Nat.le_trans (Nat.add_le_add_left hs _) (by decide)) l ws
    intro p e h1 h2 h3 s0 m args below hf happ hP hK
    obtain ⟨n, o, g1, g2, g3, v, L, rfl, ⟨rfl, hN⟩, hE⟩ := M p e h1 h2 h3 s0 m args below hf happ hP hK
    exact ⟨n, _, g1, g2, g3, _, L, rfl, ⟨rfl, hN⟩, ⟨hE.1, hE.2.1, hE.2.2.mono (Nat.le_trans (Nat.add_le_add_left hc _) (by decide)) (Nat.le_trans (Nat.add_le_add_left hs _) (by decide))⟩⟩
  | 2, _, eM =>
    have hA1 : holds (un x0 x1 x2 x3 2 2 2 2) A1_11 := (own_hc rfl (own_hc rfl (own_hc eq1 (own_hc eq0 own_h0))))
    have hA2 : holds (un x0 x1 x2 x3 2 2 2 2) A2_2 := (own_hc rfl (own_hc rfl (own_hc eM own_h0)))
    obtain ⟨A3, H3, c, s, hA3, hr, hc, hs⟩ := nd519 (un x0 x1 x2 x3 2 2 2 2) own_h0
    have M := cutmet (R := room_1) (av := #[.int x0, .int x1, .int x2, .int x3]) hw (hW 2 2 2 2) hA1 hA2 hA3 own_lg own_lg p1_11 p2_2 p3_11 p4_1_11 hr (by decide) rfl ⟨rfl, ⟨Nat.le_refl _, fun _ _ q => q⟩, rfl, fun i c q => by simp at q⟩ (by decide) (by decide) (Nat.le_trans (Nat.add_le_add_left hc _) (by decide)) (Nat.le_trans (Nat.add_le_add_left hs _) (by decide)) l ws
    intro p e h1 h2 h3 s0 m args below hf happ hP hK
    obtain ⟨n, o, g1, g2, g3, v, L, rfl, ⟨rfl, hN⟩, hE⟩ := M p e h1 h2 h3 s0 m args below hf happ hP hK
    exact ⟨n, _, g1, g2, g3, _, L, rfl, ⟨rfl, hN⟩, ⟨hE.1, hE.2.1, hE.2.2.mono (Nat.le_trans (Nat.add_le_add_left hc _) (by decide)) (Nat.le_trans (Nat.add_le_add_left hs _) (by decide))⟩⟩
  | 3, _, eM =>
    have hA1 : holds (un x0 x1 x2 x3 2 2 3 2) A1_11 := (own_hc rfl (own_hc rfl (own_hc eq1 (own_hc eq0 own_h0))))
    have hA2 : holds (un x0 x1 x2 x3 2 2 3 2) A2_3 := (own_hc rfl (own_hc rfl (own_hc eM own_h0)))
    obtain ⟨A3, H3, c, s, hA3, hr, hc, hs⟩ := nd519 (un x0 x1 x2 x3 2 2 3 2) own_h0
    have M := cutmet (R := room_1) (av := #[.int x0, .int x1, .int x2, .int x3]) hw (hW 2 2 3 2) hA1 hA2 hA3 own_lg own_lg p1_11 p2_3 p3_11 p4_1_11 hr (by decide) rfl ⟨rfl, ⟨Nat.le_refl _, fun _ _ q => q⟩, rfl, fun i c q => by simp at q⟩ (by decide) (by decide) (Nat.le_trans (Nat.add_le_add_left hc _) (by decide)) (Nat.le_trans (Nat.add_le_add_left hs _) (by decide)) l ws
    intro p e h1 h2 h3 s0 m args below hf happ hP hK
    obtain ⟨n, o, g1, g2, g3, v, L, rfl, ⟨rfl, hN⟩, hE⟩ := M p e h1 h2 h3 s0 m args below hf happ hP hK
    exact ⟨n, _, g1, g2, g3, _, L, rfl, ⟨rfl, hN⟩, ⟨hE.1, hE.2.1, hE.2.2.mono (Nat.le_trans (Nat.add_le_add_left hc _) (by decide)) (Nat.le_trans (Nat.add_le_add_left hs _) (by decide))⟩⟩
  | _ + 4, h, _ => exact absurd h (by omega)
set_option maxRecDepth 65536 in
set_option maxHeartbeats 4000000 in
theorem pr_12 (l : Launch) (Z : State) (a0 : Array Value) (hw : ∀ d ∈ tables_1, d.before a0 Z = true) (ws : List Jvm.Cond) (x0 x1 x2 x3 : Int32) (ω : Nat → Addr) (ωe : Nat → Int32 → Value) (hW : ∀ e4 e5 e6 e7 : Int32, Wst Z a0 (wl Z x0 x1 x2 x3 e4 e5 e6 e7 ω ωe)) (eq0 : tv (un x0 x1 x2 x3 0 0 0 0) (.rem (.op2 .iand (.arg 1) (.int 2147483647)) (.int 6)) = (2 : Nat).toInt32) (eq1 : tv (un x0 x1 x2 x3 0 0 0 0) (.rem (.op2 .iand (.arg 2) (.int 2147483647)) (.int 4)) = (1 : Nat).toInt32) :
    MetFree l x (head1 (Jvm.Cond.code x code maxLocals ret :: ws) room_1) (fun a U => a = #[.int x0, .int x1, .int x2, .int x3] ∧ Z.Warmed39 U.vm ∧ U.heap = Z.heap) (fun _ _ _ _ _ => True) (fun _ U o U' => ∃ v L, o = .returned v ∧ Q0 Z.heap.size v U'.heap L ∧ FrameEnd U o U' L 64 25216) := by
  obtain ⟨m, hm, eM⟩ := own_vals (σ := (un x0 x1 x2 x3 0 0 0 0)) (a := (.op2 .iand (.op2 .iushr (.arg 3) (.int 1)) (.int 3))) (u := 3) (by decide +kernel)
  match m, hm, eM with
  | 0, _, eM =>
    have hA1 : holds (un x0 x1 x2 x3 2 3 0 0) A1_12 := (own_hc rfl (own_hc rfl (own_hc eq1 (own_hc eq0 own_h0))))
    have hA2 : holds (un x0 x1 x2 x3 2 3 0 0) A2_0 := (own_hc rfl (own_hc rfl (own_hc eM own_h0)))
    obtain ⟨A3, H3, c, s, hA3, hr, hc, hs⟩ := nd221 (un x0 x1 x2 x3 2 3 0 0) own_h0
    have M := cutmet (R := room_1) (av := #[.int x0, .int x1, .int x2, .int x3]) hw (hW 2 3 0 0) hA1 hA2 hA3 own_lg own_lg p1_12 p2_0 p3_12 p4_0_12 hr (by decide) rfl ⟨rfl, ⟨Nat.le_refl _, fun _ _ q => q⟩, rfl, fun i c q => by simp at q⟩ (by decide) (by decide) (Nat.le_trans (Nat.add_le_add_left hc _) (by decide)) (Nat.le_trans (Nat.add_le_add_left hs _) (by decide)) l ws
    intro p e h1 h2 h3 s0 m args below hf happ hP hK
    obtain ⟨n, o, g1, g2, g3, v, L, rfl, ⟨rfl, hN⟩, hE⟩ := M p e h1 h2 h3 s0 m args below hf happ hP hK
    exact ⟨n, _, g1, g2, g3, _, L, rfl, ⟨rfl, hN⟩, ⟨hE.1, hE.2.1, hE.2.2.mono (Nat.le_trans (Nat.add_le_add_left hc _) (by decide)) (Nat.le_trans (Nat.add_le_add_left hs _) (by decide))⟩⟩
  | 1, _, eM =>
    have hA1 : holds (un x0 x1 x2 x3 2 3 1 0) A1_12 := (own_hc rfl (own_hc rfl (own_hc eq1 (own_hc eq0 own_h0))))
    have hA2 : holds (un x0 x1 x2 x3 2 3 1 0) A2_1 := (own_hc rfl (own_hc rfl (own_hc eM own_h0)))
    obtain ⟨A3, H3, c, s, hA3, hr, hc, hs⟩ := nd529 (un x0 x1 x2 x3 2 3 1 0) own_h0
    have M := cutmet (R := room_1) (av := #[.int x0, .int x1, .int x2, .int x3]) hw (hW 2 3 1 0) hA1 hA2 hA3 own_lg own_lg p1_12 p2_1 p3_12 p4_1_12 hr (by decide) rfl ⟨rfl, ⟨Nat.le_refl _, fun _ _ q => q⟩, rfl, fun i c q => by simp at q⟩ (by decide) (by decide) (Nat.le_trans (Nat.add_le_add_left hc _) (by decide)) (Nat.le_trans (Nat.add_le_add_left hs _) (by decide)) l ws
    intro p e h1 h2 h3 s0 m args below hf happ hP hK
    obtain ⟨n, o, g1, g2, g3, v, L, rfl, ⟨rfl, hN⟩, hE⟩ := M p e h1 h2 h3 s0 m args below hf happ hP hK
    exact ⟨n, _, g1, g2, g3, _, L, rfl, ⟨rfl, hN⟩, ⟨hE.1, hE.2.1, hE.2.2.mono (Nat.le_trans (Nat.add_le_add_left hc _) (by decide)) (Nat.le_trans (Nat.add_le_add_left hs _) (by decide))⟩⟩
  | 2, _, eM =>
    have hA1 : holds (un x0 x1 x2 x3 2 3 2 2) A1_12 := (own_hc rfl (own_hc rfl (own_hc eq1 (own_hc eq0 own_h0))))
    have hA2 : holds (un x0 x1 x2 x3 2 3 2 2) A2_2 := (own_hc rfl (own_hc rfl (own_hc eM own_h0)))
    obtain ⟨A3, H3, c, s, hA3, hr, hc, hs⟩ := nd529 (un x0 x1 x2 x3 2 3 2 2) own_h0
    have M := cutmet (R := room_1) (av := #[.int x0, .int x1, .int x2, .int x3]) hw (hW 2 3 2 2) hA1 hA2 hA3 own_lg own_lg p1_12 p2_2 p3_12 p4_1_12 hr (by decide) rfl ⟨rfl, ⟨Nat.le_refl _, fun _ _ q => q⟩, rfl, fun i c q => by simp at q⟩ (by decide) (by decide) (Nat.le_trans (Nat.add_le_add_left hc _) (by decide)) (Nat.le_trans (Nat.add_le_add_left hs _) (by decide)) l ws
    intro p e h1 h2 h3 s0 m args below hf happ hP hK
    obtain ⟨n, o, g1, g2, g3, v, L, rfl, ⟨rfl, hN⟩, hE⟩ := M p e h1 h2 h3 s0 m args below hf happ hP hK
    exact ⟨n, _, g1, g2, g3, _, L, rfl, ⟨rfl, hN⟩, ⟨hE.1, hE.2.1, hE.2.2.mono (Nat.le_trans (Nat.add_le_add_left hc _) (by decide)) (Nat.le_trans (Nat.add_le_add_left hs _) (by decide))⟩⟩
  | 3, _, eM =>
    have hA1 : holds (un x0 x1 x2 x3 2 3 3 2) A1_12 := (own_hc rfl (own_hc rfl (own_hc eq1 (own_hc eq0 own_h0))))
    have hA2 : holds (un x0 x1 x2 x3 2 3 3 2) A2_3 := (own_hc rfl (own_hc rfl (own_hc eM own_h0)))
    obtain ⟨A3, H3, c, s, hA3, hr, hc, hs⟩ := nd529 (un x0 x1 x2 x3 2 3 3 2) own_h0
    have M := cutmet (R := room_1) (av := #[.int x0, .int x1, .int x2, .int x3]) hw (hW 2 3 3 2) hA1 hA2 hA3 own_lg own_lg p1_12 p2_3 p3_12 p4_1_12 hr (by decide) rfl ⟨rfl, ⟨Nat.le_refl _, fun _ _ q => q⟩, rfl, fun i c q => by simp at q⟩ (by decide) (by decide) (Nat.le_trans (Nat.add_le_add_left hc _) (by decide)) (Nat.le_trans (Nat.add_le_add_left hs _) (by decide)) l ws
    intro p e h1 h2 h3 s0 m args below hf happ hP hK
    obtain ⟨n, o, g1, g2, g3, v, L, rfl, ⟨rfl, hN⟩, hE⟩ := M p e h1 h2 h3 s0 m args below hf happ hP hK
    exact ⟨n, _, g1, g2, g3, _, L, rfl, ⟨rfl, hN⟩, ⟨hE.1, hE.2.1, hE.2.2.mono (Nat.le_trans (Nat.add_le_add_left hc _) (by decide)) (Nat.le_trans (Nat.add_le_add_left hs _) (by decide))⟩⟩
  | _ + 4, h, _ => exact absurd h (by omega)
set_option maxRecDepth 65536 in
set_option maxHeartbeats 4000000 in
theorem pr_13 (l : Launch) (Z : State) (a0 : Array Value) (hw : ∀ d ∈ tables_1, d.before a0 Z = true) (ws : List Jvm.Cond) (x0 x1 x2 x3 : Int32) (ω : Nat → Addr) (ωe : Nat → Int32 → Value) (hW : ∀ e4 e5 e6 e7 : Int32, Wst Z a0 (wl Z x0 x1 x2 x3 e4 e5 e6 e7 ω ωe)) (eq0 : tv (un x0 x1 x2 x3 0 0 0 0) (.rem (.op2 .iand (.arg 1) (.int 2147483647)) (.int 6)) = (2 : Nat).toInt32) (eq1 : tv (un x0 x1 x2 x3 0 0 0 0) (.rem (.op2 .iand (.arg 2) (.int 2147483647)) (.int 4)) = (2 : Nat).toInt32) :
    MetFree l x (head1 (Jvm.Cond.code x code maxLocals ret :: ws) room_1) (fun a U => a = #[.int x0, .int x1, .int x2, .int x3] ∧ Z.Warmed39 U.vm ∧ U.heap = Z.heap) (fun _ _ _ _ _ => True) (fun _ U o U' => ∃ v L, o = .returned v ∧ Q0 Z.heap.size v U'.heap L ∧ FrameEnd U o U' L 64 25216) := by
  obtain ⟨m, hm, eM⟩ := own_vals (σ := (un x0 x1 x2 x3 0 0 0 0)) (a := (.op2 .iand (.op2 .iushr (.arg 3) (.int 1)) (.int 3))) (u := 3) (by decide +kernel)
  match m, hm, eM with
  | 0, _, eM =>
    have hA1 : holds (un x0 x1 x2 x3 2 4 0 0) A1_13 := (own_hc rfl (own_hc rfl (own_hc eq1 (own_hc eq0 own_h0))))
    have hA2 : holds (un x0 x1 x2 x3 2 4 0 0) A2_0 := (own_hc rfl (own_hc rfl (own_hc eM own_h0)))
    obtain ⟨A3, H3, c, s, hA3, hr, hc, hs⟩ := nd238 (un x0 x1 x2 x3 2 4 0 0) own_h0
    have M := cutmet (R := room_1) (av := #[.int x0, .int x1, .int x2, .int x3]) hw (hW 2 4 0 0) hA1 hA2 hA3 own_lg own_lg p1_13 p2_0 p3_13 p4_0_13 hr (by decide) rfl ⟨rfl, ⟨Nat.le_refl _, fun _ _ q => q⟩, rfl, fun i c q => by simp at q⟩ (by decide) (by decide) (Nat.le_trans (Nat.add_le_add_left hc _) (by decide)) (Nat.le_trans (Nat.add_le_add_left hs _) (by decide)) l ws
    intro p e h1 h2 h3 s0 m args below hf happ hP hK
    obtain ⟨n, o, g1, g2, g3, v, L, rfl, ⟨rfl, hN⟩, hE⟩ := M p e h1 h2 h3 s0 m args below hf happ hP hK
    exact ⟨n, _, g1, g2, g3, _, L, rfl, ⟨rfl, hN⟩, ⟨hE.1, hE.2.1, hE.2.2.mono (Nat.le_trans (Nat.add_le_add_left hc _) (by decide)) (Nat.le_trans (Nat.add_le_add_left hs _) (by decide))⟩⟩
  | 1, _, eM =>
    have hA1 : holds (un x0 x1 x2 x3 2 4 1 0) A1_13 := (own_hc rfl (own_hc rfl (own_hc eq1 (own_hc eq0 own_h0))))
    have hA2 : holds (un x0 x1 x2 x3 2 4 1 0) A2_1 := (own_hc rfl (own_hc rfl (own_hc eM own_h0)))
    obtain ⟨A3, H3, c, s, hA3, hr, hc, hs⟩ := nd546 (un x0 x1 x2 x3 2 4 1 0) own_h0
    have M := cutmet (R := room_1) (av := #[.int x0, .int x1, .int x2, .int x3]) hw (hW 2 4 1 0) hA1 hA2 hA3 own_lg own_lg p1_13 p2_1 p3_13 p4_1_13 hr (by decide) rfl ⟨rfl, ⟨Nat.le_refl _, fun _ _ q => q⟩, rfl, fun i c q => by simp at q⟩ (by decide) (by decide) (Nat.le_trans (Nat.add_le_add_left hc _) (by decide)) (Nat.le_trans (Nat.add_le_add_left hs _) (by decide)) l ws
    intro p e h1 h2 h3 s0 m args below hf happ hP hK
    obtain ⟨n, o, g1, g2, g3, v, L, rfl, ⟨rfl, hN⟩, hE⟩ := M p e h1 h2 h3 s0 m args below hf happ hP hK
    exact ⟨n, _, g1, g2, g3, _, L, rfl, ⟨rfl, hN⟩, ⟨hE.1, hE.2.1, hE.2.2.mono (Nat.le_trans (Nat.add_le_add_left hc _) (by decide)) (Nat.le_trans (Nat.add_le_add_left hs _) (by decide))⟩⟩
  | 2, _, eM =>
    have hA1 : holds (un x0 x1 x2 x3 2 4 2 2) A1_13 := (own_hc rfl (own_hc rfl (own_hc eq1 (own_hc eq0 own_h0))))
    have hA2 : holds (un x0 x1 x2 x3 2 4 2 2) A2_2 := (own_hc rfl (own_hc rfl (own_hc eM own_h0)))
    obtain ⟨A3, H3, c, s, hA3, hr, hc, hs⟩ := nd546 (un x0 x1 x2 x3 2 4 2 2) own_h0
    have M := cutmet (R := room_1) (av := #[.int x0, .int x1, .int x2, .int x3]) hw (hW 2 4 2 2) hA1 hA2 hA3 own_lg own_lg p1_13 p2_2 p3_13 p4_1_13 hr (by decide) rfl ⟨rfl, ⟨Nat.le_refl _, fun _ _ q => q⟩, rfl, fun i c q => by simp at q⟩ (by decide) (by decide) (Nat.le_trans (Nat.add_le_add_left hc _) (by decide)) (Nat.le_trans (Nat.add_le_add_left hs _) (by decide)) l ws
    intro p e h1 h2 h3 s0 m args below hf happ hP hK
    obtain ⟨n, o, g1, g2, g3, v, L, rfl, ⟨rfl, hN⟩, hE⟩ := M p e h1 h2 h3 s0 m args below hf happ hP hK
    exact ⟨n, _, g1, g2, g3, _, L, rfl, ⟨rfl, hN⟩, ⟨hE.1, hE.2.1, hE.2.2.mono (Nat.le_trans (Nat.add_le_add_left hc _) (by decide)) (Nat.le_trans (Nat.add_le_add_left hs _) (by decide))⟩⟩
  | 3, _, eM =>
    have hA1 : holds (un x0 x1 x2 x3 2 4 3 2) A1_13 := (own_hc rfl (own_hc rfl (own_hc eq1 (own_hc eq0 own_h0))))
    have hA2 : holds (un x0 x1 x2 x3 2 4 3 2) A2_3 := (own_hc rfl (own_hc rfl (own_hc eM own_h0)))
    obtain ⟨A3, H3, c, s, hA3, hr, hc, hs⟩ := nd546 (un x0 x1 x2 x3 2 4 3 2) own_h0
    have M := cutmet (R := room_1) (av := #[.int x0, .int x1, .int x2, .int x3]) hw (hW 2 4 3 2) hA1 hA2 hA3 own_lg own_lg p1_13 p2_3 p3_13 p4_1_13 hr (by decide) rfl ⟨rfl, ⟨Nat.le_refl _, fun _ _ q => q⟩, rfl, fun i c q => by simp at q⟩ (by decide) (by decide) (Nat.le_trans (Nat.add_le_add_left hc _) (by decide)) (Nat.le_trans (Nat.add_le_add_left hs _) (by decide)) l ws
    intro p e h1 h2 h3 s0 m args below hf happ hP hK
    obtain ⟨n, o, g1, g2, g3, v, L, rfl, ⟨rfl, hN⟩, hE⟩ := M p e h1 h2 h3 s0 m args below hf happ hP hK
    exact ⟨n, _, g1, g2, g3, _, L, rfl, ⟨rfl, hN⟩, ⟨hE.1, hE.2.1, hE.2.2.mono (Nat.le_trans (Nat.add_le_add_left hc _) (by decide)) (Nat.le_trans (Nat.add_le_add_left hs _) (by decide))⟩⟩
  | _ + 4, h, _ => exact absurd h (by omega)
set_option maxRecDepth 65536 in
set_option maxHeartbeats 4000000 in
theorem pr_14 (l : Launch) (Z : State) (a0 : Array Value) (hw : ∀ d ∈ tables_1, d.before a0 Z = true) (ws : List Jvm.Cond) (x0 x1 x2 x3 : Int32) (ω : Nat → Addr) (ωe : Nat → Int32 → Value) (hW : ∀ e4 e5 e6 e7 : Int32, Wst Z a0 (wl Z x0 x1 x2 x3 e4 e5 e6 e7 ω ωe)) (eq0 : tv (un x0 x1 x2 x3 0 0 0 0) (.rem (.op2 .iand (.arg 1) (.int 2147483647)) (.int 6)) = (2 : Nat).toInt32) (eq1 : tv (un x0 x1 x2 x3 0 0 0 0) (.rem (.op2 .iand (.arg 2) (.int 2147483647)) (.int 4)) = (3 : Nat).toInt32) :
    MetFree l x (head1 (Jvm.Cond.code x code maxLocals ret :: ws) room_1) (fun a U => a = #[.int x0, .int x1, .int x2, .int x3] ∧ Z.Warmed39 U.vm ∧ U.heap = Z.heap) (fun _ _ _ _ _ => True) (fun _ U o U' => ∃ v L, o = .returned v ∧ Q0 Z.heap.size v U'.heap L ∧ FrameEnd U o U' L 64 25216) := by
  obtain ⟨m, hm, eM⟩ := own_vals (σ := (un x0 x1 x2 x3 0 0 0 0)) (a := (.op2 .iand (.op2 .iushr (.arg 3) (.int 1)) (.int 3))) (u := 3) (by decide +kernel)
  match m, hm, eM with
  | 0, _, eM =>
    have hA1 : holds (un x0 x1 x2 x3 2 5 0 0) A1_14 := (own_hc rfl (own_hc rfl (own_hc eq1 (own_hc eq0 own_h0))))
    have hA2 : holds (un x0 x1 x2 x3 2 5 0 0) A2_0 := (own_hc rfl (own_hc rfl (own_hc eM own_h0)))
    obtain ⟨A3, H3, c, s, hA3, hr, hc, hs⟩ := nd262 (un x0 x1 x2 x3 2 5 0 0) own_h0
    have M := cutmet (R := room_1) (av := #[.int x0, .int x1, .int x2, .int x3]) hw (hW 2 5 0 0) hA1 hA2 hA3 own_lg own_lg p1_14 p2_0 p3_14 p4_0_14 hr (by decide) rfl ⟨rfl, ⟨Nat.le_refl _, fun _ _ q => q⟩, rfl, fun i c q => by simp at q⟩ (by decide) (by decide) (Nat.le_trans (Nat.add_le_add_left hc _) (by decide)) (Nat.le_trans (Nat.add_le_add_left hs _) (by decide)) l ws
    intro p e h1 h2 h3 s0 m args below hf happ hP hK
    obtain ⟨n, o, g1, g2, g3, v, L, rfl, ⟨rfl, hN⟩, hE⟩ := M p e h1 h2 h3 s0 m args below hf happ hP hK
    exact ⟨n, _, g1, g2, g3, _, L, rfl, ⟨rfl, hN⟩, ⟨hE.1, hE.2.1, hE.2.2.mono (Nat.le_trans (Nat.add_le_add_left hc _) (by decide)) (Nat.le_trans (Nat.add_le_add_left hs _) (by decide))⟩⟩
  | 1, _, eM =>
    have hA1 : holds (un x0 x1 x2 x3 2 5 1 0) A1_14 := (own_hc rfl (own_hc rfl (own_hc eq1 (own_hc eq0 own_h0))))
    have hA2 : holds (un x0 x1 x2 x3 2 5 1 0) A2_1 := (own_hc rfl (own_hc rfl (own_hc eM own_h0)))
    obtain ⟨A3, H3, c, s, hA3, hr, hc, hs⟩ := nd570 (un x0 x1 x2 x3 2 5 1 0) own_h0
    have M := cutmet (R := room_1) (av := #[.int x0, .int x1, .int x2, .int x3]) hw (hW 2 5 1 0) hA1 hA2 hA3 own_lg own_lg p1_14 p2_1 p3_14 p4_1_14 hr (by decide) rfl ⟨rfl, ⟨Nat.le_refl _, fun _ _ q => q⟩, rfl, fun i c q => by simp at q⟩ (by decide) (by decide) (Nat.le_trans (Nat.add_le_add_left hc _) (by decide)) (Nat.le_trans (Nat.add_le_add_left hs _) (by decide)) l ws
    intro p e h1 h2 h3 s0 m args below hf happ hP hK
    obtain ⟨n, o, g1, g2, g3, v, L, rfl, ⟨rfl, hN⟩, hE⟩ := M p e h1 h2 h3 s0 m args below hf happ hP hK
    exact ⟨n, _, g1, g2, g3, _, L, rfl, ⟨rfl, hN⟩, ⟨hE.1, hE.2.1, hE.2.2.mono (Nat.le_trans (Nat.add_le_add_left hc _) (by decide)) (Nat.le_trans (Nat.add_le_add_left hs _) (by decide))⟩⟩
  | 2, _, eM =>
    have hA1 : holds (un x0 x1 x2 x3 2 5 2 2) A1_14 := (own_hc rfl (own_hc rfl (own_hc eq1 (own_hc eq0 own_h0))))
    have hA2 : holds (un x0 x1 x2 x3 2 5 2 2) A2_2 := (own_hc rfl (own_hc rfl (own_hc eM own_h0)))
    obtain ⟨A3, H3, c, s, hA3, hr, hc, hs⟩ := nd570 (un x0 x1 x2 x3 2 5 2 2) own_h0
    have M := cutmet (R := room_1) (av := #[.int x0, .int x1, .int x2, .int x3]) hw (hW 2 5 2 2) hA1 hA2 hA3 own_lg own_lg p1_14 p2_2 p3_14 p4_1_14 hr (by decide) rfl ⟨rfl, ⟨Nat.le_refl _, fun _ _ q => q⟩, rfl, fun i c q => by simp at q⟩ (by decide) (by decide) (Nat.le_trans (Nat.add_le_add_left hc _) (by decide)) (Nat.le_trans (Nat.add_le_add_left hs _) (by decide)) l ws
    intro p e h1 h2 h3 s0 m args below hf happ hP hK
    obtain ⟨n, o, g1, g2, g3, v, L, rfl, ⟨rfl, hN⟩, hE⟩ := M p e h1 h2 h3 s0 m args below hf happ hP hK
    exact ⟨n, _, g1, g2, g3, _, L, rfl, ⟨rfl, hN⟩, ⟨hE.1, hE.2.1, hE.2.2.mono (Nat.le_trans (Nat.add_le_add_left hc _) (by decide)) (Nat.le_trans (Nat.add_le_add_left hs _) (by decide))⟩⟩
  | 3, _, eM =>
    have hA1 : holds (un x0 x1 x2 x3 2 5 3 2) A1_14 := (own_hc rfl (own_hc rfl (own_hc eq1 (own_hc eq0 own_h0))))
    have hA2 : holds (un x0 x1 x2 x3 2 5 3 2) A2_3 := (own_hc rfl (own_hc rfl (own_hc eM own_h0)))
    obtain ⟨A3, H3, c, s, hA3, hr, hc, hs⟩ := nd570 (un x0 x1 x2 x3 2 5 3 2) own_h0
    have M := cutmet (R := room_1) (av := #[.int x0, .int x1, .int x2, .int x3]) hw (hW 2 5 3 2) hA1 hA2 hA3 own_lg own_lg p1_14 p2_3 p3_14 p4_1_14 hr (by decide) rfl ⟨rfl, ⟨Nat.le_refl _, fun _ _ q => q⟩, rfl, fun i c q => by simp at q⟩ (by decide) (by decide) (Nat.le_trans (Nat.add_le_add_left hc _) (by decide)) (Nat.le_trans (Nat.add_le_add_left hs _) (by decide)) l ws
    intro p e h1 h2 h3 s0 m args below hf happ hP hK
    obtain ⟨n, o, g1, g2, g3, v, L, rfl, ⟨rfl, hN⟩, hE⟩ := M p e h1 h2 h3 s0 m args below hf happ hP hK
    exact ⟨n, _, g1, g2, g3, _, L, rfl, ⟨rfl, hN⟩, ⟨hE.1, hE.2.1, hE.2.2.mono (Nat.le_trans (Nat.add_le_add_left hc _) (by decide)) (Nat.le_trans (Nat.add_le_add_left hs _) (by decide))⟩⟩
  | _ + 4, h, _ => exact absurd h (by omega)
set_option maxRecDepth 65536 in
set_option maxHeartbeats 4000000 in
theorem pr_15 (l : Launch) (Z : State) (a0 : Array Value) (hw : ∀ d ∈ tables_1, d.before a0 Z = true) (ws : List Jvm.Cond) (x0 x1 x2 x3 : Int32) (ω : Nat → Addr) (ωe : Nat → Int32 → Value) (hW : ∀ e4 e5 e6 e7 : Int32, Wst Z a0 (wl Z x0 x1 x2 x3 e4 e5 e6 e7 ω ωe)) (eq0 : tv (un x0 x1 x2 x3 0 0 0 0) (.rem (.op2 .iand (.arg 1) (.int 2147483647)) (.int 6)) = (3 : Nat).toInt32) (eq1 : tv (un x0 x1 x2 x3 0 0 0 0) (.rem (.op2 .iand (.arg 2) (.int 2147483647)) (.int 3)) = (0 : Nat).toInt32) :
    MetFree l x (head1 (Jvm.Cond.code x code maxLocals ret :: ws) room_1) (fun a U => a = #[.int x0, .int x1, .int x2, .int x3] ∧ Z.Warmed39 U.vm ∧ U.heap = Z.heap) (fun _ _ _ _ _ => True) (fun _ U o U' => ∃ v L, o = .returned v ∧ Q0 Z.heap.size v U'.heap L ∧ FrameEnd U o U' L 64 25216) := by
  obtain ⟨m, hm, eM⟩ := own_vals (σ := (un x0 x1 x2 x3 0 0 0 0)) (a := (.op2 .iand (.op2 .iushr (.arg 3) (.int 1)) (.int 3))) (u := 3) (by decide +kernel)
  match m, hm, eM with
  | 0, _, eM =>
    have hA1 : holds (un x0 x1 x2 x3 3 3 0 0) A1_15 := (own_hc rfl (own_hc rfl (own_hc eq1 (own_hc eq0 own_h0))))
    have hA2 : holds (un x0 x1 x2 x3 3 3 0 0) A2_0 := (own_hc rfl (own_hc rfl (own_hc eM own_h0)))
    obtain ⟨A3, H3, c, s, hA3, hr, hc, hs⟩ := nd265 (un x0 x1 x2 x3 3 3 0 0) own_h0
    have M := cutmet (R := room_1) (av := #[.int x0, .int x1, .int x2, .int x3]) hw (hW 3 3 0 0) hA1 hA2 hA3 own_lg own_lg p1_15 p2_0 p3_15 p4_0_15 hr (by decide) rfl ⟨rfl, ⟨Nat.le_refl _, fun _ _ q => q⟩, rfl, fun i c q => by simp at q⟩ (by decide) (by decide) (Nat.le_trans (Nat.add_le_add_left hc _) (by decide)) (Nat.le_trans (Nat.add_le_add_left hs _) (by decide)) l ws
    intro p e h1 h2 h3 s0 m args below hf happ hP hK
    obtain ⟨n, o, g1, g2, g3, v, L, rfl, ⟨rfl, hN⟩, hE⟩ := M p e h1 h2 h3 s0 m args below hf happ hP hK
    exact ⟨n, _, g1, g2, g3, _, L, rfl, ⟨rfl, hN⟩, ⟨hE.1, hE.2.1, hE.2.2.mono (Nat.le_trans (Nat.add_le_add_left hc _) (by decide)) (Nat.le_trans (Nat.add_le_add_left hs _) (by decide))⟩⟩
  | 1, _, eM =>
    have hA1 : holds (un x0 x1 x2 x3 3 3 1 0) A1_15 := (own_hc rfl (own_hc rfl (own_hc eq1 (own_hc eq0 own_h0))))
    have hA2 : holds (un x0 x1 x2 x3 3 3 1 0) A2_1 := (own_hc rfl (own_hc rfl (own_hc eM own_h0)))
    obtain ⟨A3, H3, c, s, hA3, hr, hc, hs⟩ := nd573 (un x0 x1 x2 x3 3 3 1 0) own_h0
    have M := cutmet (R := room_1) (av := #[.int x0, .int x1, .int x2, .int x3]) hw (hW 3 3 1 0) hA1 hA2 hA3 own_lg own_lg p1_15 p2_1 p3_15 p4_1_15 hr (by decide) rfl ⟨rfl, ⟨Nat.le_refl _, fun _ _ q => q⟩, rfl, fun i c q => by simp at q⟩ (by decide) (by decide) (Nat.le_trans (Nat.add_le_add_left hc _) (by decide)) (Nat.le_trans (Nat.add_le_add_left hs _) (by decide)) l ws
    intro p e h1 h2 h3 s0 m args below hf happ hP hK
    obtain ⟨n, o, g1, g2, g3, v, L, rfl, ⟨rfl, hN⟩, hE⟩ := M p e h1 h2 h3 s0 m args below hf happ hP hK
    exact ⟨n, _, g1, g2, g3, _, L, rfl, ⟨rfl, hN⟩, ⟨hE.1, hE.2.1, hE.2.2.mono (Nat.le_trans (Nat.add_le_add_left hc _) (by decide)) (Nat.le_trans (Nat.add_le_add_left hs _) (by decide))⟩⟩
  | 2, _, eM =>
    have hA1 : holds (un x0 x1 x2 x3 3 3 2 2) A1_15 := (own_hc rfl (own_hc rfl (own_hc eq1 (own_hc eq0 own_h0))))
    have hA2 : holds (un x0 x1 x2 x3 3 3 2 2) A2_2 := (own_hc rfl (own_hc rfl (own_hc eM own_h0)))
    obtain ⟨A3, H3, c, s, hA3, hr, hc, hs⟩ := nd573 (un x0 x1 x2 x3 3 3 2 2) own_h0
    have M := cutmet (R := room_1) (av := #[.int x0, .int x1, .int x2, .int x3]) hw (hW 3 3 2 2) hA1 hA2 hA3 own_lg own_lg p1_15 p2_2 p3_15 p4_1_15 hr (by decide) rfl ⟨rfl, ⟨Nat.le_refl _, fun _ _ q => q⟩, rfl, fun i c q => by simp at q⟩ (by decide) (by decide) (Nat.le_trans (Nat.add_le_add_left hc _) (by decide)) (Nat.le_trans (Nat.add_le_add_left hs _) (by decide)) l ws
    intro p e h1 h2 h3 s0 m args below hf happ hP hK
    obtain ⟨n, o, g1, g2, g3, v, L, rfl, ⟨rfl, hN⟩, hE⟩ := M p e h1 h2 h3 s0 m args below hf happ hP hK
    exact ⟨n, _, g1, g2, g3, _, L, rfl, ⟨rfl, hN⟩, ⟨hE.1, hE.2.1, hE.2.2.mono (Nat.le_trans (Nat.add_le_add_left hc _) (by decide)) (Nat.le_trans (Nat.add_le_add_left hs _) (by decide))⟩⟩
  | 3, _, eM =>
    have hA1 : holds (un x0 x1 x2 x3 3 3 3 2) A1_15 := (own_hc rfl (own_hc rfl (own_hc eq1 (own_hc eq0 own_h0))))
    have hA2 : holds (un x0 x1 x2 x3 3 3 3 2) A2_3 := (own_hc rfl (own_hc rfl (own_hc eM own_h0)))
    obtain ⟨A3, H3, c, s, hA3, hr, hc, hs⟩ := nd573 (un x0 x1 x2 x3 3 3 3 2) own_h0
    have M := cutmet (R := room_1) (av := #[.int x0, .int x1, .int x2, .int x3]) hw (hW 3 3 3 2) hA1 hA2 hA3 own_lg own_lg p1_15 p2_3 p3_15 p4_1_15 hr (by decide) rfl ⟨rfl, ⟨Nat.le_refl _, fun _ _ q => q⟩, rfl, fun i c q => by simp at q⟩ (by decide) (by decide) (Nat.le_trans (Nat.add_le_add_left hc _) (by decide)) (Nat.le_trans (Nat.add_le_add_left hs _) (by decide)) l ws
    intro p e h1 h2 h3 s0 m args below hf happ hP hK
    obtain ⟨n, o, g1, g2, g3, v, L, rfl, ⟨rfl, hN⟩, hE⟩ := M p e h1 h2 h3 s0 m args below hf happ hP hK
    exact ⟨n, _, g1, g2, g3, _, L, rfl, ⟨rfl, hN⟩, ⟨hE.1, hE.2.1, hE.2.2.mono (Nat.le_trans (Nat.add_le_add_left hc _) (by decide)) (Nat.le_trans (Nat.add_le_add_left hs _) (by decide))⟩⟩
  | _ + 4, h, _ => exact absurd h (by omega)
set_option maxRecDepth 65536 in
set_option maxHeartbeats 4000000 in
theorem pr_16 (l : Launch) (Z : State) (a0 : Array Value) (hw : ∀ d ∈ tables_1, d.before a0 Z = true) (ws : List Jvm.Cond) (x0 x1 x2 x3 : Int32) (ω : Nat → Addr) (ωe : Nat → Int32 → Value) (hW : ∀ e4 e5 e6 e7 : Int32, Wst Z a0 (wl Z x0 x1 x2 x3 e4 e5 e6 e7 ω ωe)) (eq0 : tv (un x0 x1 x2 x3 0 0 0 0) (.rem (.op2 .iand (.arg 1) (.int 2147483647)) (.int 6)) = (3 : Nat).toInt32) (eq1 : tv (un x0 x1 x2 x3 0 0 0 0) (.rem (.op2 .iand (.arg 2) (.int 2147483647)) (.int 3)) = (1 : Nat).toInt32) :
    MetFree l x (head1 (Jvm.Cond.code x code maxLocals ret :: ws) room_1) (fun a U => a = #[.int x0, .int x1, .int x2, .int x3] ∧ Z.Warmed39 U.vm ∧ U.heap = Z.heap) (fun _ _ _ _ _ => True) (fun _ U o U' => ∃ v L, o = .returned v ∧ Q0 Z.heap.size v U'.heap L ∧ FrameEnd U o U' L 64 25216) := by
  obtain ⟨m, hm, eM⟩ := own_vals (σ := (un x0 x1 x2 x3 0 0 0 0)) (a := (.op2 .iand (.op2 .iushr (.arg 3) (.int 1)) (.int 3))) (u := 3) (by decide +kernel)
  match m, hm, eM with
  | 0, _, eM =>
    have hA1 : holds (un x0 x1 x2 x3 3 4 0 0) A1_16 := (own_hc rfl (own_hc rfl (own_hc eq1 (own_hc eq0 own_h0))))
    have hA2 : holds (un x0 x1 x2 x3 3 4 0 0) A2_0 := (own_hc rfl (own_hc rfl (own_hc eM own_h0)))
    obtain ⟨A3, H3, c, s, hA3, hr, hc, hs⟩ := nd275 (un x0 x1 x2 x3 3 4 0 0) own_h0
    have M := cutmet (R := room_1) (av := #[.int x0, .int x1, .int x2, .int x3]) hw (hW 3 4 0 0) hA1 hA2 hA3 own_lg own_lg p1_16 p2_0 p3_16 p4_0_16 hr (by decide) rfl ⟨rfl, ⟨Nat.le_refl _, fun _ _ q => q⟩, rfl, fun i c q => by simp at q⟩ (by decide) (by decide) (Nat.le_trans (Nat.add_le_add_left hc _) (by decide)) (Nat.le_trans (Nat.add_le_add_left hs _) (by decide)) l ws
    intro p e h1 h2 h3 s0 m args below hf happ hP hK
    obtain ⟨n, o, g1, g2, g3, v, L, rfl, ⟨rfl, hN⟩, hE⟩ := M p e h1 h2 h3 s0 m args below hf happ hP hK
    exact ⟨n, _, g1, g2, g3, _, L, rfl, ⟨rfl, hN⟩, ⟨hE.1, hE.2.1, hE.2.2.mono (Nat.le_trans (Nat.add_le_add_left hc _) (by decide)) (Nat.le_trans (Nat.add_le_add_left hs _) (by decide))⟩⟩
  | 1, _, eM =>
    have hA1 : holds (un x0 x1 x2 x3 3 4 1 0) A1_16 := (own_hc rfl (own_hc rfl (own_hc eq1 (own_hc eq0 own_h0))))
    have hA2 : holds (un x0 x1 x2 x3 3 4 1 0) A2_1 := (own_hc rfl (own_hc rfl (own_hc eM own_h0)))
    obtain ⟨A3, H3, c, s, hA3, hr, hc, hs⟩ := nd583 (un x0 x1 x2 x3 3 4 1 0) own_h0
    have M := cutmet (R := room_1) (av := #[.int x0, .int x1, .int x2, .int x3]) hw (hW 3 4 1 0) hA1 hA2 hA3 own_lg own_lg p1_16 p2_1 p3_16 p4_1_16 hr (by decide) rfl ⟨rfl, ⟨Nat.le_refl _, fun _ _ q => q⟩, rfl, fun i c q => by simp at q⟩ (by decide) (by decide) (Nat.le_trans (Nat.add_le_add_left hc _) (by decide)) (Nat.le_trans (Nat.add_le_add_left hs _) (by decide)) l ws
    intro p e h1 h2 h3 s0 m args below hf happ hP hK
    obtain ⟨n, o, g1, g2, g3, v, L, rfl, ⟨rfl, hN⟩, hE⟩ := M p e h1 h2 h3 s0 m args below hf happ hP hK
    exact ⟨n, _, g1, g2, g3, _, L, rfl, ⟨rfl, hN⟩, ⟨hE.1, hE.2.1, hE.2.2.mono (Nat.le_trans (Nat.add_le_add_left hc _) (by decide)) (Nat.le_trans (Nat.add_le_add_left hs _) (by decide))⟩⟩
  | 2, _, eM =>
    have hA1 : holds (un x0 x1 x2 x3 3 4 2 2) A1_16 := (own_hc rfl (own_hc rfl (own_hc eq1 (own_hc eq0 own_h0))))
    have hA2 : holds (un x0 x1 x2 x3 3 4 2 2) A2_2 := (own_hc rfl (own_hc rfl (own_hc eM own_h0)))
    obtain ⟨A3, H3, c, s, hA3, hr, hc, hs⟩ := nd583 (un x0 x1 x2 x3 3 4 2 2) own_h0
    have M := cutmet (R := room_1) (av := #[.int x0, .int x1, .int x2, .int x3]) hw (hW 3 4 2 2) hA1 hA2 hA3 own_lg own_lg p1_16 p2_2 p3_16 p4_1_16 hr (by decide) rfl ⟨rfl, ⟨Nat.le_refl _, fun _ _ q => q⟩, rfl, fun i c q => by simp at q⟩ (by decide) (by decide) (Nat.le_trans (Nat.add_le_add_left hc _) (by decide)) (Nat.le_trans (Nat.add_le_add_left hs _) (by decide)) l ws
    intro p e h1 h2 h3 s0 m args below hf happ hP hK
    obtain ⟨n, o, g1, g2, g3, v, L, rfl, ⟨rfl, hN⟩, hE⟩ := M p e h1 h2 h3 s0 m args below hf happ hP hK
    exact ⟨n, _, g1, g2, g3, _, L, rfl, ⟨rfl, hN⟩, ⟨hE.1, hE.2.1, hE.2.2.mono (Nat.le_trans (Nat.add_le_add_left hc _) (by decide)) (Nat.le_trans (Nat.add_le_add_left hs _) (by decide))⟩⟩
  | 3, _, eM =>
    have hA1 : holds (un x0 x1 x2 x3 3 4 3 2) A1_16 := (own_hc rfl (own_hc rfl (own_hc eq1 (own_hc eq0 own_h0))))
    have hA2 : holds (un x0 x1 x2 x3 3 4 3 2) A2_3 := (own_hc rfl (own_hc rfl (own_hc eM own_h0)))
    obtain ⟨A3, H3, c, s, hA3, hr, hc, hs⟩ := nd583 (un x0 x1 x2 x3 3 4 3 2) own_h0
    have M := cutmet (R := room_1) (av := #[.int x0, .int x1, .int x2, .int x3]) hw (hW 3 4 3 2) hA1 hA2 hA3 own_lg own_lg p1_16 p2_3 p3_16 p4_1_16 hr (by decide) rfl ⟨rfl, ⟨Nat.le_refl _, fun _ _ q => q⟩, rfl, fun i c q => by simp at q⟩ (by decide) (by decide) (Nat.le_trans (Nat.add_le_add_left hc _) (by decide)) (Nat.le_trans (Nat.add_le_add_left hs _) (by decide)) l ws
    intro p e h1 h2 h3 s0 m args below hf happ hP hK
    obtain ⟨n, o, g1, g2, g3, v, L, rfl, ⟨rfl, hN⟩, hE⟩ := M p e h1 h2 h3 s0 m args below hf happ hP hK
    exact ⟨n, _, g1, g2, g3, _, L, rfl, ⟨rfl, hN⟩, ⟨hE.1, hE.2.1, hE.2.2.mono (Nat.le_trans (Nat.add_le_add_left hc _) (by decide)) (Nat.le_trans (Nat.add_le_add_left hs _) (by decide))⟩⟩
  | _ + 4, h, _ => exact absurd h (by omega)
set_option maxRecDepth 65536 in
set_option maxHeartbeats 4000000 in
theorem pr_17 (l : Launch) (Z : State) (a0 : Array Value) (hw : ∀ d ∈ tables_1, d.before a0 Z = true) (ws : List Jvm.Cond) (x0 x1 x2 x3 : Int32) (ω : Nat → Addr) (ωe : Nat → Int32 → Value) (hW : ∀ e4 e5 e6 e7 : Int32, Wst Z a0 (wl Z x0 x1 x2 x3 e4 e5 e6 e7 ω ωe)) (eq0 : tv (un x0 x1 x2 x3 0 0 0 0) (.rem (.op2 .iand (.arg 1) (.int 2147483647)) (.int 6)) = (3 : Nat).toInt32) (eq1 : tv (un x0 x1 x2 x3 0 0 0 0) (.rem (.op2 .iand (.arg 2) (.int 2147483647)) (.int 3)) = (2 : Nat).toInt32) :
    MetFree l x (head1 (Jvm.Cond.code x code maxLocals ret :: ws) room_1) (fun a U => a = #[.int x0, .int x1, .int x2, .int x3] ∧ Z.Warmed39 U.vm ∧ U.heap = Z.heap) (fun _ _ _ _ _ => True) (fun _ U o U' => ∃ v L, o = .returned v ∧ Q0 Z.heap.size v U'.heap L ∧ FrameEnd U o U' L 64 25216) := by
  obtain ⟨m, hm, eM⟩ := own_vals (σ := (un x0 x1 x2 x3 0 0 0 0)) (a := (.op2 .iand (.op2 .iushr (.arg 3) (.int 1)) (.int 3))) (u := 3) (by decide +kernel)
  match m, hm, eM with
  | 0, _, eM =>
    have hA1 : holds (un x0 x1 x2 x3 3 5 0 0) A1_17 := (own_hc rfl (own_hc rfl (own_hc eq1 (own_hc eq0 own_h0))))
    have hA2 : holds (un x0 x1 x2 x3 3 5 0 0) A2_0 := (own_hc rfl (own_hc rfl (own_hc eM own_h0)))
    obtain ⟨A3, H3, c, s, hA3, hr, hc, hs⟩ := nd292 (un x0 x1 x2 x3 3 5 0 0) own_h0
    have M := cutmet (R := room_1) (av := #[.int x0, .int x1, .int x2, .int x3]) hw (hW 3 5 0 0) hA1 hA2 hA3 own_lg own_lg p1_17 p2_0 p3_17 p4_0_17 hr (by decide) rfl ⟨rfl, ⟨Nat.le_refl _, fun _ _ q => q⟩, rfl, fun i c q => by simp at q⟩ (by decide) (by decide) (Nat.le_trans (Nat.add_le_add_left hc _) (by decide)) (Nat.le_trans (Nat.add_le_add_left hs _) (by decide)) l ws
    intro p e h1 h2 h3 s0 m args below hf happ hP hK
    obtain ⟨n, o, g1, g2, g3, v, L, rfl, ⟨rfl, hN⟩, hE⟩ := M p e h1 h2 h3 s0 m args below hf happ hP hK
    exact ⟨n, _, g1, g2, g3, _, L, rfl, ⟨rfl, hN⟩, ⟨hE.1, hE.2.1, hE.2.2.mono (Nat.le_trans (Nat.add_le_add_left hc _) (by decide)) (Nat.le_trans (Nat.add_le_add_left hs _) (by decide))⟩⟩
  | 1, _, eM =>
    have hA1 : holds (un x0 x1 x2 x3 3 5 1 0) A1_17 := (own_hc rfl (own_hc rfl (own_hc eq1 (own_hc eq0 own_h0))))
    have hA2 : holds (un x0 x1 x2 x3 3 5 1 0) A2_1 := (own_hc rfl (own_hc rfl (own_hc eM own_h0)))
    obtain ⟨A3, H3, c, s, hA3, hr, hc, hs⟩ := nd600 (un x0 x1 x2 x3 3 5 1 0) own_h0
    have M := cutmet (R := room_1) (av := #[.int x0, .int x1, .int x2, .int x3]) hw (hW 3 5 1 0) hA1 hA2 hA3 own_lg own_lg p1_17 p2_1 p3_17 p4_1_17 hr (by decide) rfl ⟨rfl, ⟨Nat.le_refl _, fun _ _ q => q⟩, rfl, fun i c q => by simp at q⟩ (by decide) (by decide) (Nat.le_trans (Nat.add_le_add_left hc _) (by decide)) (Nat.le_trans (Nat.add_le_add_left hs _) (by decide)) l ws
    intro p e h1 h2 h3 s0 m args below hf happ hP hK
    obtain ⟨n, o, g1, g2, g3, v, L, rfl, ⟨rfl, hN⟩, hE⟩ := M p e h1 h2 h3 s0 m args below hf happ hP hK
    exact ⟨n, _, g1, g2, g3, _, L, rfl, ⟨rfl, hN⟩, ⟨hE.1, hE.2.1, hE.2.2.mono (Nat.le_trans (Nat.add_le_add_left hc _) (by decide)) (Nat.le_trans (Nat.add_le_add_left hs _) (by decide))⟩⟩
  | 2, _, eM =>
    have hA1 : holds (un x0 x1 x2 x3 3 5 2 2) A1_17 := (own_hc rfl (own_hc rfl (own_hc eq1 (own_hc eq0 own_h0))))
    have hA2 : holds (un x0 x1 x2 x3 3 5 2 2) A2_2 := (own_hc rfl (own_hc rfl (own_hc eM own_h0)))
    obtain ⟨A3, H3, c, s, hA3, hr, hc, hs⟩ := nd600 (un x0 x1 x2 x3 3 5 2 2) own_h0
    have M := cutmet (R := room_1) (av := #[.int x0, .int x1, .int x2, .int x3]) hw (hW 3 5 2 2) hA1 hA2 hA3 own_lg own_lg p1_17 p2_2 p3_17 p4_1_17 hr (by decide) rfl ⟨rfl, ⟨Nat.le_refl _, fun _ _ q => q⟩, rfl, fun i c q => by simp at q⟩ (by decide) (by decide) (Nat.le_trans (Nat.add_le_add_left hc _) (by decide)) (Nat.le_trans (Nat.add_le_add_left hs _) (by decide)) l ws
    intro p e h1 h2 h3 s0 m args below hf happ hP hK
    obtain ⟨n, o, g1, g2, g3, v, L, rfl, ⟨rfl, hN⟩, hE⟩ := M p e h1 h2 h3 s0 m args below hf happ hP hK
    exact ⟨n, _, g1, g2, g3, _, L, rfl, ⟨rfl, hN⟩, ⟨hE.1, hE.2.1, hE.2.2.mono (Nat.le_trans (Nat.add_le_add_left hc _) (by decide)) (Nat.le_trans (Nat.add_le_add_left hs _) (by decide))⟩⟩
  | 3, _, eM =>
    have hA1 : holds (un x0 x1 x2 x3 3 5 3 2) A1_17 := (own_hc rfl (own_hc rfl (own_hc eq1 (own_hc eq0 own_h0))))
    have hA2 : holds (un x0 x1 x2 x3 3 5 3 2) A2_3 := (own_hc rfl (own_hc rfl (own_hc eM own_h0)))
    obtain ⟨A3, H3, c, s, hA3, hr, hc, hs⟩ := nd600 (un x0 x1 x2 x3 3 5 3 2) own_h0
    have M := cutmet (R := room_1) (av := #[.int x0, .int x1, .int x2, .int x3]) hw (hW 3 5 3 2) hA1 hA2 hA3 own_lg own_lg p1_17 p2_3 p3_17 p4_1_17 hr (by decide) rfl ⟨rfl, ⟨Nat.le_refl _, fun _ _ q => q⟩, rfl, fun i c q => by simp at q⟩ (by decide) (by decide) (Nat.le_trans (Nat.add_le_add_left hc _) (by decide)) (Nat.le_trans (Nat.add_le_add_left hs _) (by decide)) l ws
    intro p e h1 h2 h3 s0 m args below hf happ hP hK
    obtain ⟨n, o, g1, g2, g3, v, L, rfl, ⟨rfl, hN⟩, hE⟩ := M p e h1 h2 h3 s0 m args below hf happ hP hK
    exact ⟨n, _, g1, g2, g3, _, L, rfl, ⟨rfl, hN⟩, ⟨hE.1, hE.2.1, hE.2.2.mono (Nat.le_trans (Nat.add_le_add_left hc _) (by decide)) (Nat.le_trans (Nat.add_le_add_left hs _) (by decide))⟩⟩
  | _ + 4, h, _ => exact absurd h (by omega)
set_option maxRecDepth 65536 in
set_option maxHeartbeats 4000000 in
theorem pr_18 (l : Launch) (Z : State) (a0 : Array Value) (hw : ∀ d ∈ tables_1, d.before a0 Z = true) (ws : List Jvm.Cond) (x0 x1 x2 x3 : Int32) (ω : Nat → Addr) (ωe : Nat → Int32 → Value) (hW : ∀ e4 e5 e6 e7 : Int32, Wst Z a0 (wl Z x0 x1 x2 x3 e4 e5 e6 e7 ω ωe)) (eq0 : tv (un x0 x1 x2 x3 0 0 0 0) (.rem (.op2 .iand (.arg 1) (.int 2147483647)) (.int 6)) = (4 : Nat).toInt32) (eq1 : tv (un x0 x1 x2 x3 0 0 0 0) (.rem (.op2 .iand (.arg 2) (.int 2147483647)) (.int 2)) = (0 : Nat).toInt32) :
    MetFree l x (head1 (Jvm.Cond.code x code maxLocals ret :: ws) room_1) (fun a U => a = #[.int x0, .int x1, .int x2, .int x3] ∧ Z.Warmed39 U.vm ∧ U.heap = Z.heap) (fun _ _ _ _ _ => True) (fun _ U o U' => ∃ v L, o = .returned v ∧ Q0 Z.heap.size v U'.heap L ∧ FrameEnd U o U' L 64 25216) := by
  obtain ⟨m, hm, eM⟩ := own_vals (σ := (un x0 x1 x2 x3 0 0 0 0)) (a := (.op2 .iand (.op2 .iushr (.arg 3) (.int 1)) (.int 3))) (u := 3) (by decide +kernel)
  match m, hm, eM with
  | 0, _, eM =>
    have hA1 : holds (un x0 x1 x2 x3 4 4 0 0) A1_18 := (own_hc rfl (own_hc rfl (own_hc eq1 (own_hc eq0 own_h0))))
    have hA2 : holds (un x0 x1 x2 x3 4 4 0 0) A2_0 := (own_hc rfl (own_hc rfl (own_hc eM own_h0)))
    obtain ⟨A3, H3, c, s, hA3, hr, hc, hs⟩ := nd295 (un x0 x1 x2 x3 4 4 0 0) own_h0
    have M := cutmet (R := room_1) (av := #[.int x0, .int x1, .int x2, .int x3]) hw (hW 4 4 0 0) hA1 hA2 hA3 own_lg own_lg p1_18 p2_0 p3_18 p4_0_18 hr (by decide) rfl ⟨rfl, ⟨Nat.le_refl _, fun _ _ q => q⟩, rfl, fun i c q => by simp at q⟩ (by decide) (by decide) (Nat.le_trans (Nat.add_le_add_left hc _) (by decide)) (Nat.le_trans (Nat.add_le_add_left hs _) (by decide)) l ws
    intro p e h1 h2 h3 s0 m args below hf happ hP hK
    obtain ⟨n, o, g1, g2, g3, v, L, rfl, ⟨rfl, hN⟩, hE⟩ := M p e h1 h2 h3 s0 m args below hf happ hP hK
    exact ⟨n, _, g1, g2, g3, _, L, rfl, ⟨rfl, hN⟩, ⟨hE.1, hE.2.1, hE.2.2.mono (Nat.le_trans (Nat.add_le_add_left hc _) (by decide)) (Nat.le_trans (Nat.add_le_add_left hs _) (by decide))⟩⟩
  | 1, _, eM =>
    have hA1 : holds (un x0 x1 x2 x3 4 4 1 0) A1_18 := (own_hc rfl (own_hc rfl (own_hc eq1 (own_hc eq0 own_h0))))
    have hA2 : holds (un x0 x1 x2 x3 4 4 1 0) A2_1 := (own_hc rfl (own_hc rfl (own_hc eM own_h0)))
    obtain ⟨A3, H3, c, s, hA3, hr, hc, hs⟩ := nd603 (un x0 x1 x2 x3 4 4 1 0) own_h0
    have M := cutmet (R := room_1) (av := #[.int x0, .int x1, .int x2, .int x3]) hw (hW 4 4 1 0) hA1 hA2 hA3 own_lg own_lg p1_18 p2_1 p3_18 p4_1_18 hr (by decide) rfl ⟨rfl, ⟨Nat.le_refl _, fun _ _ q => q⟩, rfl, fun i c q => by simp at q⟩ (by decide) (by decide) (Nat.le_trans (Nat.add_le_add_left hc _) (by decide)) (Nat.le_trans (Nat.add_le_add_left hs _) (by decide)) l ws
    intro p e h1 h2 h3 s0 m args below hf happ hP hK
    obtain ⟨n, o, g1, g2, g3, v, L, rfl, ⟨rfl, hN⟩, hE⟩ := M p e h1 h2 h3 s0 m args below hf happ hP hK
    exact ⟨n, _, g1, g2, g3, _, L, rfl, ⟨rfl, hN⟩, ⟨hE.1, hE.2.1, hE.2.2.mono (Nat.le_trans (Nat.add_le_add_left hc _) (by decide)) (Nat.le_trans (Nat.add_le_add_left hs _) (by decide))⟩⟩
  | 2, _, eM =>
    have hA1 : holds (un x0 x1 x2 x3 4 4 2 2) A1_18 := (own_hc rfl (own_hc rfl (own_hc eq1 (own_hc eq0 own_h0))))
    have hA2 : holds (un x0 x1 x2 x3 4 4 2 2) A2_2 := (own_hc rfl (own_hc rfl (own_hc eM own_h0)))
    obtain ⟨A3, H3, c, s, hA3, hr, hc, hs⟩ := nd603 (un x0 x1 x2 x3 4 4 2 2) own_h0
    have M := cutmet (R := room_1) (av := #[.int x0, .int x1, .int x2, .int x3]) hw (hW 4 4 2 2) hA1 hA2 hA3 own_lg own_lg p1_18 p2_2 p3_18 p4_1_18 hr (by decide) rfl ⟨rfl, ⟨Nat.le_refl _, fun _ _ q => q⟩, rfl, fun i c q => by simp at q⟩ (by decide) (by decide) (Nat.le_trans (Nat.add_le_add_left hc _) (by decide)) (Nat.le_trans (Nat.add_le_add_left hs _) (by decide)) l ws
    intro p e h1 h2 h3 s0 m args below hf happ hP hK
    obtain ⟨n, o, g1, g2, g3, v, L, rfl, ⟨rfl, hN⟩, hE⟩ := M p e h1 h2 h3 s0 m args below hf happ hP hK
    exact ⟨n, _, g1, g2, g3, _, L, rfl, ⟨rfl, hN⟩, ⟨hE.1, hE.2.1, hE.2.2.mono (Nat.le_trans (Nat.add_le_add_left hc _) (by decide)) (Nat.le_trans (Nat.add_le_add_left hs _) (by decide))⟩⟩
  | 3, _, eM =>
    have hA1 : holds (un x0 x1 x2 x3 4 4 3 2) A1_18 := (own_hc rfl (own_hc rfl (own_hc eq1 (own_hc eq0 own_h0))))
    have hA2 : holds (un x0 x1 x2 x3 4 4 3 2) A2_3 := (own_hc rfl (own_hc rfl (own_hc eM own_h0)))
    obtain ⟨A3, H3, c, s, hA3, hr, hc, hs⟩ := nd603 (un x0 x1 x2 x3 4 4 3 2) own_h0
    have M := cutmet (R := room_1) (av := #[.int x0, .int x1, .int x2, .int x3]) hw (hW 4 4 3 2) hA1 hA2 hA3 own_lg own_lg p1_18 p2_3 p3_18 p4_1_18 hr (by decide) rfl ⟨rfl, ⟨Nat.le_refl _, fun _ _ q => q⟩, rfl, fun i c q => by simp at q⟩ (by decide) (by decide) (Nat.le_trans (Nat.add_le_add_left hc _) (by decide)) (Nat.le_trans (Nat.add_le_add_left hs _) (by decide)) l ws
    intro p e h1 h2 h3 s0 m args below hf happ hP hK
    obtain ⟨n, o, g1, g2, g3, v, L, rfl, ⟨rfl, hN⟩, hE⟩ := M p e h1 h2 h3 s0 m args below hf happ hP hK
    exact ⟨n, _, g1, g2, g3, _, L, rfl, ⟨rfl, hN⟩, ⟨hE.1, hE.2.1, hE.2.2.mono (Nat.le_trans (Nat.add_le_add_left hc _) (by decide)) (Nat.le_trans (Nat.add_le_add_left hs _) (by decide))⟩⟩
  | _ + 4, h, _ => exact absurd h (by omega)
set_option maxRecDepth 65536 in
set_option maxHeartbeats 4000000 in
theorem pr_19 (l : Launch) (Z : State) (a0 : Array Value) (hw : ∀ d ∈ tables_1, d.before a0 Z = true) (ws : List Jvm.Cond) (x0 x1 x2 x3 : Int32) (ω : Nat → Addr) (ωe : Nat → Int32 → Value) (hW : ∀ e4 e5 e6 e7 : Int32, Wst Z a0 (wl Z x0 x1 x2 x3 e4 e5 e6 e7 ω ωe)) (eq0 : tv (un x0 x1 x2 x3 0 0 0 0) (.rem (.op2 .iand (.arg 1) (.int 2147483647)) (.int 6)) = (4 : Nat).toInt32) (eq1 : tv (un x0 x1 x2 x3 0 0 0 0) (.rem (.op2 .iand (.arg 2) (.int 2147483647)) (.int 2)) = (1 : Nat).toInt32) :
    MetFree l x (head1 (Jvm.Cond.code x code maxLocals ret :: ws) room_1) (fun a U => a = #[.int x0, .int x1, .int x2, .int x3] ∧ Z.Warmed39 U.vm ∧ U.heap = Z.heap) (fun _ _ _ _ _ => True) (fun _ U o U' => ∃ v L, o = .returned v ∧ Q0 Z.heap.size v U'.heap L ∧ FrameEnd U o U' L 64 25216) := by
  obtain ⟨m, hm, eM⟩ := own_vals (σ := (un x0 x1 x2 x3 0 0 0 0)) (a := (.op2 .iand (.op2 .iushr (.arg 3) (.int 1)) (.int 3))) (u := 3) (by decide +kernel)
  match m, hm, eM with
  | 0, _, eM =>
    have hA1 : holds (un x0 x1 x2 x3 4 5 0 0) A1_19 := (own_hc rfl (own_hc rfl (own_hc eq1 (own_hc eq0 own_h0))))
    have hA2 : holds (un x0 x1 x2 x3 4 5 0 0) A2_0 := (own_hc rfl (own_hc rfl (own_hc eM own_h0)))
    obtain ⟨A3, H3, c, s, hA3, hr, hc, hs⟩ := nd305 (un x0 x1 x2 x3 4 5 0 0) own_h0
    have M := cutmet (R := room_1) (av := #[.int x0, .int x1, .int x2, .int x3]) hw (hW 4 5 0 0) hA1 hA2 hA3 own_lg own_lg p1_19 p2_0 p3_19 p4_0_19 hr (by decide) rfl ⟨rfl, ⟨Nat.le_refl _, fun _ _ q => q⟩, rfl, fun i c q => by simp at q⟩ (by decide) (by decide) (Nat.le_trans (Nat.add_le_add_left hc _) (by decide)) (Nat.le_trans (Nat.add_le_add_left hs _) (by decide)) l ws
    intro p e h1 h2 h3 s0 m args below hf happ hP hK
    obtain ⟨n, o, g1, g2, g3, v, L, rfl, ⟨rfl, hN⟩, hE⟩ := M p e h1 h2 h3 s0 m args below hf happ hP hK
    exact ⟨n, _, g1, g2, g3, _, L, rfl, ⟨rfl, hN⟩, ⟨hE.1, hE.2.1, hE.2.2.mono (Nat.le_trans (Nat.add_le_add_left hc _) (by decide)) (Nat.le_trans (Nat.add_le_add_left hs _) (by decide))⟩⟩
  | 1, _, eM =>
    have hA1 : holds (un x0 x1 x2 x3 4 5 1 0) A1_19 := (own_hc rfl (own_hc rfl (own_hc eq1 (own_hc eq0 own_h0))))
    have hA2 : holds (un x0 x1 x2 x3 4 5 1 0) A2_1 := (own_hc rfl (own_hc rfl (own_hc eM own_h0)))
    obtain ⟨A3, H3, c, s, hA3, hr, hc, hs⟩ := nd613 (un x0 x1 x2 x3 4 5 1 0) own_h0
    have M := cutmet (R := room_1) (av := #[.int x0, .int x1, .int x2, .int x3]) hw (hW 4 5 1 0) hA1 hA2 hA3 own_lg own_lg p1_19 p2_1 p3_19 p4_1_19 hr (by decide) rfl ⟨rfl, ⟨Nat.le_refl _, fun _ _ q => q⟩, rfl, fun i c q => by simp at q⟩ (by decide) (by decide) (Nat.le_trans (Nat.add_le_add_left hc _) (by decide)) (Nat.le_trans (Nat.add_le_add_left hs _) (by decide)) l ws
    intro p e h1 h2 h3 s0 m args below hf happ hP hK
    obtain ⟨n, o, g1, g2, g3, v, L, rfl, ⟨rfl, hN⟩, hE⟩ := M p e h1 h2 h3 s0 m args below hf happ hP hK
    exact ⟨n, _, g1, g2, g3, _, L, rfl, ⟨rfl, hN⟩, ⟨hE.1, hE.2.1, hE.2.2.mono (Nat.le_trans (Nat.add_le_add_left hc _) (by decide)) (Nat.le_trans (Nat.add_le_add_left hs _) (by decide))⟩⟩
  | 2, _, eM =>
    have hA1 : holds (un x0 x1 x2 x3 4 5 2 2) A1_19 := (own_hc rfl (own_hc rfl (own_hc eq1 (own_hc eq0 own_h0))))
    have hA2 : holds (un x0 x1 x2 x3 4 5 2 2) A2_2 := (own_hc rfl (own_hc rfl (own_hc eM own_h0)))
    obtain ⟨A3, H3, c, s, hA3, hr, hc, hs⟩ := nd613 (un x0 x1 x2 x3 4 5 2 2) own_h0
    have M := cutmet (R := room_1) (av := #[.int x0, .int x1, .int x2, .int x3]) hw (hW 4 5 2 2) hA1 hA2 hA3 own_lg own_lg p1_19 p2_2 p3_19 p4_1_19 hr (by decide) rfl ⟨rfl, ⟨Nat.le_refl _, fun _ _ q => q⟩, rfl, fun i c q => by simp at q⟩ (by decide) (by decide) (Nat.le_trans (Nat.add_le_add_left hc _) (by decide)) (Nat.le_trans (Nat.add_le_add_left hs _) (by decide)) l ws
    intro p e h1 h2 h3 s0 m args below hf happ hP hK
    obtain ⟨n, o, g1, g2, g3, v, L, rfl, ⟨rfl, hN⟩, hE⟩ := M p e h1 h2 h3 s0 m args below hf happ hP hK
    exact ⟨n, _, g1, g2, g3, _, L, rfl, ⟨rfl, hN⟩, ⟨hE.1, hE.2.1, hE.2.2.mono (Nat.le_trans (Nat.add_le_add_left hc _) (by decide)) (Nat.le_trans (Nat.add_le_add_left hs _) (by decide))⟩⟩
  | 3, _, eM =>
    have hA1 : holds (un x0 x1 x2 x3 4 5 3 2) A1_19 := (own_hc rfl (own_hc rfl (own_hc eq1 (own_hc eq0 own_h0))))
    have hA2 : holds (un x0 x1 x2 x3 4 5 3 2) A2_3 := (own_hc rfl (own_hc rfl (own_hc eM own_h0)))
    obtain ⟨A3, H3, c, s, hA3, hr, hc, hs⟩ := nd613 (un x0 x1 x2 x3 4 5 3 2) own_h0
    have M := cutmet (R := room_1) (av := #[.int x0, .int x1, .int x2, .int x3]) hw (hW 4 5 3 2) hA1 hA2 hA3 own_lg own_lg p1_19 p2_3 p3_19 p4_1_19 hr (by decide) rfl ⟨rfl, ⟨Nat.le_refl _, fun _ _ q => q⟩, rfl, fun i c q => by simp at q⟩ (by decide) (by decide) (Nat.le_trans (Nat.add_le_add_left hc _) (by decide)) (Nat.le_trans (Nat.add_le_add_left hs _) (by decide)) l ws
    intro p e h1 h2 h3 s0 m args below hf happ hP hK
    obtain ⟨n, o, g1, g2, g3, v, L, rfl, ⟨rfl, hN⟩, hE⟩ := M p e h1 h2 h3 s0 m args below hf happ hP hK
    exact ⟨n, _, g1, g2, g3, _, L, rfl, ⟨rfl, hN⟩, ⟨hE.1, hE.2.1, hE.2.2.mono (Nat.le_trans (Nat.add_le_add_left hc _) (by decide)) (Nat.le_trans (Nat.add_le_add_left hs _) (by decide))⟩⟩
  | _ + 4, h, _ => exact absurd h (by omega)
set_option maxRecDepth 65536 in
set_option maxHeartbeats 4000000 in
theorem pr_20 (l : Launch) (Z : State) (a0 : Array Value) (hw : ∀ d ∈ tables_1, d.before a0 Z = true) (ws : List Jvm.Cond) (x0 x1 x2 x3 : Int32) (ω : Nat → Addr) (ωe : Nat → Int32 → Value) (hW : ∀ e4 e5 e6 e7 : Int32, Wst Z a0 (wl Z x0 x1 x2 x3 e4 e5 e6 e7 ω ωe)) (eq0 : tv (un x0 x1 x2 x3 0 0 0 0) (.rem (.op2 .iand (.arg 1) (.int 2147483647)) (.int 6)) = (5 : Nat).toInt32) (eq1 : tv (un x0 x1 x2 x3 0 0 0 0) (.rem (.op2 .iand (.arg 2) (.int 2147483647)) (.int 1)) = (0 : Nat).toInt32) :
    MetFree l x (head1 (Jvm.Cond.code x code maxLocals ret :: ws) room_1) (fun a U => a = #[.int x0, .int x1, .int x2, .int x3] ∧ Z.Warmed39 U.vm ∧ U.heap = Z.heap) (fun _ _ _ _ _ => True) (fun _ U o U' => ∃ v L, o = .returned v ∧ Q0 Z.heap.size v U'.heap L ∧ FrameEnd U o U' L 64 25216) := by
  obtain ⟨m, hm, eM⟩ := own_vals (σ := (un x0 x1 x2 x3 0 0 0 0)) (a := (.op2 .iand (.op2 .iushr (.arg 3) (.int 1)) (.int 3))) (u := 3) (by decide +kernel)
  match m, hm, eM with
  | 0, _, eM =>
    have hA1 : holds (un x0 x1 x2 x3 5 5 0 0) A1_20 := (own_hc rfl (own_hc rfl (own_hc eq1 (own_hc eq0 own_h0))))
    have hA2 : holds (un x0 x1 x2 x3 5 5 0 0) A2_0 := (own_hc rfl (own_hc rfl (own_hc eM own_h0)))
    obtain ⟨A3, H3, c, s, hA3, hr, hc, hs⟩ := nd308 (un x0 x1 x2 x3 5 5 0 0) own_h0
    have M := cutmet (R := room_1) (av := #[.int x0, .int x1, .int x2, .int x3]) hw (hW 5 5 0 0) hA1 hA2 hA3 own_lg own_lg p1_20 p2_0 p3_20 p4_0_20 hr (by decide) rfl ⟨rfl, ⟨Nat.le_refl _, fun _ _ q => q⟩, rfl, fun i c q => by simp at q⟩ (by decide) (by decide) (Nat.le_trans (Nat.add_le_add_left hc _) (by decide)) (Nat.le_trans (Nat.add_le_add_left hs _) (by decide)) l ws
    intro p e h1 h2 h3 s0 m args below hf happ hP hK
    obtain ⟨n, o, g1, g2, g3, v, L, rfl, ⟨rfl, hN⟩, hE⟩ := M p e h1 h2 h3 s0 m args below hf happ hP hK
    exact ⟨n, _, g1, g2, g3, _, L, rfl, ⟨rfl, hN⟩, ⟨hE.1, hE.2.1, hE.2.2.mono (Nat.le_trans (Nat.add_le_add_left hc _) (by decide)) (Nat.le_trans (Nat.add_le_add_left hs _) (by decide))⟩⟩
  | 1, _, eM =>
    have hA1 : holds (un x0 x1 x2 x3 5 5 1 0) A1_20 := (own_hc rfl (own_hc rfl (own_hc eq1 (own_hc eq0 own_h0))))
    have hA2 : holds (un x0 x1 x2 x3 5 5 1 0) A2_1 := (own_hc rfl (own_hc rfl (own_hc eM own_h0)))
    obtain ⟨A3, H3, c, s, hA3, hr, hc, hs⟩ := nd616 (un x0 x1 x2 x3 5 5 1 0) own_h0
    have M := cutmet (R := room_1) (av := #[.int x0, .int x1, .int x2, .int x3]) hw (hW 5 5 1 0) hA1 hA2 hA3 own_lg own_lg p1_20 p2_1 p3_20 p4_1_20 hr (by decide) rfl ⟨rfl, ⟨Nat.le_refl _, fun _ _ q => q⟩, rfl, fun i c q => by simp at q⟩ (by decide) (by decide) (Nat.le_trans (Nat.add_le_add_left hc _) (by decide)) (Nat.le_trans (Nat.add_le_add_left hs _) (by decide)) l ws
    intro p e h1 h2 h3 s0 m args below hf happ hP hK
    obtain ⟨n, o, g1, g2, g3, v, L, rfl, ⟨rfl, hN⟩, hE⟩ := M p e h1 h2 h3 s0 m args below hf happ hP hK
    exact ⟨n, _, g1, g2, g3, _, L, rfl, ⟨rfl, hN⟩, ⟨hE.1, hE.2.1, hE.2.2.mono (Nat.le_trans (Nat.add_le_add_left hc _) (by decide)) (Nat.le_trans (Nat.add_le_add_left hs _) (by decide))⟩⟩
  | 2, _, eM =>
    have hA1 : holds (un x0 x1 x2 x3 5 5 2 2) A1_20 := (own_hc rfl (own_hc rfl (own_hc eq1 (own_hc eq0 own_h0))))
    have hA2 : holds (un x0 x1 x2 x3 5 5 2 2) A2_2 := (own_hc rfl (own_hc rfl (own_hc eM own_h0)))
    obtain ⟨A3, H3, c, s, hA3, hr, hc, hs⟩ := nd616 (un x0 x1 x2 x3 5 5 2 2) own_h0
    have M := cutmet (R := room_1) (av := #[.int x0, .int x1, .int x2, .int x3]) hw (hW 5 5 2 2) hA1 hA2 hA3 own_lg own_lg p1_20 p2_2 p3_20 p4_1_20 hr (by decide) rfl ⟨rfl, ⟨Nat.le_refl _, fun _ _ q => q⟩, rfl, fun i c q => by simp at q⟩ (by decide) (by decide) (Nat.le_trans (Nat.add_le_add_left hc _) (by decide)) (Nat.le_trans (Nat.add_le_add_left hs _) (by decide)) l ws
    intro p e h1 h2 h3 s0 m args below hf happ hP hK
    obtain ⟨n, o, g1, g2, g3, v, L, rfl, ⟨rfl, hN⟩, hE⟩ := M p e h1 h2 h3 s0 m args below hf happ hP hK
    exact ⟨n, _, g1, g2, g3, _, L, rfl, ⟨rfl, hN⟩, ⟨hE.1, hE.2.1, hE.2.2.mono (Nat.le_trans (Nat.add_le_add_left hc _) (by decide)) (Nat.le_trans (Nat.add_le_add_left hs _) (by decide))⟩⟩
  | 3, _, eM =>
    have hA1 : holds (un x0 x1 x2 x3 5 5 3 2) A1_20 := (own_hc rfl (own_hc rfl (own_hc eq1 (own_hc eq0 own_h0))))
    have hA2 : holds (un x0 x1 x2 x3 5 5 3 2) A2_3 := (own_hc rfl (own_hc rfl (own_hc eM own_h0)))
    obtain ⟨A3, H3, c, s, hA3, hr, hc, hs⟩ := nd616 (un x0 x1 x2 x3 5 5 3 2) own_h0
    have M := cutmet (R := room_1) (av := #[.int x0, .int x1, .int x2, .int x3]) hw (hW 5 5 3 2) hA1 hA2 hA3 own_lg own_lg p1_20 p2_3 p3_20 p4_1_20 hr (by decide) rfl ⟨rfl, ⟨Nat.le_refl _, fun _ _ q => q⟩, rfl, fun i c q => by simp at q⟩ (by decide) (by decide) (Nat.le_trans (Nat.add_le_add_left hc _) (by decide)) (Nat.le_trans (Nat.add_le_add_left hs _) (by decide)) l ws
    intro p e h1 h2 h3 s0 m args below hf happ hP hK
    obtain ⟨n, o, g1, g2, g3, v, L, rfl, ⟨rfl, hN⟩, hE⟩ := M p e h1 h2 h3 s0 m args below hf happ hP hK
    exact ⟨n, _, g1, g2, g3, _, L, rfl, ⟨rfl, hN⟩, ⟨hE.1, hE.2.1, hE.2.2.mono (Nat.le_trans (Nat.add_le_add_left hc _) (by decide)) (Nat.le_trans (Nat.add_le_add_left hs _) (by decide))⟩⟩
  | _ + 4, h, _ => exact absurd h (by omega)
set_option maxRecDepth 65536 in
set_option maxHeartbeats 4000000 in
theorem rm0 (l : Launch) (Z : State) (a0 : Array Value) (hw : ∀ d ∈ tables_1, d.before a0 Z = true) (ws : List Jvm.Cond) (x0 x1 x2 x3 : Int32) (ω : Nat → Addr) (ωe : Nat → Int32 → Value) (hW : ∀ e4 e5 e6 e7 : Int32, Wst Z a0 (wl Z x0 x1 x2 x3 e4 e5 e6 e7 ω ωe)) :
    MetFree l x (head1 (Jvm.Cond.code x code maxLocals ret :: ws) room_1) (fun a U => a = #[.int x0, .int x1, .int x2, .int x3] ∧ Z.Warmed39 U.vm ∧ U.heap = Z.heap) (fun _ _ _ _ _ => True) (fun _ U o U' => ∃ v L, o = .returned v ∧ Q0 Z.heap.size v U'.heap L ∧ FrameEnd U o U' L 64 25216) := by
  obtain ⟨k0, hk0, eq0⟩ := own_vals (σ := (un x0 x1 x2 x3 0 0 0 0)) (a := (.rem (.op2 .iand (.arg 1) (.int 2147483647)) (.int 6))) (u := 5) (by decide +kernel)
  match k0, hk0, eq0 with
  | 0, _, eq0 =>
    obtain ⟨k1, hk1, eq1⟩ := own_vals (σ := (un x0 x1 x2 x3 0 0 0 0)) (a := (.rem (.op2 .iand (.arg 2) (.int 2147483647)) (.int 6))) (u := 5) (by decide +kernel)
    match k1, hk1, eq1 with
    | 0, _, eq1 =>
      exact pr_0 l Z a0 hw ws x0 x1 x2 x3 ω ωe hW eq0 eq1
    | 1, _, eq1 =>
      exact pr_1 l Z a0 hw ws x0 x1 x2 x3 ω ωe hW eq0 eq1
    | 2, _, eq1 =>
      exact pr_2 l Z a0 hw ws x0 x1 x2 x3 ω ωe hW eq0 eq1
    | 3, _, eq1 =>
      exact pr_3 l Z a0 hw ws x0 x1 x2 x3 ω ωe hW eq0 eq1
    | 4, _, eq1 =>
      exact pr_4 l Z a0 hw ws x0 x1 x2 x3 ω ωe hW eq0 eq1
    | 5, _, eq1 =>
      exact pr_5 l Z a0 hw ws x0 x1 x2 x3 ω ωe hW eq0 eq1
    | _ + 6, h, _ => exact absurd h (by omega)
  | 1, _, eq0 =>
    obtain ⟨k1, hk1, eq1⟩ := own_vals (σ := (un x0 x1 x2 x3 0 0 0 0)) (a := (.rem (.op2 .iand (.arg 2) (.int 2147483647)) (.int 5))) (u := 4) (by decide +kernel)
    match k1, hk1, eq1 with
    | 0, _, eq1 =>
      exact pr_6 l Z a0 hw ws x0 x1 x2 x3 ω ωe hW eq0 eq1
    | 1, _, eq1 =>
      exact pr_7 l Z a0 hw ws x0 x1 x2 x3 ω ωe hW eq0 eq1
    | 2, _, eq1 =>
      exact pr_8 l Z a0 hw ws x0 x1 x2 x3 ω ωe hW eq0 eq1
    | 3, _, eq1 =>
      exact pr_9 l Z a0 hw ws x0 x1 x2 x3 ω ωe hW eq0 eq1
    | 4, _, eq1 =>
      exact pr_10 l Z a0 hw ws x0 x1 x2 x3 ω ωe hW eq0 eq1
    | _ + 5, h, _ => exact absurd h (by omega)
  | 2, _, eq0 =>
    obtain ⟨k1, hk1, eq1⟩ := own_vals (σ := (un x0 x1 x2 x3 0 0 0 0)) (a := (.rem (.op2 .iand (.arg 2) (.int 2147483647)) (.int 4))) (u := 3) (by decide +kernel)
    match k1, hk1, eq1 with
    | 0, _, eq1 =>
      exact pr_11 l Z a0 hw ws x0 x1 x2 x3 ω ωe hW eq0 eq1
    | 1, _, eq1 =>
      exact pr_12 l Z a0 hw ws x0 x1 x2 x3 ω ωe hW eq0 eq1
    | 2, _, eq1 =>
      exact pr_13 l Z a0 hw ws x0 x1 x2 x3 ω ωe hW eq0 eq1
    | 3, _, eq1 =>
      exact pr_14 l Z a0 hw ws x0 x1 x2 x3 ω ωe hW eq0 eq1
    | _ + 4, h, _ => exact absurd h (by omega)
  | 3, _, eq0 =>
    obtain ⟨k1, hk1, eq1⟩ := own_vals (σ := (un x0 x1 x2 x3 0 0 0 0)) (a := (.rem (.op2 .iand (.arg 2) (.int 2147483647)) (.int 3))) (u := 2) (by decide +kernel)
    match k1, hk1, eq1 with
    | 0, _, eq1 =>
      exact pr_15 l Z a0 hw ws x0 x1 x2 x3 ω ωe hW eq0 eq1
    | 1, _, eq1 =>
      exact pr_16 l Z a0 hw ws x0 x1 x2 x3 ω ωe hW eq0 eq1
    | 2, _, eq1 =>
      exact pr_17 l Z a0 hw ws x0 x1 x2 x3 ω ωe hW eq0 eq1
    | _ + 3, h, _ => exact absurd h (by omega)
  | 4, _, eq0 =>
    obtain ⟨k1, hk1, eq1⟩ := own_vals (σ := (un x0 x1 x2 x3 0 0 0 0)) (a := (.rem (.op2 .iand (.arg 2) (.int 2147483647)) (.int 2))) (u := 1) (by decide +kernel)
    match k1, hk1, eq1 with
    | 0, _, eq1 =>
      exact pr_18 l Z a0 hw ws x0 x1 x2 x3 ω ωe hW eq0 eq1
    | 1, _, eq1 =>
      exact pr_19 l Z a0 hw ws x0 x1 x2 x3 ω ωe hW eq0 eq1
    | _ + 2, h, _ => exact absurd h (by omega)
  | 5, _, eq0 =>
    obtain ⟨k1, hk1, eq1⟩ := own_vals (σ := (un x0 x1 x2 x3 0 0 0 0)) (a := (.rem (.op2 .iand (.arg 2) (.int 2147483647)) (.int 1))) (u := 0) (by decide +kernel)
    match k1, hk1, eq1 with
    | 0, _, eq1 =>
      exact pr_20 l Z a0 hw ws x0 x1 x2 x3 ω ωe hW eq0 eq1
    | _ + 1, h, _ => exact absurd h (by omega)
  | _ + 6, h, _ => exact absurd h (by omega)

set_option maxRecDepth 65536 in
set_option maxHeartbeats 40000000 in
theorem comes_1 {Post : Tables → Env → Array Value → State → Outcome → State → Prop} (hpost : ∀ tb e args s v u, (limb_1_1.after args s (.returned v) u = true ∧ limb_1_2.after args s (.returned v) u = true ∧ True) → FrameEnd s (.returned v) u (Jvm.fieldLocs frame_1_writes args s ++ Jvm.arrayLocs frame_1_arrays args s ++ Jvm.staticLocs frame_1_statics s) 64 25216 → Post tb e args s (.returned v) u) :
    ArmFor flags0 classFile x code maxLocals ret World_1 tables_1 room_1 Calls_1 rest_1 Pre_1 Post := by
  intro l hfl _ _ p e ha hc hk s m args below hf hA hF happ hP
  obtain ⟨hcalls, hrest, hpre⟩ := hP
  obtain ⟨-, -, -, hnamed, -, -, -, hat⟩ := (Spec.applies_iff hf).mp happ
  obtain ⟨hg, hn⟩ := and_e (Cond.before_iff.mp (show (Jvm.Cond.and given_1 narrow_1).before args s = true from hpre))
  obtain ⟨hcount, hgs⟩ := and_e hg
  obtain ⟨hk0, hr0⟩ := and_e hgs
  obtain ⟨hk1, hr1⟩ := and_e hr0
  obtain ⟨hk2, hr2⟩ := and_e hr1
  obtain ⟨v0, v1, v2, v3, rfl⟩ : ∃ v0 v1 v2 v3 : Value, args = #[v0, v1, v2, v3] := by
    have hs : args.size = 4 := by simpa [Cond.value, given_1] using hcount
    obtain ⟨L⟩ := args
    match L, hs with
    | [v0, v1, v2, v3], _ => exact ⟨v0, v1, v2, v3, rfl⟩
  have hw := fun d (hd : d ∈ tables_1) => atoms_spec (ws := Jvm.Cond.code x code maxLocals ret :: tables_1) hat d (List.mem_cons_of_mem _ hd)
  have hfit : Fit s := fun {y c} hc i hi => by
    obtain ⟨ha, rfl⟩ := Array.getElem?_eq_some_iff.mp hc
    have q := List.all_eq_true.mp ((Array.all_eq_true_iff_forall_mem.mp hF) _ (Array.getElem_mem ha)) i (List.mem_range.mpr hi)
    simpa [Array.getElem?_eq_getElem hi] using q
  obtain ⟨i0, ei0⟩ := is_v hk0
  obtain rfl : v0 = (.int i0) := Option.some.inj ei0
  obtain ⟨i1, ei1⟩ := is_v hk1
  obtain rfl : v1 = (.int i1) := Option.some.inj ei1
  obtain ⟨i2, ei2⟩ := is_v hk2
  obtain rfl : v2 = (.int i2) := Option.some.inj ei2
  obtain ⟨i3, ei3⟩ := is_v hr2
  obtain rfl : v3 = (.int i3) := Option.some.inj ei3
  obtain ⟨n1, n2⟩ := and_e hn
  obtain ⟨n3, n4⟩ := and_e n2
  obtain ⟨n5, n6⟩ := and_e n4
  obtain ⟨n7, n8⟩ := and_e n6
  obtain ⟨n9, n10⟩ := and_e n8
  obtain ⟨w_FIELD_NAME, e_w_FIELD_NAME⟩ := exa_v n1
  obtain ⟨w_START_OBJECT, e_w_START_OBJECT⟩ := exa_v n3
  obtain ⟨w_END_OBJECT, e_w_END_OBJECT⟩ := exa_v n9
  have h_S_w_FIELD_NAME := Sta.start e_w_FIELD_NAME (Or.inr ⟨(hw _ (List.mem_of_getElem? (i := 166) rfl)), (hw _ (List.mem_of_getElem? (i := 167) rfl))⟩)
  have h_E_w_FIELD_NAME := Exa.start e_w_FIELD_NAME n1
  have h_S_w_START_OBJECT := Sta.start e_w_START_OBJECT (Or.inr ⟨(hw _ (List.mem_of_getElem? (i := 166) rfl)), (hw _ (List.mem_of_getElem? (i := 181) rfl))⟩)
  have h_E_w_START_OBJECT := Exa.start e_w_START_OBJECT n3
  have h_S_w_END_OBJECT := Sta.start e_w_END_OBJECT (Or.inr ⟨(hw _ (List.mem_of_getElem? (i := 166) rfl)), (hw _ (List.mem_of_getElem? (i := 183) rfl))⟩)
  have h_E_w_END_OBJECT := Exa.start e_w_END_OBJECT n9
  have h_F_ordinal_w_START_OBJECT := own_fld e_w_START_OBJECT n5
  have h_F_ordinal_w_FIELD_NAME := own_fld e_w_FIELD_NAME n7
  have h_F_ordinal_w_END_OBJECT := own_fld e_w_END_OBJECT n10
  have hWo : ∀ e4 e5 e6 e7 : Int32, WoldN 3 (wl s i0 i1 i2 i3 e4 e5 e6 e7 (fun k => [w_START_OBJECT, w_FIELD_NAME, w_END_OBJECT].getD k 0) (fun _ _ => .null)) := by
    intro e4 e5 e6 e7
    refine ⟨fun k hk => ?_, fun k k' hk hk' q => ?_⟩
    · match k, hk with
      | 0, _ => exact h_E_w_START_OBJECT.lt
      | 1, _ => exact h_E_w_FIELD_NAME.lt
      | 2, _ => exact h_E_w_END_OBJECT.lt
    · match k, k', hk, hk', q with
      | 0, 0, _, _, _ => rfl
      | 0, 1, _, _, q => exact absurd q (Fld.ne h_F_ordinal_w_START_OBJECT h_F_ordinal_w_FIELD_NAME (by decide))
      | 0, 2, _, _, q => exact absurd q (Fld.ne h_F_ordinal_w_START_OBJECT h_F_ordinal_w_END_OBJECT (by decide))
      | 1, 0, _, _, q => exact absurd q (Fld.ne h_F_ordinal_w_FIELD_NAME h_F_ordinal_w_START_OBJECT (by decide))
      | 1, 1, _, _, _ => rfl
      | 1, 2, _, _, q => exact absurd q (Fld.ne h_F_ordinal_w_FIELD_NAME h_F_ordinal_w_END_OBJECT (by decide))
      | 2, 0, _, _, q => exact absurd q (Fld.ne h_F_ordinal_w_END_OBJECT h_F_ordinal_w_START_OBJECT (by decide))
      | 2, 1, _, _, q => exact absurd q (Fld.ne h_F_ordinal_w_END_OBJECT h_F_ordinal_w_FIELD_NAME (by decide))
      | 2, 2, _, _, _ => rfl
  have hWst : ∀ e4 e5 e6 e7 : Int32, Wst s #[(.int i0), (.int i1), (.int i2), (.int i3)] (wl s i0 i1 i2 i3 e4 e5 e6 e7 (fun k => [w_START_OBJECT, w_FIELD_NAME, w_END_OBJECT].getD k 0) (fun _ _ => .null)) := by
    intro e4 e5 e6 e7
    refine ⟨fun _ _ => rfl, hWo e4 e5 e6 e7, fun r hr => ?_, ?_⟩
    · match r, hr with
      | 0, _ => exact ⟨(hw _ (List.mem_of_getElem? (i := 165) rfl)), h_S_w_FIELD_NAME⟩
      | 1, _ => exact ⟨(hw _ (List.mem_of_getElem? (i := 180) rfl)), h_S_w_START_OBJECT⟩
      | 2, _ => exact ⟨(hw _ (List.mem_of_getElem? (i := 182) rfl)), h_S_w_END_OBJECT⟩
      | 3, _ => exact ⟨(hw _ (List.mem_of_getElem? (i := 190) rfl)), h_S_w_START_OBJECT⟩
      | _ + 4, h => exact absurd h (by show ¬ _ < 4; omega)
    · intro k hk
      have h0 : oLen k = 0 := by unfold oLen; cases Nat.blt k 0 <;> rfl
      exact absurd hk (by rw [h0]; decide)
  obtain ⟨n, o, h1, h2, h3, _, L, rfl, ⟨rfl, N⟩, hq⟩ := rm0 l s _ hw tables_1 i0 i1 i2 i3 _ _ hWst  p e ha hc hk s m _ below hf ((Spec.applies_iff_loose hf).mp happ).1 ⟨rfl, State.Warmed39.refl s, rfl⟩ trivial
  exact ⟨n, _, h1, h2, h3, hpost _ _ _ _ _ _ ⟨Cond.after_iff.mpr rfl, Cond.after_iff.mpr (eq_i res_at (Term.int_eval (1)) rfl), trivial⟩ ⟨hq.1, hq.2.1, (hq.2.2.sift fun y hy => Or.inr (N y hy)).mono (by decide) (by decide)⟩⟩
theorem main_1_1 : Claimed_1_1 := comes_1 fun _ _ _ _ _ _ h hF => ⟨h.1, hF⟩
theorem main_1_2 : Claimed_1_2 := comes_1 fun _ _ _ _ _ _ h hF => ⟨h.2.1, hF⟩
end Jvm.Pilot.@@N@@
namespace Jvm.Pilot.@@N@@
open Jvm Jvm.ClassFile Sem Op Lib Jvm.Free Jvm.Stand Jvm.Pilot.@@N@@.Jvm.D
/-! MADE BY PROGRAM (witnessworld.py) out of the Statement's table words and the real class files: 32 classes; the members and pool entries that the words name. The judged class is class 1, her method 4. -/
namespace start1
open Jvm.ClassFile
def u (s : String) : CpInfo := .utf8 (stringToUtf16 s)
/-- a pool by its gaps: so many unusable entries, then the entry; so many at the end -/
def gap : Nat → List CpInfo → List CpInfo
  | 0, r => r
  | n + 1, r => .unusable :: gap n r
def poolList (es : List (Nat × CpInfo)) (last : Nat) : List CpInfo := es.foldr (fun e r => gap e.1 (e.2 :: r)) (gap last [])
def pool (es : List (Nat × CpInfo)) (last : Nat) : Array CpInfo := ⟨poolList es last⟩
def fileOf (pool : Array CpInfo) (this : Nat) (attrs : Array Attribute := #[]) (ms : Array MethodInfo := #[]) (fl : Nat := 33) (sup : Nat := 0) (ifs : Array Nat := #[]) (fds : Array FieldInfo := #[]) : ClassFile where
  minorVersion := 0
  majorVersion := 65
  constantPool := pool
  accessFlags := fl
  thisClass := this
  superClass := sup
  interfaces := ifs
  fields := fds
  methods := ms
  attributes := attrs
def plain (name : String) (sup : Option ClassId) : Class where
  name := name
  kind := .ordinary
  loader := none
  accessFlags := 33
  super := sup
  interfaces := #[]
  cf := none
  fields := #[]
  methods := #[]
  instanceTypes := #[]
  staticTypes := #[]
  resolved := #[]
  callSites := []
  init := .initialized
  statics := none
  mirror := none

def pool0 : Array CpInfo := pool [(5, u "<init>"), (0, u "()V"), (1, .class_ 10), (1, u "java/lang/Object")] 113

def k0c0 : Code := { maxStack := 0, maxLocals := 1, code := object_method_1_code, exceptionTable := #[], attributes := #[] }
def k0m0 : Method := { name := "<init>", desc := "()V", sig := { parameters := [], returnType := none }, accessFlags := 1, code := some k0c0 }
/-- java/lang/Object -/
def k0 : Class := { plain "java/lang/Object" none with
  accessFlags := 33
  interfaces := #[]
  cf := some (fileOf pool0 8 #[] #[{ accessFlags := 1, nameIndex := 5, descriptorIndex := 6, attributes := #[] }] 33 0 #[] #[])
  fields := #[]
  methods := #[k0m0]
  instanceTypes := #[]
  staticTypes := #[]
  resolved := Array.replicate 124 none
  statics := none }

def pool1 : Array CpInfo := pool [(2, .class_ 4), (0, .nameAndType 5 6), (0, u "java/lang/Object"), (0, u "<init>"), (0, u "()V"), (0, .methodref 8 9), (0, .class_ 10), (0, .nameAndType 11 12), (0, u "com/example/latticut/latticut/io/PlainTokensStartPinLaw"), (0, u "isSpace"), (0, u "(B)Z"), (0, .methodref 8 14), (0, .nameAndType 15 16), (0, u "pick"), (0, u "(I)B"), (0, .integer 2147483647), (0, .class_ 19), (0, u "com/example/latticut/latticut/io/PlainTokens"), (0, .methodref 18 3), (0, .methodref 18 22), (0, .nameAndType 23 24), (0, u "start"), (0, u "([BIIZ)V"), (0, .methodref 18 26), (0, .nameAndType 27 28), (0, u "nextToken"), (0, u "()Lcom/example/latticut/latticut/io/Token;"), (0, .methodref 18 30), (0, .nameAndType 31 28), (0, u "currentToken"), (0, .methodref 8 33), (0, .nameAndType 34 35), (0, u "skip"), (0, u "([BII)I"), (0, .methodref 18 37), (0, .nameAndType 38 39), (0, u "blank"), (0, u "()Z"), (0, .methodref 18 41), (0, .nameAndType 42 43), (0, u "end"), (0, u "()I"), (0, .fieldref 45 46), (0, .class_ 47), (0, .nameAndType 48 49), (0, u "com/example/latticut/latticut/io/Token"), (0, u "START_OBJECT"), (0, u "Lcom/example/latticut/latticut/io/Token;"), (3, u "law"), (0, u "(IIII)Z")] 7

def k1m0 : Method := { name := "<init>", desc := "()V", sig := { parameters := [], returnType := none }, accessFlags := 1, code := none }
def k1c1 : Code := { maxStack := 4, maxLocals := 2, code := method_2_code, exceptionTable := #[], attributes := #[] }
def k1m1 : Method := { name := "pick", desc := "(I)B", sig := { parameters := [.int], returnType := some .byte }, accessFlags := 10, code := some k1c1 }
def k1c2 : Code := { maxStack := 2, maxLocals := 1, code := method_3_code, exceptionTable := #[], attributes := #[] }
def k1m2 : Method := { name := "isSpace", desc := "(B)Z", sig := { parameters := [.byte], returnType := some .boolean }, accessFlags := 10, code := some k1c2 }
def k1c3 : Code := { maxStack := 2, maxLocals := 3, code := method_4_code, exceptionTable := #[], attributes := #[] }
def k1m3 : Method := { name := "skip", desc := "([BII)I", sig := { parameters := [(.array .byte), .int, .int], returnType := some .int }, accessFlags := 10, code := some k1c3 }
def k1c4 : Code := { maxStack := 5, maxLocals := 14, code := code, exceptionTable := #[], attributes := #[] }
def k1m4 : Method := { name := "law", desc := "(IIII)Z", sig := { parameters := [.int, .int, .int, .int], returnType := some .boolean }, accessFlags := 9, code := some k1c4 }
/-- com/example/latticut/latticut/io/PlainTokensStartPinLaw -/
def k1 : Class := { plain "com/example/latticut/latticut/io/PlainTokensStartPinLaw" (some 0) with
  accessFlags := 49
  interfaces := #[]
  cf := some (fileOf pool1 8 #[] #[{ accessFlags := 1, nameIndex := 5, descriptorIndex := 6, attributes := #[] }, { accessFlags := 10, nameIndex := 15, descriptorIndex := 16, attributes := #[] }, { accessFlags := 10, nameIndex := 11, descriptorIndex := 12, attributes := #[] }, { accessFlags := 10, nameIndex := 34, descriptorIndex := 35, attributes := #[] }, { accessFlags := 9, nameIndex := 53, descriptorIndex := 54, attributes := #[] }] 49 2 #[] #[])
  fields := #[]
  methods := #[k1m0, k1m1, k1m2, k1m3, k1m4]
  instanceTypes := #[]
  staticTypes := #[]
  resolved := Array.replicate 62 none
  statics := none }

def pool2 : Array CpInfo := pool [(2, .class_ 4), (1, u "com/example/latticut/latticut/io/LineTokens"), (12, .class_ 18), (0, u "java/lang/Object")] 33

/-- com/example/latticut/latticut/io/LineTokens -/
def k2 : Class := { plain "com/example/latticut/latticut/io/LineTokens" (some 0) with
  accessFlags := 1536
  interfaces := #[]
  cf := some (fileOf pool2 2 #[] #[] 1536 17 #[] #[])
  fields := #[]
  methods := #[]
  instanceTypes := #[]
  staticTypes := #[]
  resolved := Array.replicate 52 none
  statics := none }

def pool3 : Array CpInfo := pool [(1, .methodref 2 3), (0, .class_ 4), (0, .nameAndType 5 6), (0, u "java/lang/Object"), (0, u "<init>"), (0, u "()V"), (0, .class_ 8), (0, u "com/example/latticut/latticut/io/PlainTokens$Names"), (0, .methodref 7 3), (0, .fieldref 11 12), (0, .class_ 13), (0, .nameAndType 14 15), (0, u "com/example/latticut/latticut/io/PlainTokens"), (0, u "names"), (0, u "Lcom/example/latticut/latticut/io/PlainTokens$Names;"), (0, .class_ 17), (0, u "com/example/latticut/latticut/io/Texts"), (0, .methodref 16 3), (0, .fieldref 11 20), (0, .nameAndType 21 22), (0, u "labels"), (0, u "Lcom/example/latticut/latticut/io/Texts;"), (0, .fieldref 11 24), (0, .nameAndType 25 22), (0, u "sets"), (0, .fieldref 11 27), (0, .nameAndType 28 29), (0, u "list"), (0, u "[Z"), (0, .fieldref 11 31), (0, .nameAndType 32 33), (0, u "objects"), (0, u "[J"), (0, .class_ 35), (0, u "com/example/latticut/latticut/io/PlainTokens$Kept"), (0, .fieldref 11 37), (0, .nameAndType 38 39), (0, u "kept"), (0, u "[Lcom/example/latticut/latticut/io/PlainTokens$Kept;"), (0, .class_ 41), (0, u "com/example/latticut/latticut/model/Event"), (0, .fieldref 11 43), (0, .nameAndType 44 45), (0, u "offered"), (0, u "[Lcom/example/latticut/latticut/model/Event;"), (0, .fieldref 11 47), (0, .nameAndType 48 49), (0, u "prior"), (0, u "[B"), (0, .fieldref 11 51), (0, .nameAndType 52 53), (0, u "priorEntries"), (0, u "[I"), (0, .fieldref 11 55), (0, .nameAndType 56 53), (0, u "entries"), (0, .fieldref 11 58), (0, .nameAndType 59 53), (0, u "integers"), (0, .fieldref 11 61), (0, .nameAndType 62 33), (0, u "repeatedIntegers"), (0, .fieldref 11 64), (0, .nameAndType 65 49), (0, u "bytes"), (0, .fieldref 11 67), (0, .nameAndType 68 69), (0, u "pos"), (0, u "I"), (0, .fieldref 11 71), (0, .nameAndType 72 69), (0, u "limit"), (0, .fieldref 11 74), (0, .nameAndType 75 76), (0, u "whole"), (0, u "Z"), (0, .fieldref 11 78), (0, .nameAndType 79 69), (0, u "lineStart"), (0, .fieldref 11 81), (0, .nameAndType 82 69), (0, u "depth"), (0, .fieldref 11 84), (0, .nameAndType 85 86), (0, u "current"), (0, u "Lcom/example/latticut/latticut/io/Token;"), (0, .fieldref 11 88), (0, .nameAndType 89 76), (0, u "ended"), (0, .fieldref 11 91), (0, .nameAndType 92 93), (0, u "name"), (0, u "Lcom/example/latticut/latticut/io/PlainTokens$Name;"), (0, .fieldref 11 95), (0, .nameAndType 96 69), (0, u "clockStart"), (0, .fieldref 11 98), (0, .nameAndType 99 69), (0, u "clockEnd"), (0, .fieldref 11 101), (0, .nameAndType 102 69), (0, u "clockProcess"), (0, .fieldref 11 104), (0, .nameAndType 105 69), (0, u "ownName"), (0, .fieldref 11 107), (0, .nameAndType 108 76), (0, u "repeated"), (0, .fieldref 11 110), (0, .nameAndType 111 76), (0, u "lineRepeated"), (0, .fieldref 11 113), (0, .nameAndType 114 69), (0, u "triedClock"), (0, .fieldref 11 116), (0, .nameAndType 117 69), (0, u "integerCount"), (5, u "()I"), (2, u "entryByEntry"), (23, .class_ 152), (1, u "com/example/latticut/latticut/io/PlainTokens$Name"), (5, .class_ 159), (0, u "com/example/latticut/latticut/io/PlainTokens$Declined"), (7, .methodref 11 168), (0, .nameAndType 169 6), (0, u "skipSpace"), (0, .methodref 11 171), (0, .nameAndType 172 173), (0, u "peek"), (0, u "()B"), (0, .methodref 175 176), (0, .class_ 177), (0, .nameAndType 178 179), (0, u "java/lang/Math"), (0, u "min"), (0, u "(II)I"), (0, .fieldref 11 181), (0, .nameAndType 182 69), (0, u "end"), (0, .fieldref 184 185), (0, .class_ 186), (0, .nameAndType 187 86), (0, u "com/example/latticut/latticut/io/Token"), (0, u "FIELD_NAME"), (6, u "()Lcom/example/latticut/latticut/io/Token;"), (1, .methodref 11 197), (0, .nameAndType 198 194), (0, u "value"), (3, .methodref 11 203), (0, .nameAndType 204 205), (0, u "close"), (0, u "(Lcom/example/latticut/latticut/io/Token;)Lcom/example/latticut/latticut/io/Token;"), (7, .fieldref 184 214), (0, .nameAndType 215 86), (0, u "END_OBJECT"), (0, .fieldref 184 217), (0, .nameAndType 218 86), (0, u "START_OBJECT"), (4, .fieldref 11 224), (0, .nameAndType 225 69), (0, u "start"), (26, .nameAndType 253 254), (0, u "text"), (0, u "Ljava/lang/String;"), (15, .class_ 272), (1, u "com/example/latticut/latticut/io/LineTokens"), (2, .fieldref 11 276), (0, .nameAndType 277 76), (0, u "noting"), (0, .fieldref 11 279), (0, .nameAndType 280 69), (0, u "next"), (16, .fieldref 11 298), (0, .nameAndType 299 69), (0, u "stop"), (22, u "J"), (6, u "number"), (2, u "entryInts"), (12, u "priorInts"), (14, u "unshared"), (2, u "priorLength"), (19, .fieldref 11 252), (3, .fieldref 11 388), (0, .nameAndType 389 322), (0, u "clockObject"), (2, u "triedClockEnd"), (10, u "triedOwn"), (6, u "PROCESS"), (4, .fieldref 11 416), (0, .nameAndType 417 322), (0, u "opened"), (2, u "CLOCK"), (38, u "SET"), (5, u "LABEL"), (11, u "SEND"), (0, .methodref 11 479), (0, .nameAndType 480 481), (0, u "open"), (0, u "(Z)V"), (9, u "RECEIVE"), (8, u "stringHash"), (3, .fieldref 11 505), (0, .nameAndType 506 76), (0, u "ascii"), (64, u "TRUE"), (2, u "FALSE"), (21, .class_ 598), (1, u "com/example/latticut/latticut/io/PlainTokens$Line"), (68, u "NULL"), (8, .class_ 677), (0, u "com/example/latticut/latticut/io/PlainTokens$Unfinished"), (6, u "utf8"), (0, u "Ljava/nio/charset/CharsetDecoder;"), (41, u "MAX_DEPTH"), (2, u "MAX_DIGITS"), (1, u "MAX_COUNT_DIGITS"), (1, u "ENTRY"), (1, u "NOTE_EVERY"), (1, u "ENTRY_BY_ENTRY"), (1, u "LOOPED"), (3, u "([BIIZ)V"), (6, u "blank"), (0, u "()Z"), (1, u "nextToken"), (2, u "currentToken")] 36

def k3c0 : Code := { maxStack := 3, maxLocals := 1, code := prog_126_method_1_code, exceptionTable := #[], attributes := #[] }
def k3m0 : Method := { name := "<init>", desc := "()V", sig := { parameters := [], returnType := none }, accessFlags := 0, code := some k3c0 }
def k3c1 : Code := { maxStack := 2, maxLocals := 5, code := prog_126_method_2_code, exceptionTable := #[], attributes := #[] }
def k3m1 : Method := { name := "start", desc := "([BIIZ)V", sig := { parameters := [(.array .byte), .int, .int, .boolean], returnType := none }, accessFlags := 0, code := some k3c1 }
def k3c2 : Code := { maxStack := 3, maxLocals := 1, code := prog_126_method_5_code, exceptionTable := #[], attributes := #[] }
def k3m2 : Method := { name := "blank", desc := "()Z", sig := { parameters := [], returnType := some .boolean }, accessFlags := 0, code := some k3c2 }
def k3c3 : Code := { maxStack := 1, maxLocals := 1, code := prog_126_method_6_code, exceptionTable := #[], attributes := #[] }
def k3m3 : Method := { name := "end", desc := "()I", sig := { parameters := [], returnType := some .int }, accessFlags := 0, code := some k3c3 }
def k3c4 : Code := { maxStack := 3, maxLocals := 2, code := prog_126_method_7_code, exceptionTable := #[], attributes := #[] }
def k3m4 : Method := { name := "nextToken", desc := "()Lcom/example/latticut/latticut/io/Token;", sig := { parameters := [], returnType := some (.object "com/example/latticut/latticut/io/Token") }, accessFlags := 1, code := some k3c4 }
def k3c5 : Code := { maxStack := 1, maxLocals := 1, code := prog_126_method_10_code, exceptionTable := #[], attributes := #[] }
def k3m5 : Method := { name := "currentToken", desc := "()Lcom/example/latticut/latticut/io/Token;", sig := { parameters := [], returnType := some (.object "com/example/latticut/latticut/io/Token") }, accessFlags := 1, code := some k3c5 }
def k3c6 : Code := { maxStack := 7, maxLocals := 3, code := prog_126_method_51_code, exceptionTable := #[], attributes := #[] }
def k3m6 : Method := { name := "value", desc := "()Lcom/example/latticut/latticut/io/Token;", sig := { parameters := [], returnType := some (.object "com/example/latticut/latticut/io/Token") }, accessFlags := 2, code := some k3c6 }
def k3c7 : Code := { maxStack := 5, maxLocals := 2, code := prog_126_method_52_code, exceptionTable := #[], attributes := #[] }
def k3m7 : Method := { name := "open", desc := "(Z)V", sig := { parameters := [.boolean], returnType := none }, accessFlags := 2, code := some k3c7 }
def k3c8 : Code := { maxStack := 4, maxLocals := 2, code := prog_126_method_53_code, exceptionTable := #[], attributes := #[] }
def k3m8 : Method := { name := "close", desc := "(Lcom/example/latticut/latticut/io/Token;)Lcom/example/latticut/latticut/io/Token;", sig := { parameters := [(.object "com/example/latticut/latticut/io/Token")], returnType := some (.object "com/example/latticut/latticut/io/Token") }, accessFlags := 2, code := some k3c8 }
def k3c9 : Code := { maxStack := 2, maxLocals := 1, code := prog_126_method_65_code, exceptionTable := #[], attributes := #[] }
def k3m9 : Method := { name := "peek", desc := "()B", sig := { parameters := [], returnType := some .byte }, accessFlags := 2, code := some k3c9 }
def k3c10 : Code := { maxStack := 3, maxLocals := 2, code := prog_126_method_66_code, exceptionTable := #[], attributes := #[] }
def k3m10 : Method := { name := "skipSpace", desc := "()V", sig := { parameters := [], returnType := none }, accessFlags := 2, code := some k3c10 }
/-- com/example/latticut/latticut/io/PlainTokens -/
def k3 : Class := { plain "com/example/latticut/latticut/io/PlainTokens" (some 0) with
  accessFlags := 48
  interfaces := #[2]
  cf := some (fileOf pool3 11 #[.nestMembers #[7, 150, 596, 34, 676, 158]] #[{ accessFlags := 0, nameIndex := 5, descriptorIndex := 6, attributes := #[] }, { accessFlags := 0, nameIndex := 225, descriptorIndex := 744, attributes := #[] }, { accessFlags := 0, nameIndex := 751, descriptorIndex := 752, attributes := #[] }, { accessFlags := 0, nameIndex := 182, descriptorIndex := 123, attributes := #[] }, { accessFlags := 1, nameIndex := 754, descriptorIndex := 194, attributes := #[] }, { accessFlags := 1, nameIndex := 757, descriptorIndex := 194, attributes := #[] }, { accessFlags := 2, nameIndex := 198, descriptorIndex := 194, attributes := #[] }, { accessFlags := 2, nameIndex := 480, descriptorIndex := 481, attributes := #[] }, { accessFlags := 2, nameIndex := 204, descriptorIndex := 205, attributes := #[] }, { accessFlags := 2, nameIndex := 172, descriptorIndex := 173, attributes := #[] }, { accessFlags := 2, nameIndex := 169, descriptorIndex := 6, attributes := #[] }] 48 2 #[270] #[{ accessFlags := 26, nameIndex := 727, descriptorIndex := 69, attributes := #[] }, { accessFlags := 26, nameIndex := 730, descriptorIndex := 69, attributes := #[] }, { accessFlags := 26, nameIndex := 732, descriptorIndex := 69, attributes := #[] }, { accessFlags := 26, nameIndex := 734, descriptorIndex := 69, attributes := #[] }, { accessFlags := 26, nameIndex := 736, descriptorIndex := 69, attributes := #[] }, { accessFlags := 26, nameIndex := 738, descriptorIndex := 69, attributes := #[] }, { accessFlags := 26, nameIndex := 740, descriptorIndex := 69, attributes := #[] }, { accessFlags := 26, nameIndex := 410, descriptorIndex := 49, attributes := #[] }, { accessFlags := 26, nameIndex := 420, descriptorIndex := 49, attributes := #[] }, { accessFlags := 26, nameIndex := 459, descriptorIndex := 49, attributes := #[] }, { accessFlags := 26, nameIndex := 465, descriptorIndex := 49, attributes := #[] }, { accessFlags := 26, nameIndex := 477, descriptorIndex := 49, attributes := #[] }, { accessFlags := 26, nameIndex := 491, descriptorIndex := 49, attributes := #[] }, { accessFlags := 26, nameIndex := 571, descriptorIndex := 49, attributes := #[] }, { accessFlags := 26, nameIndex := 574, descriptorIndex := 49, attributes := #[] }, { accessFlags := 26, nameIndex := 667, descriptorIndex := 49, attributes := #[] }, { accessFlags := 18, nameIndex := 14, descriptorIndex := 15, attributes := #[] }, { accessFlags := 18, nameIndex := 21, descriptorIndex := 22, attributes := #[] }, { accessFlags := 18, nameIndex := 25, descriptorIndex := 22, attributes := #[] }, { accessFlags := 2, nameIndex := 684, descriptorIndex := 685, attributes := #[] }, { accessFlags := 2, nameIndex := 65, descriptorIndex := 49, attributes := #[] }, { accessFlags := 2, nameIndex := 68, descriptorIndex := 69, attributes := #[] }, { accessFlags := 2, nameIndex := 72, descriptorIndex := 69, attributes := #[] }, { accessFlags := 2, nameIndex := 75, descriptorIndex := 76, attributes := #[] }, { accessFlags := 2, nameIndex := 79, descriptorIndex := 69, attributes := #[] }, { accessFlags := 2, nameIndex := 182, descriptorIndex := 69, attributes := #[] }, { accessFlags := 2, nameIndex := 82, descriptorIndex := 69, attributes := #[] }, { accessFlags := 18, nameIndex := 28, descriptorIndex := 29, attributes := #[] }, { accessFlags := 18, nameIndex := 32, descriptorIndex := 33, attributes := #[] }, { accessFlags := 2, nameIndex := 417, descriptorIndex := 322, attributes := #[] }, { accessFlags := 2, nameIndex := 85, descriptorIndex := 86, attributes := #[] }, { accessFlags := 2, nameIndex := 89, descriptorIndex := 76, attributes := #[] }, { accessFlags := 2, nameIndex := 92, descriptorIndex := 93, attributes := #[] }, { accessFlags := 2, nameIndex := 225, descriptorIndex := 69, attributes := #[] }, { accessFlags := 2, nameIndex := 299, descriptorIndex := 69, attributes := #[] }, { accessFlags := 2, nameIndex := 253, descriptorIndex := 254, attributes := #[] }, { accessFlags := 2, nameIndex := 506, descriptorIndex := 76, attributes := #[] }, { accessFlags := 2, nameIndex := 500, descriptorIndex := 69, attributes := #[] }, { accessFlags := 2, nameIndex := 329, descriptorIndex := 322, attributes := #[] }, { accessFlags := 2, nameIndex := 280, descriptorIndex := 69, attributes := #[] }, { accessFlags := 2, nameIndex := 38, descriptorIndex := 39, attributes := #[] }, { accessFlags := 2, nameIndex := 44, descriptorIndex := 45, attributes := #[] }, { accessFlags := 2, nameIndex := 96, descriptorIndex := 69, attributes := #[] }, { accessFlags := 2, nameIndex := 99, descriptorIndex := 69, attributes := #[] }, { accessFlags := 2, nameIndex := 389, descriptorIndex := 322, attributes := #[] }, { accessFlags := 2, nameIndex := 102, descriptorIndex := 69, attributes := #[] }, { accessFlags := 2, nameIndex := 105, descriptorIndex := 69, attributes := #[] }, { accessFlags := 2, nameIndex := 48, descriptorIndex := 49, attributes := #[] }, { accessFlags := 2, nameIndex := 363, descriptorIndex := 69, attributes := #[] }, { accessFlags := 2, nameIndex := 52, descriptorIndex := 53, attributes := #[] }, { accessFlags := 2, nameIndex := 345, descriptorIndex := 69, attributes := #[] }, { accessFlags := 2, nameIndex := 56, descriptorIndex := 53, attributes := #[] }, { accessFlags := 2, nameIndex := 332, descriptorIndex := 69, attributes := #[] }, { accessFlags := 2, nameIndex := 277, descriptorIndex := 76, attributes := #[] }, { accessFlags := 2, nameIndex := 360, descriptorIndex := 69, attributes := #[] }, { accessFlags := 2, nameIndex := 108, descriptorIndex := 76, attributes := #[] }, { accessFlags := 2, nameIndex := 111, descriptorIndex := 76, attributes := #[] }, { accessFlags := 2, nameIndex := 126, descriptorIndex := 76, attributes := #[] }, { accessFlags := 2, nameIndex := 114, descriptorIndex := 69, attributes := #[] }, { accessFlags := 2, nameIndex := 392, descriptorIndex := 69, attributes := #[] }, { accessFlags := 2, nameIndex := 403, descriptorIndex := 322, attributes := #[] }, { accessFlags := 2, nameIndex := 59, descriptorIndex := 53, attributes := #[] }, { accessFlags := 2, nameIndex := 117, descriptorIndex := 69, attributes := #[] }, { accessFlags := 2, nameIndex := 62, descriptorIndex := 33, attributes := #[] }])
  fields := #[{ name := "MAX_DEPTH", type := .int, accessFlags := 26, slot := 0, constantValue := 0 }, { name := "MAX_DIGITS", type := .int, accessFlags := 26, slot := 1, constantValue := 0 }, { name := "MAX_COUNT_DIGITS", type := .int, accessFlags := 26, slot := 2, constantValue := 0 }, { name := "ENTRY", type := .int, accessFlags := 26, slot := 3, constantValue := 0 }, { name := "NOTE_EVERY", type := .int, accessFlags := 26, slot := 4, constantValue := 0 }, { name := "ENTRY_BY_ENTRY", type := .int, accessFlags := 26, slot := 5, constantValue := 0 }, { name := "LOOPED", type := .int, accessFlags := 26, slot := 6, constantValue := 0 }, { name := "PROCESS", type := (.array .byte), accessFlags := 26, slot := 7, constantValue := 0 }, { name := "CLOCK", type := (.array .byte), accessFlags := 26, slot := 8, constantValue := 0 }, { name := "SET", type := (.array .byte), accessFlags := 26, slot := 9, constantValue := 0 }, { name := "LABEL", type := (.array .byte), accessFlags := 26, slot := 10, constantValue := 0 }, { name := "SEND", type := (.array .byte), accessFlags := 26, slot := 11, constantValue := 0 }, { name := "RECEIVE", type := (.array .byte), accessFlags := 26, slot := 12, constantValue := 0 }, { name := "TRUE", type := (.array .byte), accessFlags := 26, slot := 13, constantValue := 0 }, { name := "FALSE", type := (.array .byte), accessFlags := 26, slot := 14, constantValue := 0 }, { name := "NULL", type := (.array .byte), accessFlags := 26, slot := 15, constantValue := 0 }, { name := "names", type := (.object "com/example/latticut/latticut/io/PlainTokens$Names"), accessFlags := 18, slot := 0, constantValue := 0 }, { name := "labels", type := (.object "com/example/latticut/latticut/io/Texts"), accessFlags := 18, slot := 1, constantValue := 0 }, { name := "sets", type := (.object "com/example/latticut/latticut/io/Texts"), accessFlags := 18, slot := 2, constantValue := 0 }, { name := "utf8", type := (.object "java/nio/charset/CharsetDecoder"), accessFlags := 2, slot := 3, constantValue := 0 }, { name := "bytes", type := (.array .byte), accessFlags := 2, slot := 4, constantValue := 0 }, { name := "pos", type := .int, accessFlags := 2, slot := 5, constantValue := 0 }, { name := "limit", type := .int, accessFlags := 2, slot := 6, constantValue := 0 }, { name := "whole", type := .boolean, accessFlags := 2, slot := 7, constantValue := 0 }, { name := "lineStart", type := .int, accessFlags := 2, slot := 8, constantValue := 0 }, { name := "end", type := .int, accessFlags := 2, slot := 9, constantValue := 0 }, { name := "depth", type := .int, accessFlags := 2, slot := 10, constantValue := 0 }, { name := "list", type := (.array .boolean), accessFlags := 18, slot := 11, constantValue := 0 }, { name := "objects", type := (.array .long), accessFlags := 18, slot := 12, constantValue := 0 }, { name := "opened", type := .long, accessFlags := 2, slot := 13, constantValue := 0 }, { name := "current", type := (.object "com/example/latticut/latticut/io/Token"), accessFlags := 2, slot := 14, constantValue := 0 }, { name := "ended", type := .boolean, accessFlags := 2, slot := 15, constantValue := 0 }, { name := "name", type := (.object "com/example/latticut/latticut/io/PlainTokens$Name"), accessFlags := 2, slot := 16, constantValue := 0 }, { name := "start", type := .int, accessFlags := 2, slot := 17, constantValue := 0 }, { name := "stop", type := .int, accessFlags := 2, slot := 18, constantValue := 0 }, { name := "text", type := (.object "java/lang/String"), accessFlags := 2, slot := 19, constantValue := 0 }, { name := "ascii", type := .boolean, accessFlags := 2, slot := 20, constantValue := 0 }, { name := "stringHash", type := .int, accessFlags := 2, slot := 21, constantValue := 0 }, { name := "number", type := .long, accessFlags := 2, slot := 22, constantValue := 0 }, { name := "next", type := .int, accessFlags := 2, slot := 23, constantValue := 0 }, { name := "kept", type := (.array (.object "com/example/latticut/latticut/io/PlainTokens$Kept")), accessFlags := 2, slot := 24, constantValue := 0 }, { name := "offered", type := (.array (.object "com/example/latticut/latticut/model/Event")), accessFlags := 2, slot := 25, constantValue := 0 }, { name := "clockStart", type := .int, accessFlags := 2, slot := 26, constantValue := 0 }, { name := "clockEnd", type := .int, accessFlags := 2, slot := 27, constantValue := 0 }, { name := "clockObject", type := .long, accessFlags := 2, slot := 28, constantValue := 0 }, { name := "clockProcess", type := .int, accessFlags := 2, slot := 29, constantValue := 0 }, { name := "ownName", type := .int, accessFlags := 2, slot := 30, constantValue := 0 }, { name := "prior", type := (.array .byte), accessFlags := 2, slot := 31, constantValue := 0 }, { name := "priorLength", type := .int, accessFlags := 2, slot := 32, constantValue := 0 }, { name := "priorEntries", type := (.array .int), accessFlags := 2, slot := 33, constantValue := 0 }, { name := "priorInts", type := .int, accessFlags := 2, slot := 34, constantValue := 0 }, { name := "entries", type := (.array .int), accessFlags := 2, slot := 35, constantValue := 0 }, { name := "entryInts", type := .int, accessFlags := 2, slot := 36, constantValue := 0 }, { name := "noting", type := .boolean, accessFlags := 2, slot := 37, constantValue := 0 }, { name := "unshared", type := .int, accessFlags := 2, slot := 38, constantValue := 0 }, { name := "repeated", type := .boolean, accessFlags := 2, slot := 39, constantValue := 0 }, { name := "lineRepeated", type := .boolean, accessFlags := 2, slot := 40, constantValue := 0 }, { name := "entryByEntry", type := .boolean, accessFlags := 2, slot := 41, constantValue := 0 }, { name := "triedClock", type := .int, accessFlags := 2, slot := 42, constantValue := 0 }, { name := "triedClockEnd", type := .int, accessFlags := 2, slot := 43, constantValue := 0 }, { name := "triedOwn", type := .long, accessFlags := 2, slot := 44, constantValue := 0 }, { name := "integers", type := (.array .int), accessFlags := 2, slot := 45, constantValue := 0 }, { name := "integerCount", type := .int, accessFlags := 2, slot := 46, constantValue := 0 }, { name := "repeatedIntegers", type := (.array .long), accessFlags := 2, slot := 47, constantValue := 0 }]
  methods := #[k3m0, k3m1, k3m2, k3m3, k3m4, k3m5, k3m6, k3m7, k3m8, k3m9, k3m10]
  instanceTypes := #[(.object "com/example/latticut/latticut/io/PlainTokens$Names"), (.object "com/example/latticut/latticut/io/Texts"), (.object "com/example/latticut/latticut/io/Texts"), (.object "java/nio/charset/CharsetDecoder"), (.array .byte), .int, .int, .boolean, .int, .int, .int, (.array .boolean), (.array .long), .long, (.object "com/example/latticut/latticut/io/Token"), .boolean, (.object "com/example/latticut/latticut/io/PlainTokens$Name"), .int, .int, (.object "java/lang/String"), .boolean, .int, .long, .int, (.array (.object "com/example/latticut/latticut/io/PlainTokens$Kept")), (.array (.object "com/example/latticut/latticut/model/Event")), .int, .int, .long, .int, .int, (.array .byte), .int, (.array .int), .int, (.array .int), .int, .boolean, .int, .boolean, .boolean, .boolean, .int, .int, .long, (.array .int), .int, (.array .long)]
  staticTypes := #[.int, .int, .int, .int, .int, .int, .int, (.array .byte), (.array .byte), (.array .byte), (.array .byte), (.array .byte), (.array .byte), (.array .byte), (.array .byte), (.array .byte)]
  resolved := ((Array.replicate 794 none).set! 7 (some (.cls 4))).set! 9 (some (.method ⟨4, 0⟩))
  statics := none }

def pool4 : Array CpInfo := pool [(1, .methodref 2 3), (0, .class_ 4), (0, .nameAndType 5 6), (0, u "java/lang/Object"), (0, u "<init>"), (0, u "()V"), (0, .class_ 8), (0, u "com/example/latticut/latticut/io/PlainTokens$Name"), (0, .fieldref 10 11), (0, .class_ 12), (0, .nameAndType 13 14), (0, u "com/example/latticut/latticut/io/PlainTokens$Names"), (0, u "slots"), (0, u "[Lcom/example/latticut/latticut/io/PlainTokens$Name;"), (0, .methodref 10 16), (0, .nameAndType 17 18), (0, u "shift"), (0, u "([Lcom/example/latticut/latticut/io/PlainTokens$Name;)I"), (0, .fieldref 10 20), (0, .nameAndType 17 21), (0, u "I"), (0, .fieldref 10 23), (0, .nameAndType 24 14), (0, u "byProcess"), (18, u "processNames"), (10, u "size"), (23, u "lastAsked"), (0, u "Lcom/example/latticut/latticut/io/PlainTokens$Name;"), (3, .methodref 84 85), (0, .class_ 86), (0, .nameAndType 87 88), (0, u "java/lang/Integer"), (0, u "numberOfLeadingZeros"), (0, u "(I)I"), (0, u "PROBES"), (2, u "MAX_NAMES"), (15, .class_ 109), (0, u "com/example/latticut/latticut/io/PlainTokens")] 4

def k4c0 : Code := { maxStack := 2, maxLocals := 1, code := prog_131_method_1_code, exceptionTable := #[], attributes := #[] }
def k4m0 : Method := { name := "<init>", desc := "()V", sig := { parameters := [], returnType := none }, accessFlags := 2, code := some k4c0 }
def k4c1 : Code := { maxStack := 2, maxLocals := 1, code := prog_131_method_9_code, exceptionTable := #[], attributes := #[] }
def k4m1 : Method := { name := "shift", desc := "([Lcom/example/latticut/latticut/io/PlainTokens$Name;)I", sig := { parameters := [(.array (.object "com/example/latticut/latticut/io/PlainTokens$Name"))], returnType := some .int }, accessFlags := 10, code := some k4c1 }
/-- com/example/latticut/latticut/io/PlainTokens$Names -/
def k4 : Class := { plain "com/example/latticut/latticut/io/PlainTokens$Names" (some 0) with
  accessFlags := 48
  interfaces := #[]
  cf := some (fileOf pool4 10 #[.nestHost 108] #[{ accessFlags := 2, nameIndex := 5, descriptorIndex := 6, attributes := #[] }, { accessFlags := 10, nameIndex := 17, descriptorIndex := 18, attributes := #[] }] 48 2 #[] #[{ accessFlags := 24, nameIndex := 89, descriptorIndex := 21, attributes := #[] }, { accessFlags := 24, nameIndex := 92, descriptorIndex := 21, attributes := #[] }, { accessFlags := 2, nameIndex := 13, descriptorIndex := 14, attributes := #[] }, { accessFlags := 2, nameIndex := 17, descriptorIndex := 21, attributes := #[] }, { accessFlags := 2, nameIndex := 54, descriptorIndex := 21, attributes := #[] }, { accessFlags := 2, nameIndex := 43, descriptorIndex := 21, attributes := #[] }, { accessFlags := 0, nameIndex := 24, descriptorIndex := 14, attributes := #[] }, { accessFlags := 0, nameIndex := 78, descriptorIndex := 79, attributes := #[] }])
  fields := #[{ name := "PROBES", type := .int, accessFlags := 24, slot := 0, constantValue := 0 }, { name := "MAX_NAMES", type := .int, accessFlags := 24, slot := 1, constantValue := 0 }, { name := "slots", type := (.array (.object "com/example/latticut/latticut/io/PlainTokens$Name")), accessFlags := 2, slot := 0, constantValue := 0 }, { name := "shift", type := .int, accessFlags := 2, slot := 1, constantValue := 0 }, { name := "size", type := .int, accessFlags := 2, slot := 2, constantValue := 0 }, { name := "processNames", type := .int, accessFlags := 2, slot := 3, constantValue := 0 }, { name := "byProcess", type := (.array (.object "com/example/latticut/latticut/io/PlainTokens$Name")), accessFlags := 0, slot := 4, constantValue := 0 }, { name := "lastAsked", type := (.object "com/example/latticut/latticut/io/PlainTokens$Name"), accessFlags := 0, slot := 5, constantValue := 0 }]
  methods := #[k4m0, k4m1]
  instanceTypes := #[(.array (.object "com/example/latticut/latticut/io/PlainTokens$Name")), .int, .int, .int, (.array (.object "com/example/latticut/latticut/io/PlainTokens$Name")), (.object "com/example/latticut/latticut/io/PlainTokens$Name")]
  staticTypes := #[.int, .int]
  resolved := Array.replicate 114 none
  statics := none }

def pool5 : Array CpInfo := pool [(2, .class_ 4), (1, u "java/lang/Object"), (2, .class_ 8), (0, u "com/example/latticut/latticut/io/PlainTokens$Name"), (2, u "process"), (0, u "I"), (2, u "bytes"), (0, u "[B"), (2, u "hash"), (2, u "text"), (0, u "Ljava/lang/String;"), (8, u "aloneTrue"), (0, u "Ljava/util/Map;"), (8, u "aloneFalse"), (0, u "UNKNOWN"), (2, u "object"), (0, u "J"), (0, u "after"), (0, u "Lcom/example/latticut/latticut/io/PlainTokens$Name;"), (0, u "otherAfter"), (14, .class_ 66), (0, u "com/example/latticut/latticut/io/PlainTokens")] 5

/-- com/example/latticut/latticut/io/PlainTokens$Name -/
def k5 : Class := { plain "com/example/latticut/latticut/io/PlainTokens$Name" (some 0) with
  accessFlags := 48
  interfaces := #[]
  cf := some (fileOf pool5 7 #[.nestHost 65] #[] 48 2 #[] #[{ accessFlags := 24, nameIndex := 43, descriptorIndex := 12, attributes := #[] }, { accessFlags := 16, nameIndex := 15, descriptorIndex := 16, attributes := #[] }, { accessFlags := 16, nameIndex := 19, descriptorIndex := 12, attributes := #[] }, { accessFlags := 16, nameIndex := 22, descriptorIndex := 23, attributes := #[] }, { accessFlags := 0, nameIndex := 11, descriptorIndex := 12, attributes := #[] }, { accessFlags := 0, nameIndex := 46, descriptorIndex := 47, attributes := #[] }, { accessFlags := 0, nameIndex := 48, descriptorIndex := 49, attributes := #[] }, { accessFlags := 0, nameIndex := 50, descriptorIndex := 49, attributes := #[] }, { accessFlags := 2, nameIndex := 42, descriptorIndex := 33, attributes := #[] }, { accessFlags := 2, nameIndex := 32, descriptorIndex := 33, attributes := #[] }])
  fields := #[{ name := "UNKNOWN", type := .int, accessFlags := 24, slot := 0, constantValue := 0 }, { name := "bytes", type := (.array .byte), accessFlags := 16, slot := 0, constantValue := 0 }, { name := "hash", type := .int, accessFlags := 16, slot := 1, constantValue := 0 }, { name := "text", type := (.object "java/lang/String"), accessFlags := 16, slot := 2, constantValue := 0 }, { name := "process", type := .int, accessFlags := 0, slot := 3, constantValue := 0 }, { name := "object", type := .long, accessFlags := 0, slot := 4, constantValue := 0 }, { name := "after", type := (.object "com/example/latticut/latticut/io/PlainTokens$Name"), accessFlags := 0, slot := 5, constantValue := 0 }, { name := "otherAfter", type := (.object "com/example/latticut/latticut/io/PlainTokens$Name"), accessFlags := 0, slot := 6, constantValue := 0 }, { name := "aloneFalse", type := (.object "java/util/Map"), accessFlags := 2, slot := 7, constantValue := 0 }, { name := "aloneTrue", type := (.object "java/util/Map"), accessFlags := 2, slot := 8, constantValue := 0 }]
  methods := #[]
  instanceTypes := #[(.array .byte), .int, (.object "java/lang/String"), .int, .long, (.object "com/example/latticut/latticut/io/PlainTokens$Name"), (.object "com/example/latticut/latticut/io/PlainTokens$Name"), (.object "java/util/Map"), (.object "java/util/Map")]
  staticTypes := #[.int]
  resolved := Array.replicate 72 none
  statics := none }

def pool6 : Array CpInfo := pool [(1, .class_ 2), (0, u "java/io/Serializable"), (0, .class_ 4), (0, u "java/lang/Object")] 2

/-- java/io/Serializable -/
def k6 : Class := { plain "java/io/Serializable" (some 0) with
  accessFlags := 1537
  interfaces := #[]
  cf := some (fileOf pool6 1 #[] #[] 1537 3 #[] #[])
  fields := #[]
  methods := #[]
  instanceTypes := #[]
  staticTypes := #[]
  resolved := Array.replicate 7 none
  statics := none }

def pool7 : Array CpInfo := pool [(2, .class_ 4), (1, u "java/lang/Object"), (0, u "<init>"), (0, u "()V"), (1, .class_ 10), (1, u "java/lang/Number"), (2, .class_ 14), (0, u "java/io/Serializable"), (0, u "serialVersionUID"), (0, u "J")] 20

def k7m0 : Method := { name := "<init>", desc := "()V", sig := { parameters := [], returnType := none }, accessFlags := 1, code := none }
/-- java/lang/Number -/
def k7 : Class := { plain "java/lang/Number" (some 0) with
  accessFlags := 1057
  interfaces := #[6]
  cf := some (fileOf pool7 8 #[] #[{ accessFlags := 1, nameIndex := 5, descriptorIndex := 6, attributes := #[] }] 1057 2 #[13] #[{ accessFlags := 26, nameIndex := 15, descriptorIndex := 16, attributes := #[] }])
  fields := #[{ name := "serialVersionUID", type := .long, accessFlags := 26, slot := 0, constantValue := 0 }]
  methods := #[k7m0]
  instanceTypes := #[]
  staticTypes := #[.long]
  resolved := Array.replicate 37 none
  statics := none }

def pool8 : Array CpInfo := pool [(1, .class_ 2), (0, u "java/lang/Comparable"), (0, .class_ 4), (0, u "java/lang/Object")] 7

/-- java/lang/Comparable -/
def k8 : Class := { plain "java/lang/Comparable" (some 0) with
  accessFlags := 1537
  interfaces := #[]
  cf := some (fileOf pool8 1 #[] #[] 1537 3 #[] #[])
  fields := #[]
  methods := #[]
  instanceTypes := #[]
  staticTypes := #[]
  resolved := Array.replicate 12 none
  statics := none }

def pool9 : Array CpInfo := pool [(1, .class_ 2), (0, u "java/lang/constant/Constable"), (0, .class_ 4), (0, u "java/lang/Object")] 6

/-- java/lang/constant/Constable -/
def k9 : Class := { plain "java/lang/constant/Constable" (some 0) with
  accessFlags := 1537
  interfaces := #[]
  cf := some (fileOf pool9 1 #[] #[] 1537 3 #[] #[])
  fields := #[]
  methods := #[]
  instanceTypes := #[]
  staticTypes := #[]
  resolved := Array.replicate 11 none
  statics := none }

def pool10 : Array CpInfo := pool [(1, .class_ 2), (0, u "java/lang/constant/ConstantDesc"), (0, .class_ 4), (0, u "java/lang/Object")] 32

/-- java/lang/constant/ConstantDesc -/
def k10 : Class := { plain "java/lang/constant/ConstantDesc" (some 0) with
  accessFlags := 1537
  interfaces := #[]
  cf := some (fileOf pool10 1 #[] #[] 1537 3 #[] #[])
  fields := #[]
  methods := #[]
  instanceTypes := #[]
  staticTypes := #[]
  resolved := Array.replicate 37 none
  statics := none }

def pool11 : Array CpInfo := pool [(1, .class_ 2), (0, u "java/lang/Integer"), (16, u "digits"), (0, u "[C"), (32, u "numberOfLeadingZeros"), (0, u "(I)I"), (30, u "DigitOnes"), (0, u "[B"), (2, u "DigitTens"), (99, .class_ 190), (0, u "java/lang/Integer$IntegerCache"), (3, u "I"), (8, .class_ 204), (0, u "java/lang/Number"), (2, u "value"), (56, .integer 65536), (37, u "TYPE"), (0, u "Ljava/lang/Class;"), (0, .class_ 305), (0, u "java/lang/Comparable"), (0, .class_ 307), (0, u "java/lang/constant/Constable"), (0, .class_ 309), (0, u "java/lang/constant/ConstantDesc"), (0, u "MIN_VALUE"), (1, u "MAX_VALUE"), (3, u "SIZE"), (1, u "BYTES"), (1, u "serialVersionUID"), (0, u "J")] 131

def k11c0 : Code := { maxStack := 3, maxLocals := 2, code := jdk_33_method_47_code, exceptionTable := #[], attributes := #[] }
def k11m0 : Method := { name := "numberOfLeadingZeros", desc := "(I)I", sig := { parameters := [.int], returnType := some .int }, accessFlags := 9, code := some k11c0 }
/-- java/lang/Integer -/
def k11 : Class := { plain "java/lang/Integer" (some 7) with
  accessFlags := 49
  interfaces := #[8, 9, 10]
  cf := some (fileOf pool11 1 #[.nestMembers #[189]] #[{ accessFlags := 9, nameIndex := 53, descriptorIndex := 54, attributes := #[] }] 49 203 #[304, 306, 308] #[{ accessFlags := 25, nameIndex := 310, descriptorIndex := 194, attributes := #[] }, { accessFlags := 25, nameIndex := 312, descriptorIndex := 194, attributes := #[] }, { accessFlags := 25, nameIndex := 302, descriptorIndex := 303, attributes := #[] }, { accessFlags := 24, nameIndex := 19, descriptorIndex := 20, attributes := #[] }, { accessFlags := 24, nameIndex := 89, descriptorIndex := 86, attributes := #[] }, { accessFlags := 24, nameIndex := 85, descriptorIndex := 86, attributes := #[] }, { accessFlags := 18, nameIndex := 207, descriptorIndex := 194, attributes := #[] }, { accessFlags := 25, nameIndex := 316, descriptorIndex := 194, attributes := #[] }, { accessFlags := 25, nameIndex := 318, descriptorIndex := 194, attributes := #[] }, { accessFlags := 26, nameIndex := 320, descriptorIndex := 321, attributes := #[] }])
  fields := #[{ name := "MIN_VALUE", type := .int, accessFlags := 25, slot := 0, constantValue := 0 }, { name := "MAX_VALUE", type := .int, accessFlags := 25, slot := 1, constantValue := 0 }, { name := "TYPE", type := (.object "java/lang/Class"), accessFlags := 25, slot := 2, constantValue := 0 }, { name := "digits", type := (.array .char), accessFlags := 24, slot := 3, constantValue := 0 }, { name := "DigitTens", type := (.array .byte), accessFlags := 24, slot := 4, constantValue := 0 }, { name := "DigitOnes", type := (.array .byte), accessFlags := 24, slot := 5, constantValue := 0 }, { name := "value", type := .int, accessFlags := 18, slot := 0, constantValue := 0 }, { name := "SIZE", type := .int, accessFlags := 25, slot := 6, constantValue := 0 }, { name := "BYTES", type := .int, accessFlags := 25, slot := 7, constantValue := 0 }, { name := "serialVersionUID", type := .long, accessFlags := 26, slot := 8, constantValue := 0 }]
  methods := #[k11m0]
  instanceTypes := #[.int]
  staticTypes := #[.int, .int, (.object "java/lang/Class"), (.array .char), (.array .byte), (.array .byte), .int, .int, .long]
  resolved := Array.replicate 453 none
  statics := none }

def pool12 : Array CpInfo := pool [(1, .methodref 2 3), (0, .class_ 4), (0, .nameAndType 5 6), (0, u "java/lang/Object"), (0, u "<init>"), (0, u "()V"), (0, .class_ 8), (0, u "com/example/latticut/latticut/io/Texts"), (0, .class_ 10), (0, u "[B"), (0, .fieldref 7 12), (0, .nameAndType 13 14), (0, u "texts"), (0, u "[[B"), (0, .fieldref 7 16), (0, .nameAndType 17 18), (0, u "hashes"), (0, u "[I"), (0, .fieldref 7 20), (0, .nameAndType 21 22), (0, u "values"), (0, u "[Ljava/lang/Object;"), (3, u "SHIFT"), (0, u "I"), (2, u "size"), (12, u "MOST"), (2, u "PROBES")] 13

def k12c0 : Code := { maxStack := 2, maxLocals := 1, code := prog_135_method_1_code, exceptionTable := #[], attributes := #[] }
def k12m0 : Method := { name := "<init>", desc := "()V", sig := { parameters := [], returnType := none }, accessFlags := 0, code := some k12c0 }
/-- com/example/latticut/latticut/io/Texts -/
def k12 : Class := { plain "com/example/latticut/latticut/io/Texts" (some 0) with
  accessFlags := 48
  interfaces := #[]
  cf := some (fileOf pool12 7 #[] #[{ accessFlags := 0, nameIndex := 5, descriptorIndex := 6, attributes := #[] }] 48 2 #[] #[{ accessFlags := 24, nameIndex := 43, descriptorIndex := 27, attributes := #[] }, { accessFlags := 26, nameIndex := 46, descriptorIndex := 27, attributes := #[] }, { accessFlags := 26, nameIndex := 26, descriptorIndex := 27, attributes := #[] }, { accessFlags := 18, nameIndex := 13, descriptorIndex := 14, attributes := #[] }, { accessFlags := 18, nameIndex := 17, descriptorIndex := 18, attributes := #[] }, { accessFlags := 18, nameIndex := 21, descriptorIndex := 22, attributes := #[] }, { accessFlags := 2, nameIndex := 30, descriptorIndex := 27, attributes := #[] }])
  fields := #[{ name := "MOST", type := .int, accessFlags := 24, slot := 0, constantValue := 0 }, { name := "PROBES", type := .int, accessFlags := 26, slot := 1, constantValue := 0 }, { name := "SHIFT", type := .int, accessFlags := 26, slot := 2, constantValue := 0 }, { name := "texts", type := (.array (.array .byte)), accessFlags := 18, slot := 0, constantValue := 0 }, { name := "hashes", type := (.array .int), accessFlags := 18, slot := 1, constantValue := 0 }, { name := "values", type := (.array (.object "java/lang/Object")), accessFlags := 18, slot := 2, constantValue := 0 }, { name := "size", type := .int, accessFlags := 2, slot := 3, constantValue := 0 }]
  methods := #[k12m0]
  instanceTypes := #[(.array (.array .byte)), (.array .int), (.array (.object "java/lang/Object")), .int]
  staticTypes := #[.int, .int, .int]
  resolved := Array.replicate 60 none
  statics := none }

def pool13 : Array CpInfo := pool [(2, .class_ 4), (1, u "java/lang/Object"), (0, u "<init>"), (0, u "()V"), (0, .class_ 8), (0, u "java/lang/Record")] 13

def k13m0 : Method := { name := "<init>", desc := "()V", sig := { parameters := [], returnType := none }, accessFlags := 4, code := none }
/-- java/lang/Record -/
def k13 : Class := { plain "java/lang/Record" (some 0) with
  accessFlags := 1057
  interfaces := #[]
  cf := some (fileOf pool13 7 #[] #[{ accessFlags := 4, nameIndex := 5, descriptorIndex := 6, attributes := #[] }] 1057 2 #[] #[])
  fields := #[]
  methods := #[k13m0]
  instanceTypes := #[]
  staticTypes := #[]
  resolved := Array.replicate 22 none
  statics := none }

def pool14 : Array CpInfo := pool [(2, .class_ 4), (1, u "java/lang/Record"), (3, .class_ 10), (1, u "com/example/latticut/latticut/io/PlainTokens$Kept"), (0, u "event"), (0, u "Lcom/example/latticut/latticut/model/Event;"), (2, u "text"), (0, u "[B"), (2, u "cuts"), (0, u "[I"), (2, u "line"), (0, u "Lcom/example/latticut/latticut/io/PlainTokens$Line;"), (26, .class_ 52), (0, u "com/example/latticut/latticut/io/PlainTokens")] 25

/-- com/example/latticut/latticut/io/PlainTokens$Kept -/
def k14 : Class := { plain "com/example/latticut/latticut/io/PlainTokens$Kept" (some 13) with
  accessFlags := 48
  interfaces := #[]
  cf := some (fileOf pool14 8 #[.nestHost 51] #[] 48 2 #[] #[{ accessFlags := 18, nameIndex := 11, descriptorIndex := 12, attributes := #[] }, { accessFlags := 18, nameIndex := 15, descriptorIndex := 16, attributes := #[] }, { accessFlags := 18, nameIndex := 19, descriptorIndex := 20, attributes := #[] }, { accessFlags := 18, nameIndex := 23, descriptorIndex := 24, attributes := #[] }])
  fields := #[{ name := "event", type := (.object "com/example/latticut/latticut/model/Event"), accessFlags := 18, slot := 0, constantValue := 0 }, { name := "text", type := (.array .byte), accessFlags := 18, slot := 1, constantValue := 0 }, { name := "cuts", type := (.array .int), accessFlags := 18, slot := 2, constantValue := 0 }, { name := "line", type := (.object "com/example/latticut/latticut/io/PlainTokens$Line"), accessFlags := 18, slot := 3, constantValue := 0 }]
  methods := #[]
  instanceTypes := #[(.object "com/example/latticut/latticut/model/Event"), (.array .byte), (.array .int), (.object "com/example/latticut/latticut/io/PlainTokens$Line")]
  staticTypes := #[]
  resolved := Array.replicate 78 none
  statics := none }

def pool15 : Array CpInfo := pool [(2, .class_ 4), (1, u "java/lang/Object"), (3, .class_ 10), (1, u "com/example/latticut/latticut/model/Event"), (0, u "process"), (0, u "I"), (2, u "position"), (2, u "entries"), (0, u "[I"), (2, u "set"), (0, u "Ljava/util/Map;"), (2, u "label"), (0, u "Ljava/lang/String;"), (2, u "clockSize"), (2, u "othersSeen")] 55

/-- com/example/latticut/latticut/model/Event -/
def k15 : Class := { plain "com/example/latticut/latticut/model/Event" (some 0) with
  accessFlags := 49
  interfaces := #[]
  cf := some (fileOf pool15 8 #[] #[] 49 2 #[] #[{ accessFlags := 16, nameIndex := 11, descriptorIndex := 12, attributes := #[] }, { accessFlags := 16, nameIndex := 15, descriptorIndex := 12, attributes := #[] }, { accessFlags := 18, nameIndex := 18, descriptorIndex := 19, attributes := #[] }, { accessFlags := 18, nameIndex := 30, descriptorIndex := 12, attributes := #[] }, { accessFlags := 18, nameIndex := 33, descriptorIndex := 12, attributes := #[] }, { accessFlags := 18, nameIndex := 22, descriptorIndex := 23, attributes := #[] }, { accessFlags := 18, nameIndex := 26, descriptorIndex := 27, attributes := #[] }])
  fields := #[{ name := "process", type := .int, accessFlags := 16, slot := 0, constantValue := 0 }, { name := "position", type := .int, accessFlags := 16, slot := 1, constantValue := 0 }, { name := "entries", type := (.array .int), accessFlags := 18, slot := 2, constantValue := 0 }, { name := "clockSize", type := .int, accessFlags := 18, slot := 3, constantValue := 0 }, { name := "othersSeen", type := .int, accessFlags := 18, slot := 4, constantValue := 0 }, { name := "set", type := (.object "java/util/Map"), accessFlags := 18, slot := 5, constantValue := 0 }, { name := "label", type := (.object "java/lang/String"), accessFlags := 18, slot := 6, constantValue := 0 }]
  methods := #[]
  instanceTypes := #[.int, .int, (.array .int), .int, .int, (.object "java/util/Map"), (.object "java/lang/String")]
  staticTypes := #[]
  resolved := Array.replicate 89 none
  statics := none }

def pool16 : Array CpInfo := pool [(1, .class_ 2), (0, u "java/lang/Math"), (1, .class_ 6), (1, u "java/lang/Object"), (0, u "<init>"), (0, u "()V"), (89, .class_ 100), (1, u "java/lang/Math$RandomNumberGeneratorHolder"), (71, u "negativeZeroFloatBits"), (0, u "J"), (2, u "negativeZeroDoubleBits"), (24, u "min"), (43, u "$assertionsDisabled"), (0, u "Z"), (88, u "(II)I"), (2, u "twoToTheDoubleScaleDown"), (0, u "D"), (4, u "twoToTheDoubleScaleUp"), (9, u "E"), (3, u "PI"), (2, u "TAU"), (2, u "DEGREES_TO_RADIANS"), (0, u "RADIANS_TO_DEGREES")] 94

def k16m0 : Method := { name := "<init>", desc := "()V", sig := { parameters := [], returnType := none }, accessFlags := 2, code := none }
def k16c1 : Code := { maxStack := 2, maxLocals := 2, code := jdk_29_method_69_code, exceptionTable := #[], attributes := #[] }
def k16m1 : Method := { name := "min", desc := "(II)I", sig := { parameters := [.int, .int], returnType := some .int }, accessFlags := 9, code := some k16c1 }
/-- java/lang/Math -/
def k16 : Class := { plain "java/lang/Math" (some 0) with
  accessFlags := 49
  interfaces := #[]
  cf := some (fileOf pool16 1 #[.nestMembers #[98]] #[{ accessFlags := 2, nameIndex := 7, descriptorIndex := 8, attributes := #[] }, { accessFlags := 9, nameIndex := 201, descriptorIndex := 335, attributes := #[] }] 49 4 #[] #[{ accessFlags := 25, nameIndex := 354, descriptorIndex := 339, attributes := #[] }, { accessFlags := 25, nameIndex := 358, descriptorIndex := 339, attributes := #[] }, { accessFlags := 25, nameIndex := 361, descriptorIndex := 339, attributes := #[] }, { accessFlags := 26, nameIndex := 364, descriptorIndex := 339, attributes := #[] }, { accessFlags := 26, nameIndex := 365, descriptorIndex := 339, attributes := #[] }, { accessFlags := 26, nameIndex := 172, descriptorIndex := 173, attributes := #[] }, { accessFlags := 26, nameIndex := 176, descriptorIndex := 173, attributes := #[] }, { accessFlags := 8, nameIndex := 344, descriptorIndex := 339, attributes := #[] }, { accessFlags := 8, nameIndex := 338, descriptorIndex := 339, attributes := #[] }, { accessFlags := 4120, nameIndex := 245, descriptorIndex := 246, attributes := #[] }])
  fields := #[{ name := "E", type := .double, accessFlags := 25, slot := 0, constantValue := 0 }, { name := "PI", type := .double, accessFlags := 25, slot := 1, constantValue := 0 }, { name := "TAU", type := .double, accessFlags := 25, slot := 2, constantValue := 0 }, { name := "DEGREES_TO_RADIANS", type := .double, accessFlags := 26, slot := 3, constantValue := 0 }, { name := "RADIANS_TO_DEGREES", type := .double, accessFlags := 26, slot := 4, constantValue := 0 }, { name := "negativeZeroFloatBits", type := .long, accessFlags := 26, slot := 5, constantValue := 0 }, { name := "negativeZeroDoubleBits", type := .long, accessFlags := 26, slot := 6, constantValue := 0 }, { name := "twoToTheDoubleScaleUp", type := .double, accessFlags := 8, slot := 7, constantValue := 0 }, { name := "twoToTheDoubleScaleDown", type := .double, accessFlags := 8, slot := 8, constantValue := 0 }, { name := "$assertionsDisabled", type := .boolean, accessFlags := 4120, slot := 9, constantValue := 0 }]
  methods := #[k16m0, k16m1]
  instanceTypes := #[]
  staticTypes := #[.double, .double, .double, .double, .double, .long, .long, .double, .double, .boolean]
  resolved := Array.replicate 460 none
  statics := none }

def pool17 : Array CpInfo := pool [(2, .class_ 4), (1, u "java/lang/Enum"), (0, u "name"), (0, u "Ljava/lang/String;"), (2, u "ordinal"), (0, u "I"), (1, .class_ 14), (1, u "java/lang/Object"), (4, u "hash"), (86, .class_ 108), (1, u "java/lang/Enum$EnumDesc"), (2, .class_ 112), (0, u "java/lang/constant/Constable"), (0, .class_ 114), (0, u "java/lang/Comparable"), (0, .class_ 116), (0, u "java/io/Serializable")] 87

/-- java/lang/Enum -/
def k17 : Class := { plain "java/lang/Enum" (some 0) with
  accessFlags := 1057
  interfaces := #[9, 8, 6]
  cf := some (fileOf pool17 2 #[.nestMembers #[106]] #[] 1057 12 #[111, 113, 115] #[{ accessFlags := 18, nameIndex := 5, descriptorIndex := 6, attributes := #[] }, { accessFlags := 18, nameIndex := 9, descriptorIndex := 10, attributes := #[] }, { accessFlags := 2, nameIndex := 19, descriptorIndex := 10, attributes := #[] }])
  fields := #[{ name := "name", type := (.object "java/lang/String"), accessFlags := 18, slot := 0, constantValue := 0 }, { name := "ordinal", type := .int, accessFlags := 18, slot := 1, constantValue := 0 }, { name := "hash", type := .int, accessFlags := 2, slot := 2, constantValue := 0 }]
  methods := #[]
  instanceTypes := #[(.object "java/lang/String"), .int, .int]
  staticTypes := #[]
  resolved := Array.replicate 204 none
  statics := none }

def pool18 : Array CpInfo := pool [(1, .class_ 2), (0, u "com/example/latticut/latticut/io/Token"), (2, u "START_OBJECT"), (0, u "Lcom/example/latticut/latticut/io/Token;"), (2, u "END_OBJECT"), (2, u "START_ARRAY"), (2, u "END_ARRAY"), (2, u "FIELD_NAME"), (2, u "VALUE_STRING"), (2, u "VALUE_NUMBER_INT"), (2, u "VALUE_NUMBER_FLOAT"), (2, u "VALUE_TRUE"), (2, u "VALUE_FALSE"), (2, u "VALUE_NULL"), (2, u "OTHER"), (2, u "$VALUES"), (0, u "[Lcom/example/latticut/latticut/io/Token;"), (6, .class_ 52), (1, u "java/lang/Enum"), (8, u "text"), (0, u "Ljava/lang/String;")] 47

/-- com/example/latticut/latticut/io/Token -/
def k18 : Class := { plain "com/example/latticut/latticut/io/Token" (some 17) with
  accessFlags := 16432
  interfaces := #[]
  cf := some (fileOf pool18 1 #[] #[] 16432 50 #[] #[{ accessFlags := 16409, nameIndex := 5, descriptorIndex := 6, attributes := #[] }, { accessFlags := 16409, nameIndex := 9, descriptorIndex := 6, attributes := #[] }, { accessFlags := 16409, nameIndex := 12, descriptorIndex := 6, attributes := #[] }, { accessFlags := 16409, nameIndex := 15, descriptorIndex := 6, attributes := #[] }, { accessFlags := 16409, nameIndex := 18, descriptorIndex := 6, attributes := #[] }, { accessFlags := 16409, nameIndex := 21, descriptorIndex := 6, attributes := #[] }, { accessFlags := 16409, nameIndex := 24, descriptorIndex := 6, attributes := #[] }, { accessFlags := 16409, nameIndex := 27, descriptorIndex := 6, attributes := #[] }, { accessFlags := 16409, nameIndex := 30, descriptorIndex := 6, attributes := #[] }, { accessFlags := 16409, nameIndex := 33, descriptorIndex := 6, attributes := #[] }, { accessFlags := 16409, nameIndex := 36, descriptorIndex := 6, attributes := #[] }, { accessFlags := 16409, nameIndex := 39, descriptorIndex := 6, attributes := #[] }, { accessFlags := 18, nameIndex := 61, descriptorIndex := 62, attributes := #[] }, { accessFlags := 4122, nameIndex := 42, descriptorIndex := 43, attributes := #[] }])
  fields := #[{ name := "START_OBJECT", type := (.object "com/example/latticut/latticut/io/Token"), accessFlags := 16409, slot := 0, constantValue := 0 }, { name := "END_OBJECT", type := (.object "com/example/latticut/latticut/io/Token"), accessFlags := 16409, slot := 1, constantValue := 0 }, { name := "START_ARRAY", type := (.object "com/example/latticut/latticut/io/Token"), accessFlags := 16409, slot := 2, constantValue := 0 }, { name := "END_ARRAY", type := (.object "com/example/latticut/latticut/io/Token"), accessFlags := 16409, slot := 3, constantValue := 0 }, { name := "FIELD_NAME", type := (.object "com/example/latticut/latticut/io/Token"), accessFlags := 16409, slot := 4, constantValue := 0 }, { name := "VALUE_STRING", type := (.object "com/example/latticut/latticut/io/Token"), accessFlags := 16409, slot := 5, constantValue := 0 }, { name := "VALUE_NUMBER_INT", type := (.object "com/example/latticut/latticut/io/Token"), accessFlags := 16409, slot := 6, constantValue := 0 }, { name := "VALUE_NUMBER_FLOAT", type := (.object "com/example/latticut/latticut/io/Token"), accessFlags := 16409, slot := 7, constantValue := 0 }, { name := "VALUE_TRUE", type := (.object "com/example/latticut/latticut/io/Token"), accessFlags := 16409, slot := 8, constantValue := 0 }, { name := "VALUE_FALSE", type := (.object "com/example/latticut/latticut/io/Token"), accessFlags := 16409, slot := 9, constantValue := 0 }, { name := "VALUE_NULL", type := (.object "com/example/latticut/latticut/io/Token"), accessFlags := 16409, slot := 10, constantValue := 0 }, { name := "OTHER", type := (.object "com/example/latticut/latticut/io/Token"), accessFlags := 16409, slot := 11, constantValue := 0 }, { name := "text", type := (.object "java/lang/String"), accessFlags := 18, slot := 3, constantValue := 0 }, { name := "$VALUES", type := (.array (.object "com/example/latticut/latticut/io/Token")), accessFlags := 4122, slot := 12, constantValue := 0 }]
  methods := #[]
  instanceTypes := #[(.object "java/lang/String"), .int, .int, (.object "java/lang/String")]
  staticTypes := #[(.object "com/example/latticut/latticut/io/Token"), (.object "com/example/latticut/latticut/io/Token"), (.object "com/example/latticut/latticut/io/Token"), (.object "com/example/latticut/latticut/io/Token"), (.object "com/example/latticut/latticut/io/Token"), (.object "com/example/latticut/latticut/io/Token"), (.object "com/example/latticut/latticut/io/Token"), (.object "com/example/latticut/latticut/io/Token"), (.object "com/example/latticut/latticut/io/Token"), (.object "com/example/latticut/latticut/io/Token"), (.object "com/example/latticut/latticut/io/Token"), (.object "com/example/latticut/latticut/io/Token"), (.array (.object "com/example/latticut/latticut/io/Token"))]
  resolved := Array.replicate 110 none
  statics := some 0 }

def pool19 : Array CpInfo := pool [(1, u "java/lang/Cloneable"), (0, .class_ 1), (0, u "java/lang/Object"), (0, .class_ 3)] 3

/-- java/lang/Cloneable -/
def k19 : Class := { plain "java/lang/Cloneable" (some 0) with
  accessFlags := 1537
  interfaces := #[]
  cf := some (fileOf pool19 2 #[] #[] 1537 4 #[] #[])
  fields := #[]
  methods := #[]
  instanceTypes := #[]
  staticTypes := #[]
  resolved := Array.replicate 8 none
  statics := none }

/-- the primitive boolean -/
def k20 : Class := { plain "boolean" none with kind := .primitive 'Z', accessFlags := 0x411 }
/-- [Z -/
def k21 : Class := { plain "[Z" (some 0) with kind := .array 20 .boolean, interfaces := #[19, 6], accessFlags := 1041 }

/-- the primitive byte -/
def k22 : Class := { plain "byte" none with kind := .primitive 'B', accessFlags := 0x411 }
/-- [B -/
def k23 : Class := { plain "[B" (some 0) with kind := .array 22 .byte, interfaces := #[19, 6], accessFlags := 1041 }

/-- the primitive int -/
def k24 : Class := { plain "int" none with kind := .primitive 'I', accessFlags := 0x411 }
/-- [I -/
def k25 : Class := { plain "[I" (some 0) with kind := .array 24 .int, interfaces := #[19, 6], accessFlags := 1041 }

/-- the primitive long -/
def k26 : Class := { plain "long" none with kind := .primitive 'J', accessFlags := 0x411 }
/-- [J -/
def k27 : Class := { plain "[J" (some 0) with kind := .array 26 .long, interfaces := #[19, 6], accessFlags := 1041 }

/-- [Lcom/example/latticut/latticut/io/PlainTokens$Kept; -/
def k28 : Class := { plain "[Lcom/example/latticut/latticut/io/PlainTokens$Kept;" (some 0) with kind := .array 14 (.object "com/example/latticut/latticut/io/PlainTokens$Kept"), interfaces := #[19, 6], accessFlags := 1041 }

/-- [Lcom/example/latticut/latticut/io/PlainTokens$Name; -/
def k29 : Class := { plain "[Lcom/example/latticut/latticut/io/PlainTokens$Name;" (some 0) with kind := .array 5 (.object "com/example/latticut/latticut/io/PlainTokens$Name"), interfaces := #[19, 6], accessFlags := 1041 }

/-- [Lcom/example/latticut/latticut/model/Event; -/
def k30 : Class := { plain "[Lcom/example/latticut/latticut/model/Event;" (some 0) with kind := .array 15 (.object "com/example/latticut/latticut/model/Event"), interfaces := #[19, 6], accessFlags := 1041 }

/-- [Ljava/lang/Object; -/
def k31 : Class := { plain "[Ljava/lang/Object;" (some 0) with kind := .array 0 (.object "java/lang/Object"), interfaces := #[19, 6], accessFlags := 1041 }

/-- [[B -/
def k32 : Class := { plain "[[B" (some 0) with kind := .array 23 (.array .byte), interfaces := #[19, 6], accessFlags := 1041 }
def heap : Heap := #[{ cls := 18, slots := #[.ref 2, .ref 3, .null, .null, .ref 1, .null, .null, .null, .null, .null, .null, .null, .null], vm := .statics 18 },
  { cls := 18, slots := #[.null, .int 4, .int 0, .null], vm := .none },
  { cls := 18, slots := #[.null, .int 0, .int 0, .null], vm := .none },
  { cls := 18, slots := #[.null, .int 1, .int 0, .null], vm := .none }]
def classes : Array Class := #[k0, k1, k2, k3, k4, k5, k6, k7, k8, k9, k10, k11, k12, k13, k14, k15, k16, k17, k18, k19, k20, k21, k22, k23, k24, k25, k26, k27, k28, k29, k30, k31, k32]
def interned : List (Array UInt16 × Addr) := []
def slotsUsed : Nat := 25
def theMethod : MethodId := ⟨1, 4⟩
def args0 : Array Value := #[.int 5, .int 6, .int 7, .int 8]
def aboutOver (below : List Frame) : State where
  vm := { classes := classes, interned := interned.toArray }
  heap := heap
  slotsUsed := slotsUsed
  threads := #[{ frames := .invoking theMethod args0 :: below }]
def below0 : List Frame := [.native { method := ⟨0, 0⟩, args := #[] }]
def about1 : State := aboutOver below0
def p0 : Program := .bare "" "" ""
def e0 : Env := launch0.env 0 0 0
theorem w_frames : about1.frames = Frame.invoking theMethod args0 :: below0 := rfl
set_option maxRecDepth 65536 in
theorem w_args : argsFit about1.vm theMethod args0 = true := by decide +kernel
set_option maxRecDepth 65536 in
theorem w_heap : heapFits about1 = true := by decide +kernel
set_option maxRecDepth 65536 in
theorem w_runnable : about1.curStatus? = some .runnable := by decide +kernel
set_option maxRecDepth 65536 in
theorem w_alone : about1.alone = true := by decide +kernel
set_option maxRecDepth 65536 in
theorem w_named : about1.methodNamed? x = some theMethod := by decide +kernel
set_option maxRecDepth 65536 in
theorem w_hears : about1.hears theMethod below0 = true := by decide +kernel
set_option maxRecDepth 65536 in
theorem w_ripe : about1.ripe theMethod args0 below0 = true := by decide +kernel
theorem w_running : about1.status = .running := rfl
set_option maxRecDepth 65536 in
theorem w_room : about1.hasRoom e0.platform room_1 = true :=
  launch0.hasRoom_least _ room_1 (by decide +kernel) (by decide +kernel) (by decide +kernel) (by decide +kernel) (by decide +kernel) (by decide +kernel)
theorem allAtoms_all (ts : List Jvm.Cond) (a : Array Jvm.Value) (st : Jvm.State) : (allAtoms ts).before a st = ts.all (fun c => c.before a st) := by
  induction ts with
  | nil => rfl
  | cons c t ih =>
    show (Jvm.Cond.and c (allAtoms t)).before a st = _
    rw [Jvm.Cond.before_and, ih, List.all_cons]
def words1 : List Jvm.Cond := Jvm.Cond.code x code maxLocals ret :: tables_1
/-- a 'code' word, met by the world's own term for the bytes: nothing is compared byte by byte -/
theorem code_word {y : MethodName} {bytes : ByteArray} {mx : Nat} {rt : Option FieldType} {a : Array Value} {s : State} {m : MethodId} {meth : Method} {c : Code} (h1 : s.methodNamed? y = some m) (h2 : s.vm.method? m = some meth) (h3 : meth.code = some c) (h4 : c.code = bytes)
    (h5 : (c.maxLocals == mx && c.exceptionTable.isEmpty && decide (c.maxStack ≤ mostOperands) && decide (meth.sig.returnType = rt) && !meth.locks && decide (parseMethodDescriptor y.desc = some meth.sig)) = true) : (Jvm.Cond.code y bytes mx rt).before a s = true := by
  simp only [Bool.and_eq_true, beq_iff_eq, Bool.not_eq_true', decide_eq_true_eq] at h5
  obtain ⟨⟨⟨⟨⟨g1, g2⟩, g3⟩, g4⟩, g5⟩, g6⟩ := h5
  simp [Cond.before, Cond.holds, Cond.value, h1, h2, h3, h4, g1, g2, g3, g4, g5, g6]
def isCode : Jvm.Cond → Bool
  | .code _ _ _ _ => true
  | _ => false
theorem all_split {L : List Jvm.Cond} {P : Jvm.Cond → Bool} (h1 : L.all (fun c => isCode c || P c) = true) (h2 : ∀ c ∈ L.filter isCode, P c = true) : L.all P = true := by
  refine List.all_eq_true.mpr fun c hc => ?_
  have h := List.all_eq_true.mp h1 c hc
  rcases Bool.eq_false_or_eq_true (isCode c) with hi | hi
  · exact h2 c (List.mem_filter.mpr ⟨hc, hi⟩)
  · simpa [hi] using h
set_option maxRecDepth 65536 in
theorem w_c0 : (Jvm.Cond.code x code maxLocals ret).before args0 about1 = true := code_word (m := ⟨1, 4⟩) (meth := k1m4) (c := k1c4) (by decide +kernel) rfl rfl rfl (by decide +kernel)
set_option maxRecDepth 65536 in
theorem w_c1 : (Jvm.Cond.code ({ cls := "com/example/latticut/latticut/io/PlainTokensStartPinLaw", name := "pick", desc := "(I)B" } : Jvm.MethodName) method_2_code (2 : Nat) (Option.some Jvm.ClassFile.FieldType.byte)).before args0 about1 = true := code_word (m := ⟨1, 1⟩) (meth := k1m1) (c := k1c1) (by decide +kernel) rfl rfl rfl (by decide +kernel)
set_option maxRecDepth 65536 in
theorem w_c2 : (Jvm.Cond.code ({ cls := "com/example/latticut/latticut/io/PlainTokens", name := "<init>", desc := "()V" } : Jvm.MethodName) prog_126_method_1_code (1 : Nat) (Option.none : Option Jvm.ClassFile.FieldType)).before args0 about1 = true := code_word (m := ⟨3, 0⟩) (meth := k3m0) (c := k3c0) (by decide +kernel) rfl rfl rfl (by decide +kernel)
set_option maxRecDepth 65536 in
theorem w_c3 : (Jvm.Cond.code ({ cls := "java/lang/Object", name := "<init>", desc := "()V" } : Jvm.MethodName) object_method_1_code (1 : Nat) (Option.none : Option Jvm.ClassFile.FieldType)).before args0 about1 = true := code_word (m := ⟨0, 0⟩) (meth := k0m0) (c := k0c0) (by decide +kernel) rfl rfl rfl (by decide +kernel)
set_option maxRecDepth 65536 in
theorem w_c4 : (Jvm.Cond.code ({ cls := "com/example/latticut/latticut/io/PlainTokens$Names", name := "<init>", desc := "()V" } : Jvm.MethodName) prog_131_method_1_code (1 : Nat) (Option.none : Option Jvm.ClassFile.FieldType)).before args0 about1 = true := code_word (m := ⟨4, 0⟩) (meth := k4m0) (c := k4c0) (by decide +kernel) rfl rfl rfl (by decide +kernel)
set_option maxRecDepth 65536 in
theorem w_c5 : (Jvm.Cond.code ({ cls := "com/example/latticut/latticut/io/PlainTokens$Names", name := "shift", desc := "([Lcom/example/latticut/latticut/io/PlainTokens$Name;)I" } : Jvm.MethodName) prog_131_method_9_code (1 : Nat) (Option.some Jvm.ClassFile.FieldType.int)).before args0 about1 = true := code_word (m := ⟨4, 1⟩) (meth := k4m1) (c := k4c1) (by decide +kernel) rfl rfl rfl (by decide +kernel)
set_option maxRecDepth 65536 in
theorem w_c6 : (Jvm.Cond.code ({ cls := "java/lang/Integer", name := "numberOfLeadingZeros", desc := "(I)I" } : Jvm.MethodName) jdk_33_method_47_code (2 : Nat) (Option.some Jvm.ClassFile.FieldType.int)).before args0 about1 = true := code_word (m := ⟨11, 0⟩) (meth := k11m0) (c := k11c0) (by decide +kernel) rfl rfl rfl (by decide +kernel)
set_option maxRecDepth 65536 in
theorem w_c7 : (Jvm.Cond.code ({ cls := "com/example/latticut/latticut/io/Texts", name := "<init>", desc := "()V" } : Jvm.MethodName) prog_135_method_1_code (1 : Nat) (Option.none : Option Jvm.ClassFile.FieldType)).before args0 about1 = true := code_word (m := ⟨12, 0⟩) (meth := k12m0) (c := k12c0) (by decide +kernel) rfl rfl rfl (by decide +kernel)
set_option maxRecDepth 65536 in
theorem w_c8 : (Jvm.Cond.code ({ cls := "com/example/latticut/latticut/io/PlainTokens", name := "start", desc := "([BIIZ)V" } : Jvm.MethodName) prog_126_method_2_code (5 : Nat) (Option.none : Option Jvm.ClassFile.FieldType)).before args0 about1 = true := code_word (m := ⟨3, 1⟩) (meth := k3m1) (c := k3c1) (by decide +kernel) rfl rfl rfl (by decide +kernel)
set_option maxRecDepth 65536 in
theorem w_c9 : (Jvm.Cond.code ({ cls := "com/example/latticut/latticut/io/PlainTokens", name := "currentToken", desc := "()Lcom/example/latticut/latticut/io/Token;" } : Jvm.MethodName) prog_126_method_10_code (1 : Nat) (Option.some (Jvm.ClassFile.FieldType.object "com/example/latticut/latticut/io/Token"))).before args0 about1 = true := code_word (m := ⟨3, 5⟩) (meth := k3m5) (c := k3c5) (by decide +kernel) rfl rfl rfl (by decide +kernel)
set_option maxRecDepth 65536 in
theorem w_c10 : (Jvm.Cond.code ({ cls := "com/example/latticut/latticut/io/PlainTokensStartPinLaw", name := "skip", desc := "([BII)I" } : Jvm.MethodName) method_4_code (3 : Nat) (Option.some Jvm.ClassFile.FieldType.int)).before args0 about1 = true := code_word (m := ⟨1, 3⟩) (meth := k1m3) (c := k1c3) (by decide +kernel) rfl rfl rfl (by decide +kernel)
set_option maxRecDepth 65536 in
theorem w_c11 : (Jvm.Cond.code ({ cls := "com/example/latticut/latticut/io/PlainTokensStartPinLaw", name := "isSpace", desc := "(B)Z" } : Jvm.MethodName) method_3_code (1 : Nat) (Option.some Jvm.ClassFile.FieldType.boolean)).before args0 about1 = true := code_word (m := ⟨1, 2⟩) (meth := k1m2) (c := k1c2) (by decide +kernel) rfl rfl rfl (by decide +kernel)
set_option maxRecDepth 65536 in
theorem w_c12 : (Jvm.Cond.code ({ cls := "com/example/latticut/latticut/io/PlainTokens", name := "blank", desc := "()Z" } : Jvm.MethodName) prog_126_method_5_code (1 : Nat) (Option.some Jvm.ClassFile.FieldType.boolean)).before args0 about1 = true := code_word (m := ⟨3, 2⟩) (meth := k3m2) (c := k3c2) (by decide +kernel) rfl rfl rfl (by decide +kernel)
set_option maxRecDepth 65536 in
theorem w_c13 : (Jvm.Cond.code ({ cls := "com/example/latticut/latticut/io/PlainTokens", name := "skipSpace", desc := "()V" } : Jvm.MethodName) prog_126_method_66_code (2 : Nat) (Option.none : Option Jvm.ClassFile.FieldType)).before args0 about1 = true := code_word (m := ⟨3, 10⟩) (meth := k3m10) (c := k3c10) (by decide +kernel) rfl rfl rfl (by decide +kernel)
set_option maxRecDepth 65536 in
theorem w_c14 : (Jvm.Cond.code ({ cls := "com/example/latticut/latticut/io/PlainTokens", name := "peek", desc := "()B" } : Jvm.MethodName) prog_126_method_65_code (1 : Nat) (Option.some Jvm.ClassFile.FieldType.byte)).before args0 about1 = true := code_word (m := ⟨3, 9⟩) (meth := k3m9) (c := k3c9) (by decide +kernel) rfl rfl rfl (by decide +kernel)
set_option maxRecDepth 65536 in
theorem w_c15 : (Jvm.Cond.code ({ cls := "java/lang/Math", name := "min", desc := "(II)I" } : Jvm.MethodName) jdk_29_method_69_code (2 : Nat) (Option.some Jvm.ClassFile.FieldType.int)).before args0 about1 = true := code_word (m := ⟨16, 1⟩) (meth := k16m1) (c := k16c1) (by decide +kernel) rfl rfl rfl (by decide +kernel)
set_option maxRecDepth 65536 in
theorem w_c16 : (Jvm.Cond.code ({ cls := "com/example/latticut/latticut/io/PlainTokens", name := "end", desc := "()I" } : Jvm.MethodName) prog_126_method_6_code (1 : Nat) (Option.some Jvm.ClassFile.FieldType.int)).before args0 about1 = true := code_word (m := ⟨3, 3⟩) (meth := k3m3) (c := k3c3) (by decide +kernel) rfl rfl rfl (by decide +kernel)
set_option maxRecDepth 65536 in
theorem w_c17 : (Jvm.Cond.code ({ cls := "com/example/latticut/latticut/io/PlainTokens", name := "nextToken", desc := "()Lcom/example/latticut/latticut/io/Token;" } : Jvm.MethodName) prog_126_method_7_code (2 : Nat) (Option.some (Jvm.ClassFile.FieldType.object "com/example/latticut/latticut/io/Token"))).before args0 about1 = true := code_word (m := ⟨3, 4⟩) (meth := k3m4) (c := k3c4) (by decide +kernel) rfl rfl rfl (by decide +kernel)
set_option maxRecDepth 65536 in
theorem w_c18 : (Jvm.Cond.code ({ cls := "com/example/latticut/latticut/io/PlainTokens", name := "value", desc := "()Lcom/example/latticut/latticut/io/Token;" } : Jvm.MethodName) prog_126_method_51_code (3 : Nat) (Option.some (Jvm.ClassFile.FieldType.object "com/example/latticut/latticut/io/Token"))).before args0 about1 = true := code_word (m := ⟨3, 6⟩) (meth := k3m6) (c := k3c6) (by decide +kernel) rfl rfl rfl (by decide +kernel)
set_option maxRecDepth 65536 in
theorem w_c19 : (Jvm.Cond.code ({ cls := "com/example/latticut/latticut/io/PlainTokens", name := "open", desc := "(Z)V" } : Jvm.MethodName) prog_126_method_52_code (2 : Nat) (Option.none : Option Jvm.ClassFile.FieldType)).before args0 about1 = true := code_word (m := ⟨3, 7⟩) (meth := k3m7) (c := k3c7) (by decide +kernel) rfl rfl rfl (by decide +kernel)
set_option maxRecDepth 65536 in
theorem w_c20 : (Jvm.Cond.code ({ cls := "com/example/latticut/latticut/io/PlainTokens", name := "close", desc := "(Lcom/example/latticut/latticut/io/Token;)Lcom/example/latticut/latticut/io/Token;" } : Jvm.MethodName) prog_126_method_53_code (2 : Nat) (Option.some (Jvm.ClassFile.FieldType.object "com/example/latticut/latticut/io/Token"))).before args0 about1 = true := code_word (m := ⟨3, 8⟩) (meth := k3m8) (c := k3c8) (by decide +kernel) rfl rfl rfl (by decide +kernel)
def codes1 : List Jvm.Cond := [Jvm.Cond.code x code maxLocals ret, Jvm.Cond.code ({ cls := "com/example/latticut/latticut/io/PlainTokensStartPinLaw", name := "pick", desc := "(I)B" } : Jvm.MethodName) method_2_code (2 : Nat) (Option.some Jvm.ClassFile.FieldType.byte), Jvm.Cond.code ({ cls := "com/example/latticut/latticut/io/PlainTokens", name := "<init>", desc := "()V" } : Jvm.MethodName) prog_126_method_1_code (1 : Nat) (Option.none : Option Jvm.ClassFile.FieldType), Jvm.Cond.code ({ cls := "java/lang/Object", name := "<init>", desc := "()V" } : Jvm.MethodName) object_method_1_code (1 : Nat) (Option.none : Option Jvm.ClassFile.FieldType), Jvm.Cond.code ({ cls := "com/example/latticut/latticut/io/PlainTokens$Names", name := "<init>", desc := "()V" } : Jvm.MethodName) prog_131_method_1_code (1 : Nat) (Option.none : Option Jvm.ClassFile.FieldType), Jvm.Cond.code ({ cls := "com/example/latticut/latticut/io/PlainTokens$Names", name := "shift", desc := "([Lcom/example/latticut/latticut/io/PlainTokens$Name;)I" } : Jvm.MethodName) prog_131_method_9_code (1 : Nat) (Option.some Jvm.ClassFile.FieldType.int), Jvm.Cond.code ({ cls := "java/lang/Integer", name := "numberOfLeadingZeros", desc := "(I)I" } : Jvm.MethodName) jdk_33_method_47_code (2 : Nat) (Option.some Jvm.ClassFile.FieldType.int), Jvm.Cond.code ({ cls := "com/example/latticut/latticut/io/Texts", name := "<init>", desc := "()V" } : Jvm.MethodName) prog_135_method_1_code (1 : Nat) (Option.none : Option Jvm.ClassFile.FieldType), Jvm.Cond.code ({ cls := "com/example/latticut/latticut/io/PlainTokens", name := "start", desc := "([BIIZ)V" } : Jvm.MethodName) prog_126_method_2_code (5 : Nat) (Option.none : Option Jvm.ClassFile.FieldType), Jvm.Cond.code ({ cls := "com/example/latticut/latticut/io/PlainTokens", name := "currentToken", desc := "()Lcom/example/latticut/latticut/io/Token;" } : Jvm.MethodName) prog_126_method_10_code (1 : Nat) (Option.some (Jvm.ClassFile.FieldType.object "com/example/latticut/latticut/io/Token")), Jvm.Cond.code ({ cls := "com/example/latticut/latticut/io/PlainTokensStartPinLaw", name := "skip", desc := "([BII)I" } : Jvm.MethodName) method_4_code (3 : Nat) (Option.some Jvm.ClassFile.FieldType.int), Jvm.Cond.code ({ cls := "com/example/latticut/latticut/io/PlainTokensStartPinLaw", name := "isSpace", desc := "(B)Z" } : Jvm.MethodName) method_3_code (1 : Nat) (Option.some Jvm.ClassFile.FieldType.boolean), Jvm.Cond.code ({ cls := "com/example/latticut/latticut/io/PlainTokens", name := "blank", desc := "()Z" } : Jvm.MethodName) prog_126_method_5_code (1 : Nat) (Option.some Jvm.ClassFile.FieldType.boolean), Jvm.Cond.code ({ cls := "com/example/latticut/latticut/io/PlainTokens", name := "skipSpace", desc := "()V" } : Jvm.MethodName) prog_126_method_66_code (2 : Nat) (Option.none : Option Jvm.ClassFile.FieldType), Jvm.Cond.code ({ cls := "com/example/latticut/latticut/io/PlainTokens", name := "peek", desc := "()B" } : Jvm.MethodName) prog_126_method_65_code (1 : Nat) (Option.some Jvm.ClassFile.FieldType.byte), Jvm.Cond.code ({ cls := "java/lang/Math", name := "min", desc := "(II)I" } : Jvm.MethodName) jdk_29_method_69_code (2 : Nat) (Option.some Jvm.ClassFile.FieldType.int), Jvm.Cond.code ({ cls := "com/example/latticut/latticut/io/PlainTokens", name := "end", desc := "()I" } : Jvm.MethodName) prog_126_method_6_code (1 : Nat) (Option.some Jvm.ClassFile.FieldType.int), Jvm.Cond.code ({ cls := "com/example/latticut/latticut/io/PlainTokens", name := "nextToken", desc := "()Lcom/example/latticut/latticut/io/Token;" } : Jvm.MethodName) prog_126_method_7_code (2 : Nat) (Option.some (Jvm.ClassFile.FieldType.object "com/example/latticut/latticut/io/Token")), Jvm.Cond.code ({ cls := "com/example/latticut/latticut/io/PlainTokens", name := "value", desc := "()Lcom/example/latticut/latticut/io/Token;" } : Jvm.MethodName) prog_126_method_51_code (3 : Nat) (Option.some (Jvm.ClassFile.FieldType.object "com/example/latticut/latticut/io/Token")), Jvm.Cond.code ({ cls := "com/example/latticut/latticut/io/PlainTokens", name := "open", desc := "(Z)V" } : Jvm.MethodName) prog_126_method_52_code (2 : Nat) (Option.none : Option Jvm.ClassFile.FieldType), Jvm.Cond.code ({ cls := "com/example/latticut/latticut/io/PlainTokens", name := "close", desc := "(Lcom/example/latticut/latticut/io/Token;)Lcom/example/latticut/latticut/io/Token;" } : Jvm.MethodName) prog_126_method_53_code (2 : Nat) (Option.some (Jvm.ClassFile.FieldType.object "com/example/latticut/latticut/io/Token"))]
set_option maxRecDepth 65536 in
theorem codes_eq : words1.filter isCode = codes1 := rfl
theorem w_codes : ∀ c ∈ words1.filter isCode, c.before args0 about1 = true := by
  rw [codes_eq]
  intro c hc
  simp only [codes1, List.mem_cons, List.not_mem_nil, or_false] at hc
  rcases hc with rfl | rfl | rfl | rfl | rfl | rfl | rfl | rfl | rfl | rfl | rfl | rfl | rfl | rfl | rfl | rfl | rfl | rfl | rfl | rfl | rfl
  · exact w_c0
  · exact w_c1
  · exact w_c2
  · exact w_c3
  · exact w_c4
  · exact w_c5
  · exact w_c6
  · exact w_c7
  · exact w_c8
  · exact w_c9
  · exact w_c10
  · exact w_c11
  · exact w_c12
  · exact w_c13
  · exact w_c14
  · exact w_c15
  · exact w_c16
  · exact w_c17
  · exact w_c18
  · exact w_c19
  · exact w_c20
set_option maxRecDepth 65536 in
theorem w_t1 : (words1.take 24).all (fun c => isCode c || c.before args0 about1) = true := by decide +kernel
set_option maxRecDepth 65536 in
theorem w_t2 : ((words1.drop 24).take 24).all (fun c => isCode c || c.before args0 about1) = true := by decide +kernel
set_option maxRecDepth 65536 in
theorem w_t3 : (((words1.drop 24).drop 24).take 24).all (fun c => isCode c || c.before args0 about1) = true := by decide +kernel
set_option maxRecDepth 65536 in
theorem w_t4 : ((((words1.drop 24).drop 24).drop 24).take 24).all (fun c => isCode c || c.before args0 about1) = true := by decide +kernel
set_option maxRecDepth 65536 in
theorem w_t5 : (((((words1.drop 24).drop 24).drop 24).drop 24).take 24).all (fun c => isCode c || c.before args0 about1) = true := by decide +kernel
set_option maxRecDepth 65536 in
theorem w_t6 : ((((((words1.drop 24).drop 24).drop 24).drop 24).drop 24).take 24).all (fun c => isCode c || c.before args0 about1) = true := by decide +kernel
set_option maxRecDepth 65536 in
theorem w_t7 : (((((((words1.drop 24).drop 24).drop 24).drop 24).drop 24).drop 24).take 24).all (fun c => isCode c || c.before args0 about1) = true := by decide +kernel
set_option maxRecDepth 65536 in
theorem w_t8 : ((((((((words1.drop 24).drop 24).drop 24).drop 24).drop 24).drop 24).drop 24).take 24).all (fun c => isCode c || c.before args0 about1) = true := by decide +kernel
set_option maxRecDepth 65536 in
theorem w_t9 : ((((((((words1.drop 24).drop 24).drop 24).drop 24).drop 24).drop 24).drop 24).drop 24).all (fun c => isCode c || c.before args0 about1) = true := by decide +kernel
theorem w_tables : (allAtoms (Jvm.Cond.code x code maxLocals ret :: tables_1)).before args0 about1 = true := by
  rw [allAtoms_all]
  show words1.all (fun c => c.before args0 about1) = true
  refine all_split ?_ w_codes
  rw [← List.take_append_drop 24 words1, List.all_append, w_t1, ← List.take_append_drop 24 (words1.drop 24), List.all_append, w_t2, ← List.take_append_drop 24 ((words1.drop 24).drop 24), List.all_append, w_t3, ← List.take_append_drop 24 (((words1.drop 24).drop 24).drop 24), List.all_append, w_t4, ← List.take_append_drop 24 ((((words1.drop 24).drop 24).drop 24).drop 24), List.all_append, w_t5, ← List.take_append_drop 24 (((((words1.drop 24).drop 24).drop 24).drop 24).drop 24), List.all_append, w_t6, ← List.take_append_drop 24 ((((((words1.drop 24).drop 24).drop 24).drop 24).drop 24).drop 24), List.all_append, w_t7, ← List.take_append_drop 24 (((((((words1.drop 24).drop 24).drop 24).drop 24).drop 24).drop 24).drop 24), List.all_append, w_t8, w_t9]
  rfl
set_option maxRecDepth 65536 in
theorem w_case : (Jvm.Cond.and given_1 narrow_1).before args0 about1 = true := by decide +kernel
theorem w_applies : (headSpec (Jvm.Cond.code x code maxLocals ret :: tables_1) room_1).applies x e0.platform about1 = true :=
  (Spec.applies_iff w_frames).mpr ⟨w_running, w_runnable, w_alone, w_named, w_hears, w_ripe, w_room, w_tables⟩
theorem atStart : AtStart classFile x code maxLocals ret World_1 tables_1 room_1 Calls_1 rest_1 Pre_1 launch0 p0 e0 about1 theMethod args0 below0 :=
  ⟨lists_1, trivial, launch0.admits_env _ _ _, launch0.least_env, fairChoices_fair.cas, fairChoices_fair.clock, w_frames, w_args, w_heap, w_applies, trivial, trivial, w_case⟩
end start1
theorem witness_1 : WitnessClaimed_1 := ⟨start1.p0, start1.e0, start1.about1, start1.theMethod, start1.args0, start1.below0, start1.atStart⟩
end Jvm.Pilot.@@N@@
