import JvmDerived
import JvmDerived.Pilot.@@N@@Statement
import JvmDerived.Pilot.@@N@@Code
set_option linter.unusedVariables false
set_option linter.unusedSimpArgs false
namespace Jvm.Pilot.@@N@@
open Jvm Jvm.ClassFile Sem Op Lib Jvm.Free Jvm.Stand Jvm.LawKit Jvm.RoadKit Bundle Jvm.Pilot.@@N@@.Jvm.D
/-! The shared layer of these proofs (own text): a contract of one body (own_Ct), how a walk goes on and ends (own_Fin), one lemma a kind of call and of return. -/
section OwnLayer
variable {p : Program} {l : Launch} {e : Env} {R rm : Room} {s Z : State} {m : MethodId} {args as' a0 : Array Value} {below : List Frame} {meth : Method} {c : Code} {T : State} {locs : List Loc} {cells slots : Nat} {h : Heap}
  {Q : Option Value → Heap → List Loc → Prop} {y z : MethodName} {bytes : ByteArray} {maxL : Nat} {ret : Option FieldType} {own C : String} {index : Nat}
def own_Ct (l : Launch) (Z : State) (y : MethodName) (bytes : ByteArray) (maxL : Nat) (ret : Option FieldType) (rm : Room) (as' : Array Value) (h0 : Heap) (Q : Option Value → Heap → List Loc → Prop) : Prop :=
  ∀ ws : List Jvm.Cond, MetFree l y (head1 (Jvm.Cond.code y bytes maxL ret :: ws) rm) (fun a U => a = as' ∧ Z.Warmed39 U.vm ∧ U.heap = h0) (fun _ _ _ _ _ => True) (fun _ U o U' => ∃ v L, o = .returned v ∧ Q v U'.heap L ∧ FrameEnd U o U' L rm.cells rm.slots)
def own_Fin (p : Program) (e : Env) (s : State) (below : List Frame) (R : Room) (Q : Option Value → Heap → List Loc → Prop) (A : State) : Prop :=
  ∃ n o, Steps p.tables e below A n ∧ n.status = .running ∧ Ended n below o ∧ ∃ v L, o = .returned v ∧ Q v n.heap L ∧ FrameEnd s o n L R.cells R.slots
theorem own_to {A : State} (B : State) (st : ∀ t, Steps p.tables e below B t → Steps p.tables e below A t) (k : own_Fin p e s below R Q B) : own_Fin p e s below R Q A := by
  obtain ⟨n, o, h1, r⟩ := k
  exact ⟨n, o, st _ h1, r⟩
theorem own_body {h0 : Heap} (hp : plainName y.cls = true)
    (k : ∀ p e s m below meth c s₁, p.tables.exec = Jvm.exec → Z.Warmed39 s.vm → c.code = bytes → c.maxLocals = maxL → s.vm.findClass y.cls = some m.cls → meth.name = y.name → meth.sig.returnType = ret → meth.locks = false →
      Stand p l e rm s m as' below meth c s₁ [] 0 0 → s₁.heap = h0 → own_Fin p e s below rm Q (s₁.setTop (entryFrame m as' maxL))) : own_Ct l Z y bytes maxL ret rm as' h0 Q := by
  intro ws
  refine MetFree.of_bodySF (plainFor_of_name hp) hisR ?_
  intro p e s m args below meth c s₁ Bd hml0 hP hK
  obtain ⟨ha, hZ, hh⟩ := hP
  subst ha
  obtain ⟨n, o, h1, h2, h3, h4⟩ := k p e s m below meth c s₁ Bd.exec hZ Bd.bytes hml0 (findClass_of_methodNamed Bd.named) (name_of_methodNamed Bd.named Bd.method).1 Bd.returns Bd.notSynchronized (Stand.of_body Bd) (by rw [← hh, Bd.state]; rfl)
  exact ⟨n, o, h1, h2, h3, h4⟩
theorem own_retI (X : Stand p l e R s m args below meth c T locs cells slots) (hx : p.tables.exec = Jvm.exec) (hret : meth.sig.returnType = some .int) (hk : meth.locks = false) {pc : Nat} {Ls : Array Slot} {i : Int32} {rest : List Value}
    (hd : decode c.code pc = .ok (.ireturn, 1)) (hc : cells ≤ R.cells) (hs : slots ≤ R.slots) (hq : Q (some (.int i)) T.heap locs) : own_Fin p e s below R Q (T.setTop (mkF m pc Ls (.int i :: rest))) := by
  obtain ⟨fs, hr, hrun, hended, hW, hsame⟩ := X.leave (v := some (.int i)) (fun h => by rw [hret] at h; cases h) hk
  exact ⟨_, _, retOut X hx hret rfl (Or.inl ⟨rfl, Or.inl rfl, _, rfl⟩) hd hr, hrun, hended, _, _, rfl, hq, ⟨_, rfl⟩, hW, hsame.mono hc hs⟩
theorem own_retZ (X : Stand p l e R s m args below meth c T locs cells slots) (hx : p.tables.exec = Jvm.exec) (hret : meth.sig.returnType = some .boolean) (hk : meth.locks = false) {pc : Nat} {Ls : Array Slot} {i i' : Int32} {rest : List Value}
    (hd : decode c.code pc = .ok (.ireturn, 1)) (hc : cells ≤ R.cells) (hs : slots ≤ R.slots) (hi : nar .boolean i = i') (hq : Q (some (.int i')) T.heap locs) : own_Fin p e s below R Q (T.setTop (mkF m pc Ls (.int i :: rest))) := by
  subst hi
  obtain ⟨fs, hr, hrun, hended, hW, hsame⟩ := X.leave (v := some (.int (nar .boolean i))) (fun h => by rw [hret] at h; cases h) hk
  exact ⟨_, _, retN X hx (t := .boolean) hret (by simp) hd hr, hrun, hended, _, _, rfl, hq, ⟨_, rfl⟩, hW, hsame.mono hc hs⟩
theorem own_retJ (X : Stand p l e R s m args below meth c T locs cells slots) (hx : p.tables.exec = Jvm.exec) (hret : meth.sig.returnType = some .long) (hk : meth.locks = false) {pc : Nat} {Ls : Array Slot} {i : Int64} {rest : List Value}
    (hd : decode c.code pc = .ok (.lreturn, 1)) (hc : cells ≤ R.cells) (hs : slots ≤ R.slots) (hq : Q (some (.long i)) T.heap locs) : own_Fin p e s below R Q (T.setTop (mkF m pc Ls (.long i :: rest))) := by
  obtain ⟨fs, hr, hrun, hended, hW, hsame⟩ := X.leave (v := some (.long i)) (fun h => by rw [hret] at h; cases h) hk
  exact ⟨_, _, retOut X hx hret rfl (Or.inr (Or.inl ⟨rfl, rfl, _, rfl⟩)) hd hr, hrun, hended, _, _, rfl, hq, ⟨_, rfl⟩, hW, hsame.mono hc hs⟩
theorem own_retA (X : Stand p l e R s m args below meth c T locs cells slots) (hx : p.tables.exec = Jvm.exec) {t : FieldType} (hret : meth.sig.returnType = some t) (ht : t.isReference = true) (hk : meth.locks = false) {pc : Nat} {Ls : Array Slot} {v : Value} (hv : v.isRef = true) (hn : narrow t v = v) {rest : List Value}
    (hd : decode c.code pc = .ok (.areturn, 1)) (hc : cells ≤ R.cells) (hs : slots ≤ R.slots) (hq : Q (some v) T.heap locs) : own_Fin p e s below R Q (T.setTop (mkF m pc Ls (v :: rest))) := by
  obtain ⟨fs, hr, hrun, hended, hW, hsame⟩ := X.leave (v := some v) (fun h => by rw [hret] at h; cases h) hk
  exact ⟨_, _, retOut X hx hret hn (Or.inr (Or.inr (Or.inr (Or.inr ⟨rfl, ht, hv⟩)))) hd hr, hrun, hended, _, _, rfl, hq, ⟨_, rfl⟩, hW, hsame.mono hc hs⟩
theorem own_retV (X : Stand p l e R s m args below meth c T locs cells slots) (hx : p.tables.exec = Jvm.exec) (hret : meth.sig.returnType = none) (hk : meth.locks = false) {pc : Nat} {Ls : Array Slot}
    (hd : decode c.code pc = .ok (.return_, 1)) (hc : cells ≤ R.cells) (hs : slots ≤ R.slots) (hq : Q none T.heap locs) : own_Fin p e s below R Q (T.setTop (mkF m pc Ls [])) := by
  obtain ⟨fs, hr, hrun, hended, hW, hsame⟩ := X.leave (v := none) (fun _ => rfl) hk
  exact ⟨_, _, X.returnOut hx hret hd hr, hrun, hended, _, _, rfl, hq, ⟨_, rfl⟩, hW, hsame.mono hc hs⟩
theorem own_callV (X : Stand p l e R s m args below meth c T locs cells slots) (hx : p.tables.exec = Jvm.exec) (hZ : Z.Warmed39 s.vm) (hown : s.vm.findClass own = some m.cls) (w1 : (Cond.methodLink own index y).before a0 Z = true) (w2 : (Cond.declares y).before a0 Z = true)
    (w3 : (Cond.selects C y z).before a0 Z = true) (nf : NotFace s y) (w4 : (Cond.instanceMethod z).before a0 Z = true) (w5 : (Cond.code z bytes maxL ret).before a0 Z = true) (w6 : (Cond.initialized z.cls).before a0 Z = true) (hy : y.cls ≠ "java/lang/invoke/MethodHandle" ∧ y.cls ≠ "java/lang/invoke/VarHandle")
    (eT : T.heap = h) {b : Addr} (E : Exa Z h b C) {argsL rest : List Value} (ct : own_Ct l Z z bytes maxL ret rm (.ref b :: argsL).toArray h Q) (hf : rm.frames + 1 ≤ R.frames) {W : Nat} (hl : W + (maxL + 11) + rm.locals ≤ R.locals) (hc : cells + rm.cells ≤ R.cells) (hs : slots + rm.slots ≤ R.slots)
    {ps : List FieldType} {r : Option FieldType} (hpd : parseMethodDescriptor y.desc = some ⟨ps, r⟩) (hll : argsL.length = ps.length) {pc : Nat} {Ls : Array Slot} (hsz : Ls.size = c.maxLocals) (hW : (rest.map fun v => v.category).sum ≤ W) (hd : decode c.code pc = .ok (.invokevirtual index, 3)) :
    ∃ v T' L, Stand p l e R s m args below meth c T' (locs ++ L) (cells + rm.cells) (slots + rm.slots) ∧ Q v T'.heap L ∧ ∀ t, Steps p.tables e below (T'.setTop (mkF m (pc + 3) Ls (v.toList ++ rest))) t → Steps p.tables e below (T.setTop (mkF m pc Ls (argsL.reverse ++ .ref b :: rest))) t := by
  obtain ⟨cB, kB, q1, q2, q3⟩ := isOf hZ eT E
  obtain ⟨v, _, ⟨T', L', k', n'⟩, -, X', ⟨L, hQ, l1, y1, z1⟩, st⟩ := X.virtualBack hx (y := y) (z := z) hown (mvT hZ w1) (mvT hZ w2) nf (mvT hZ w3) (mvT hZ w4) hy (backOf (W := W) (ct []) hZ w5 w6 hf hl) q1 q3
    (g := mkF m pc Ls (argsL.reverse ++ .ref b :: rest)) rfl hsz (Steps.refl _) (argsL := argsL) (rest := rest) (lenOf hpd hll) rfl (by show 2 * 0 + _ ≤ _; rw [Nat.mul_zero, Nat.zero_add]; exact hW) hd (fun _ _ => ⟨rfl, eT, hc, hs⟩)
  dsimp only [Pt.U, Pt.locs, Pt.cells, Pt.slots] at X' l1 y1 z1 st hQ
  subst l1 y1 z1
  exact ⟨v, T', L, X', hQ, fun t k => st.trans k⟩
theorem own_callS (X : Stand p l e R s m args below meth c T locs cells slots) (hx : p.tables.exec = Jvm.exec) (hZ : Z.Warmed39 s.vm) (hown : s.vm.findClass own = some m.cls) (w1 : (Cond.methodLink own index y).before a0 Z = true) (w2 : (Cond.static y).before a0 Z = true)
    (w5 : (Cond.code y bytes maxL ret).before a0 Z = true) (w6 : (Cond.initialized y.cls).before a0 Z = true) (hy : y.cls ≠ "java/lang/invoke/MethodHandle" ∧ y.cls ≠ "java/lang/invoke/VarHandle")
    (eT : T.heap = h) {argsL rest : List Value} (ct : own_Ct l Z y bytes maxL ret rm argsL.toArray h Q) (hf : rm.frames + 1 ≤ R.frames) {W : Nat} (hl : W + (maxL + 11) + rm.locals ≤ R.locals) (hc : cells + rm.cells ≤ R.cells) (hs : slots + rm.slots ≤ R.slots)
    {ps : List FieldType} {r : Option FieldType} (hpd : parseMethodDescriptor y.desc = some ⟨ps, r⟩) (hll : argsL.length = ps.length) {pc : Nat} {Ls : Array Slot} (hsz : Ls.size = c.maxLocals) (hW : (rest.map fun v => v.category).sum ≤ W) (hd : decode c.code pc = .ok (.invokestatic index, 3)) :
    ∃ v T' L, Stand p l e R s m args below meth c T' (locs ++ L) (cells + rm.cells) (slots + rm.slots) ∧ Q v T'.heap L ∧ ∀ t, Steps p.tables e below (T'.setTop (mkF m (pc + 3) Ls (v.toList ++ rest))) t → Steps p.tables e below (T.setTop (mkF m pc Ls (argsL.reverse ++ rest))) t := by
  obtain ⟨v, _, ⟨T', L', k', n'⟩, -, X', ⟨L, hQ, l1, y1, z1⟩, st⟩ := Jvm.LawKit.callS X hx (y := y) hown (mvT hZ w1) (mvT hZ w2) (mvT hZ w6) (mvT hZ w5) hy (backOf (W := W) (ct []) hZ w5 w6 hf hl)
    (g := mkF m pc Ls (argsL.reverse ++ rest)) rfl hsz (argsL := argsL) (rest := rest) (lenOf hpd hll) rfl (by show 2 * 0 + _ ≤ _; rw [Nat.mul_zero, Nat.zero_add]; exact hW) hd (fun _ _ => ⟨rfl, eT, hc, hs⟩)
  dsimp only [Pt.U, Pt.locs, Pt.cells, Pt.slots] at X' l1 y1 z1 st hQ
  subst l1 y1 z1
  exact ⟨v, T', L, X', hQ, fun t k => st t k⟩
theorem own_callN (X : Stand p l e R s m args below meth c T locs cells slots) (hx : p.tables.exec = Jvm.exec) (hZ : Z.Warmed39 s.vm) (hown : s.vm.findClass own = some m.cls) (hn : y.name = "<init>") (w1 : (Cond.methodLink own index y).before a0 Z = true) (w2 : (Cond.instanceMethod y).before a0 Z = true)
    (w5 : (Cond.code y bytes maxL none).before a0 Z = true) (w6 : (Cond.initialized y.cls).before a0 Z = true) (hy : y.cls ≠ "java/lang/invoke/MethodHandle" ∧ y.cls ≠ "java/lang/invoke/VarHandle")
    (eT : T.heap = h) {b : Addr} {argsL rest : List Value} (ct : own_Ct l Z y bytes maxL none rm (.ref b :: argsL).toArray h Q) (hf : rm.frames + 1 ≤ R.frames) {W : Nat} (hl : W + (maxL + 11) + rm.locals ≤ R.locals) (hc : cells + rm.cells ≤ R.cells) (hs : slots + rm.slots ≤ R.slots)
    {ps : List FieldType} {r : Option FieldType} (hpd : parseMethodDescriptor y.desc = some ⟨ps, r⟩) (hll : argsL.length = ps.length) {pc : Nat} {Ls : Array Slot} (hsz : Ls.size = c.maxLocals) (hW : (rest.map fun v => v.category).sum ≤ W) (hd : decode c.code pc = .ok (.invokespecial index, 3)) :
    ∃ v T' L, Stand p l e R s m args below meth c T' (locs ++ L) (cells + rm.cells) (slots + rm.slots) ∧ Q v T'.heap L ∧ ∀ t, Steps p.tables e below (T'.setTop (mkF m (pc + 3) Ls (v.toList ++ rest))) t → Steps p.tables e below (T.setTop (mkF m pc Ls (argsL.reverse ++ .ref b :: rest))) t := by
  obtain ⟨v, _, ⟨T', L', k', n'⟩, -, X', ⟨L, hQ, l1, y1, z1⟩, st⟩ := X.specialBack hx (y := y) hn hown (mvT hZ w1) (mvT hZ w2) (mvT hZ w5) hy (backOf (W := W) (ct []) hZ w5 w6 hf hl)
    (g := mkF m pc Ls (argsL.reverse ++ .ref b :: rest)) rfl hsz (Steps.refl _) (a := b) (argsL := argsL) (rest := rest) (lenOf hpd hll) rfl (by show 2 * 0 + _ ≤ _; rw [Nat.mul_zero, Nat.zero_add]; exact hW) hd (fun _ _ => ⟨rfl, eT, hc, hs⟩)
  dsimp only [Pt.U, Pt.locs, Pt.cells, Pt.slots] at X' l1 y1 z1 st hQ
  subst l1 y1 z1
  exact ⟨v, T', L, X', hQ, fun t k => st.trans k⟩
theorem own_staK {h' : Heap} {ws : List Addr} {n d : String} {v : Value} (F : Sta Z h C n d v) (K : Keep h h' ws) (hws : ∀ x ∈ ws, ∀ cl : Cell, h[x]? = some cl → cl.vm.isStatics = false) : Sta Z h' C n d v := by
  obtain ⟨cf, i, k, f, st, cell, h1, h2, h3, h4, h5, h6, h7⟩ := F
  refine ⟨cf, i, k, f, st, cell, h1, h2, h3, h4, K.2.1 st cell h5 (fun q => ?_), h6, h7⟩
  rw [hws st q cell h5] at h6; cases h6
theorem own_exaS {a : Addr} (E : Exa Z h a C) : ∀ cl : Cell, h[a]? = some cl → cl.vm.isStatics = false := by
  obtain ⟨cell, k, h1, -, -, h4, -⟩ := E
  intro cl q
  cases h1.symm.trans q
  exact h4
end OwnLayer
theorem d1_0 : decode prog_24_method_7_code 0 = .ok (.aload_n 0, 1) := by decide +kernel
theorem d1_1 : decode prog_24_method_7_code 1 = .ok (.getfield 42, 3) := by decide +kernel
theorem d1_4 : decode prog_24_method_7_code 4 = .ok (.ifCond .eq 14, 3) := by decide +kernel
theorem d1_7 : decode prog_24_method_7_code 7 = .ok (.aload_n 0, 1) := by decide +kernel
theorem d1_8 : decode prog_24_method_7_code 8 = .ok (.getfield 46, 3) := by decide +kernel
theorem d1_11 : decode prog_24_method_7_code 11 = .ok (.ifCond .ne 7, 3) := by decide +kernel
theorem d1_14 : decode prog_24_method_7_code 14 = .ok (.iconst 1, 1) := by decide +kernel
theorem d1_15 : decode prog_24_method_7_code 15 = .ok (.goto 4, 3) := by decide +kernel
theorem d1_18 : decode prog_24_method_7_code 18 = .ok (.iconst 0, 1) := by decide +kernel
theorem d1_19 : decode prog_24_method_7_code 19 = .ok (.ireturn, 1) := by decide +kernel
theorem pn_1 : plainName "com/example/millrace/millrace/model/MovementKind" = true := by first | (simp [plainName, overriddenIn]; done) | decide +kernel
theorem pd_1 : parseMethodDescriptor "()Z" = some ⟨[], some .boolean⟩ := by decide +kernel
theorem pn_0 : plainName "com/example/millrace/millrace/model/MovementKindNeedsUnitCostPinLaw" = true := by first | (simp [plainName, overriddenIn]; done) | decide +kernel
theorem pd_0 : parseMethodDescriptor "(I)Z" = some ⟨[.int], some .boolean⟩ := by decide +kernel
theorem ef_1 (m : MethodId) (x0 : Addr) : entryFrame m #[(.ref x0)] 1 = mkF m 0 #[.val (.ref x0)] [] := by first | (simp [entryFrame, mkF, argsToLocals, Value.category]; done) | rfl
def own_need (w u : Int32) : Int32 := if w = 0 then 0 else if u = 0 then 1 else 0
def Q1 (Z : State) (a : Addr) (w u : Int32) (h0 : Heap) (n0 : Nat) (v : Option Value) (h : Heap) (L : List Loc) : Prop := v = some (.int (own_need w u)) ∧ Fr n0 L ∧ h = h0
set_option maxRecDepth 65536 in
set_option maxHeartbeats 40000000 in
theorem rm1 (l : Launch) (Z : State) (a0 : Array Value) (hw : ∀ d ∈ tables_1, d.before a0 Z = true) (a : Addr) (w u : Int32) (h0 : Heap) (n0 : Nat) (Z0 : n0 ≤ h0.size) (F1 : Fld Z h0 a "com/example/millrace/millrace/model/MovementKind" "adding" "Z" (.int w)) (F2 : Fld Z h0 a "com/example/millrace/millrace/model/MovementKind" "counted" "Z" (.int u)) :
    own_Ct l Z (⟨"com/example/millrace/millrace/model/MovementKind", "needsUnitCost", "()Z"⟩ : MethodName) prog_24_method_7_code 1 (some .boolean) ({ frames := 0, cells := 0, slots := 0, locals := 0 } : Room) #[(.ref a)] h0 (Q1 Z a w u h0 n0) := by
  refine own_body pn_1 ?_
  intro p e s m below meth cd s₁ hx hZ hby hml hown hnm hret hk X0 e0
  have N0 := Fr.nil n0
  refine own_to (s₁.setTop (mkF m 0 #[.val (.ref a)] [])) (fun t k => castTop (ef_1 m a) k) ?_
  refine own_to (s₁.setTop (mkF m 1 #[.val (.ref a)] [(.ref a)])) (fun t k => XS.aloadN X0.here hx rfl (hb hby d1_0) rfl rfl k) ?_
  obtain ⟨T11, X11, e11, st11⟩ := getF X0 hx hZ hown (host := "") (Or.inl (hw _ (List.mem_of_getElem? (i := 9) rfl))) Via.refl e0 F1 (g := (mkF m 1 #[.val (.ref a)] [(.ref a)])) rfl rfl (hb hby d1_1)
  refine own_to (T11.setTop (mkF m 4 #[.val (.ref a)] [(.int w)])) (fun t k => st11 t k) ?_
  by_cases c12 : w = (0 : Int32)
  · -- c12 yes
    refine own_to (T11.setTop (mkF m 18 #[.val (.ref a)] [])) (fun t k => XS.ifYes X11.here hx rfl (pc0 := 4) (pc' := 18) rfl (hb hby d1_4) rfl ((if0 _ _).trans (teq c12).1) (by decide) (by decide) k) ?_
    refine own_to (T11.setTop (mkF m 19 #[.val (.ref a)] [(.int (0 : Int32))])) (fun t k => XT.iconstV X11.here hx rfl (0 : Int32) (hb hby d1_18) (by decide) k) ?_
    exact own_retZ X11 hx hret hk (i' := (0 : Int32)) (hb hby d1_19) (by decide) (by decide) (by decide) ⟨by simp [own_need, c12], N0, e11⟩
  · -- c12 no
    refine own_to (T11.setTop (mkF m 7 #[.val (.ref a)] [])) (fun t k => XS.ifNo X11.here hx rfl (hb hby d1_4) rfl ((if0 _ _).trans (feq c12).1) k) ?_
    refine own_to (T11.setTop (mkF m 8 #[.val (.ref a)] [(.ref a)])) (fun t k => XS.aloadN X11.here hx rfl (hb hby d1_7) rfl rfl k) ?_
    obtain ⟨T13, X13, e13, st13⟩ := getF X11 hx hZ hown (host := "") (Or.inl (hw _ (List.mem_of_getElem? (i := 11) rfl))) Via.refl e11 F2 (g := (mkF m 8 #[.val (.ref a)] [(.ref a)])) rfl rfl (hb hby d1_8)
    refine own_to (T13.setTop (mkF m 11 #[.val (.ref a)] [(.int u)])) (fun t k => st13 t k) ?_
    by_cases c14 : u = (0 : Int32)
    · -- c14 yes
      refine own_to (T13.setTop (mkF m 14 #[.val (.ref a)] [])) (fun t k => XS.ifNo X13.here hx rfl (hb hby d1_11) rfl ((if0 _ _).trans (teq c14).2) k) ?_
      refine own_to (T13.setTop (mkF m 15 #[.val (.ref a)] [(.int (1 : Int32))])) (fun t k => XT.iconstV X13.here hx rfl (1 : Int32) (hb hby d1_14) (by decide) k) ?_
      refine own_to (T13.setTop (mkF m 19 #[.val (.ref a)] [(.int (1 : Int32))])) (fun t k => XS.goto X13.here hx rfl (pc0 := 15) (pc' := 19) rfl (hb hby d1_15) (by decide) (by decide) k) ?_
      exact own_retZ X13 hx hret hk (i' := (1 : Int32)) (hb hby d1_19) (by decide) (by decide) (by decide) ⟨by simp [own_need, c12, c14], N0, e13⟩
    · -- c14 no
      refine own_to (T13.setTop (mkF m 18 #[.val (.ref a)] [])) (fun t k => XS.ifYes X13.here hx rfl (pc0 := 11) (pc' := 18) rfl (hb hby d1_11) rfl ((if0 _ _).trans (feq c14).2) (by decide) (by decide) k) ?_
      refine own_to (T13.setTop (mkF m 19 #[.val (.ref a)] [(.int (0 : Int32))])) (fun t k => XT.iconstV X13.here hx rfl (0 : Int32) (hb hby d1_18) (by decide) k) ?_
      exact own_retZ X13 hx hret hk (i' := (0 : Int32)) (hb hby d1_19) (by decide) (by decide) (by decide) ⟨by simp [own_need, c12, c14], N0, e13⟩
theorem ef_0 (m : MethodId) (x0 : Int32) : entryFrame m #[(.int x0)] maxLocals = mkF m 0 #[.val (.int x0), .unset, .unset, .unset] [] := by first | (simp [entryFrame, mkF, argsToLocals, Value.category, maxLocals]; done) | rfl
def Q0 (Z : State) (q : Int32) (x0 : Addr) (x1 : Addr) (x2 : Addr) (x3 : Addr) (x4 : Addr) (h0 : Heap) (n0 : Nat) (v : Option Value) (h : Heap) (L : List Loc) : Prop := v = some (.int 1) ∧ Fr n0 L
set_option maxRecDepth 65536 in
set_option maxHeartbeats 40000000 in
theorem rm0 (l : Launch) (Z : State) (a0 : Array Value) (hw : ∀ d ∈ tables_1, d.before a0 Z = true) (q : Int32) (x0 : Addr) (x1 : Addr) (x2 : Addr) (x3 : Addr) (x4 : Addr) (h0 : Heap) (n0 : Nat) (Z0 : n0 ≤ h0.size) (S0 : Sta Z h0 "com/example/millrace/millrace/model/MovementKind" "OPENING" "Lcom/example/millrace/millrace/model/MovementKind;" (.ref x0)) (E0 : Exa Z h0 x0 "com/example/millrace/millrace/model/MovementKind") (F0a : Fld Z h0 x0 "com/example/millrace/millrace/model/MovementKind" "adding" "Z" (.int 1)) (F0b : Fld Z h0 x0 "com/example/millrace/millrace/model/MovementKind" "counted" "Z" (.int 0)) (S1 : Sta Z h0 "com/example/millrace/millrace/model/MovementKind" "RECEIPT" "Lcom/example/millrace/millrace/model/MovementKind;" (.ref x1)) (E1 : Exa Z h0 x1 "com/example/millrace/millrace/model/MovementKind") (F1a : Fld Z h0 x1 "com/example/millrace/millrace/model/MovementKind" "adding" "Z" (.int 1)) (F1b : Fld Z h0 x1 "com/example/millrace/millrace/model/MovementKind" "counted" "Z" (.int 0)) (S2 : Sta Z h0 "com/example/millrace/millrace/model/MovementKind" "ISSUE" "Lcom/example/millrace/millrace/model/MovementKind;" (.ref x2)) (E2 : Exa Z h0 x2 "com/example/millrace/millrace/model/MovementKind") (F2a : Fld Z h0 x2 "com/example/millrace/millrace/model/MovementKind" "adding" "Z" (.int 0)) (F2b : Fld Z h0 x2 "com/example/millrace/millrace/model/MovementKind" "counted" "Z" (.int 0)) (S3 : Sta Z h0 "com/example/millrace/millrace/model/MovementKind" "COUNT_GAIN" "Lcom/example/millrace/millrace/model/MovementKind;" (.ref x3)) (E3 : Exa Z h0 x3 "com/example/millrace/millrace/model/MovementKind") (F3a : Fld Z h0 x3 "com/example/millrace/millrace/model/MovementKind" "adding" "Z" (.int 1)) (F3b : Fld Z h0 x3 "com/example/millrace/millrace/model/MovementKind" "counted" "Z" (.int 1)) (S4 : Sta Z h0 "com/example/millrace/millrace/model/MovementKind" "COUNT_LOSS" "Lcom/example/millrace/millrace/model/MovementKind;" (.ref x4)) (E4 : Exa Z h0 x4 "com/example/millrace/millrace/model/MovementKind") (F4a : Fld Z h0 x4 "com/example/millrace/millrace/model/MovementKind" "adding" "Z" (.int 0)) (F4b : Fld Z h0 x4 "com/example/millrace/millrace/model/MovementKind" "counted" "Z" (.int 1)) :
    own_Ct l Z x code maxLocals ret room_1 #[(.int q)] h0 (Q0 Z q x0 x1 x2 x3 x4 h0 n0) := by
  refine own_body pn_0 ?_
  intro p e s m below meth cd s₁ hx hZ hby hml hown hnm hret hk X0 e0
  have N0 := Fr.nil n0
  refine own_to (s₁.setTop (mkF m 0 #[.val (.int q), .unset, .unset, .unset] [])) (fun t k => castTop (ef_0 m q) k) ?_
  refine own_to (s₁.setTop (mkF m 1 #[.val (.int q), .unset, .unset, .unset] [(.int q)])) (fun t k => XS.iloadN X0.here hx rfl (hb hby at_0) rfl k) ?_
  refine own_to (s₁.setTop (mkF m 3 #[.val (.int q), .unset, .unset, .unset] [(.int (2147483647 : Int32)), (.int q)])) (fun t k => X0.ldcI hx hown (mvT hZ (hw _ (List.mem_of_getElem? (i := 0) rfl))) rfl (hb hby at_1) k) ?_
  refine own_to (s₁.setTop (mkF m 4 #[.val (.int q), .unset, .unset, .unset] [(.int (q &&& (2147483647 : Int32)))])) (fun t k => XS.iand X0.here hx rfl (hb hby at_3) rfl k) ?_
  refine own_to (s₁.setTop (mkF m 5 #[.val (.int q), .unset, .unset, .unset] [(.int (5 : Int32)), (.int (q &&& (2147483647 : Int32)))])) (fun t k => XT.iconstV X0.here hx rfl (5 : Int32) (hb hby at_4) (by decide) k) ?_
  refine own_to (s₁.setTop (mkF m 6 #[.val (.int q), .unset, .unset, .unset] [(.int ((q &&& (2147483647 : Int32)) % (5 : Int32)))])) (fun t k => iremM X0 hx rfl (hb hby at_5) rfl (by decide) k) ?_
  refine own_to (s₁.setTop (mkF m 7 #[.val (.int q), .val (.int ((q &&& (2147483647 : Int32)) % (5 : Int32))), .unset, .unset] [])) (fun t k => XS.istoreN X0.here hx rfl (hb hby at_6) rfl (l' := #[.val (.int q), .val (.int ((q &&& (2147483647 : Int32)) % (5 : Int32))), .unset, .unset]) rfl k) ?_
  refine own_to (s₁.setTop (mkF m 8 #[.val (.int q), .val (.int ((q &&& (2147483647 : Int32)) % (5 : Int32))), .unset, .unset] [(.int ((q &&& (2147483647 : Int32)) % (5 : Int32)))])) (fun t k => XS.iloadN X0.here hx rfl (hb hby at_7) rfl k) ?_
  by_cases c11 : ((q &&& (2147483647 : Int32)) % (5 : Int32)) = (0 : Int32)
  · -- c11 yes
    refine own_to (s₁.setTop (mkF m 11 #[.val (.int q), .val (.int ((q &&& (2147483647 : Int32)) % (5 : Int32))), .unset, .unset] [])) (fun t k => XS.ifNo X0.here hx rfl (hb hby at_8) rfl ((if0 _ _).trans (teq c11).2) k) ?_
    obtain ⟨T12, X12, e12, st12⟩ := getS (host := "") X0 hx hZ hown (hw _ (List.mem_of_getElem? (i := 1) rfl)) Via.refl e0 S0 (g := (mkF m 11 #[.val (.int q), .val (.int ((q &&& (2147483647 : Int32)) % (5 : Int32))), .unset, .unset] [])) rfl (hb hby at_11)
    refine own_to (T12.setTop (mkF m 14 #[.val (.int q), .val (.int ((q &&& (2147483647 : Int32)) % (5 : Int32))), .unset, .unset] [(.ref x0)])) (fun t k => st12 t k) ?_
    refine own_to (T12.setTop (mkF m 15 #[.val (.int q), .val (.int ((q &&& (2147483647 : Int32)) % (5 : Int32))), .val (.ref x0), .unset] [])) (fun t k => XS.astoreN X12.here hx rfl (hb hby at_14) rfl rfl (l' := #[.val (.int q), .val (.int ((q &&& (2147483647 : Int32)) % (5 : Int32))), .val (.ref x0), .unset]) rfl k) ?_
    refine own_to (T12.setTop (mkF m 16 #[.val (.int q), .val (.int ((q &&& (2147483647 : Int32)) % (5 : Int32))), .val (.ref x0), .unset] [(.int (1 : Int32))])) (fun t k => XT.iconstV X12.here hx rfl (1 : Int32) (hb hby at_15) (by decide) k) ?_
    refine own_to (T12.setTop (mkF m 17 #[.val (.int q), .val (.int ((q &&& (2147483647 : Int32)) % (5 : Int32))), .val (.ref x0), .val (.int (1 : Int32))] [])) (fun t k => XS.istoreN X12.here hx rfl (hb hby at_16) rfl (l' := #[.val (.int q), .val (.int ((q &&& (2147483647 : Int32)) % (5 : Int32))), .val (.ref x0), .val (.int (1 : Int32))]) rfl k) ?_
    refine own_to (T12.setTop (mkF m 68 #[.val (.int q), .val (.int ((q &&& (2147483647 : Int32)) % (5 : Int32))), .val (.ref x0), .val (.int (1 : Int32))] [])) (fun t k => XS.goto X12.here hx rfl (pc0 := 17) (pc' := 68) rfl (hb hby at_17) (by decide) (by decide) k) ?_
    refine own_to (T12.setTop (mkF m 69 #[.val (.int q), .val (.int ((q &&& (2147483647 : Int32)) % (5 : Int32))), .val (.ref x0), .val (.int (1 : Int32))] [(.ref x0)])) (fun t k => XS.aloadN X12.here hx rfl (hb hby at_68) rfl rfl k) ?_
    obtain ⟨v13, T13, L13, X13, hQ13, st13⟩ := own_callV X12 hx hZ hown (hw _ (List.mem_of_getElem? (i := 4) rfl)) (hw _ (List.mem_of_getElem? (i := 5) rfl)) (hw _ (List.mem_of_getElem? (i := 7) rfl)) (notFace_of_selects (args := #[]) (mvT hZ (hw _ (List.mem_of_getElem? (i := 7) rfl)))) (hw _ (List.mem_of_getElem? (i := 6) rfl)) (hw _ (List.mem_of_getElem? (i := 8) rfl)) (hw _ (List.mem_of_getElem? (i := 2) rfl)) (by decide) e12 E0 (argsL := []) (rest := []) (rm1 l Z a0 hw x0 1 0 h0 n0 Z0 F0a F0b) (by decide) (W := 0) (by decide) (by decide) (by decide) pd_1 rfl (pc := 69) (Ls := #[.val (.int q), .val (.int ((q &&& (2147483647 : Int32)) % (5 : Int32))), .val (.ref x0), .val (.int (1 : Int32))]) (by rw [hml]; rfl) (Nat.le_of_eq rfl) (hb hby at_69)
    obtain ⟨rfl, M13, e13⟩ := hQ13
    have N13 := Fr.app N0 M13
    refine own_to (T13.setTop (mkF m 72 #[.val (.int q), .val (.int ((q &&& (2147483647 : Int32)) % (5 : Int32))), .val (.ref x0), .val (.int (1 : Int32))] [(.int (1 : Int32))])) (fun t k => st13 t k) ?_
    refine own_to (T13.setTop (mkF m 73 #[.val (.int q), .val (.int ((q &&& (2147483647 : Int32)) % (5 : Int32))), .val (.ref x0), .val (.int (1 : Int32))] [(.int (1 : Int32)), (.int (1 : Int32))])) (fun t k => XS.iloadN X13.here hx rfl (hb hby at_72) rfl k) ?_
    refine own_to (T13.setTop (mkF m 76 #[.val (.int q), .val (.int ((q &&& (2147483647 : Int32)) % (5 : Int32))), .val (.ref x0), .val (.int (1 : Int32))] [])) (fun t k => XS.icmpNo X13.here hx rfl (hb hby at_73) rfl (teq rfl).2 k) ?_
    refine own_to (T13.setTop (mkF m 77 #[.val (.int q), .val (.int ((q &&& (2147483647 : Int32)) % (5 : Int32))), .val (.ref x0), .val (.int (1 : Int32))] [(.int (1 : Int32))])) (fun t k => XT.iconstV X13.here hx rfl (1 : Int32) (hb hby at_76) (by decide) k) ?_
    refine own_to (T13.setTop (mkF m 81 #[.val (.int q), .val (.int ((q &&& (2147483647 : Int32)) % (5 : Int32))), .val (.ref x0), .val (.int (1 : Int32))] [(.int (1 : Int32))])) (fun t k => XS.goto X13.here hx rfl (pc0 := 77) (pc' := 81) rfl (hb hby at_77) (by decide) (by decide) k) ?_
    exact own_retZ X13 hx hret hk (i' := (1 : Int32)) (hb hby at_81) (by decide) (by decide) (by decide) ⟨rfl, N13⟩
  · -- c11 no
    refine own_to (s₁.setTop (mkF m 20 #[.val (.int q), .val (.int ((q &&& (2147483647 : Int32)) % (5 : Int32))), .unset, .unset] [])) (fun t k => XS.ifYes X0.here hx rfl (pc0 := 8) (pc' := 20) rfl (hb hby at_8) rfl ((if0 _ _).trans (feq c11).2) (by decide) (by decide) k) ?_
    refine own_to (s₁.setTop (mkF m 21 #[.val (.int q), .val (.int ((q &&& (2147483647 : Int32)) % (5 : Int32))), .unset, .unset] [(.int ((q &&& (2147483647 : Int32)) % (5 : Int32)))])) (fun t k => XS.iloadN X0.here hx rfl (hb hby at_20) rfl k) ?_
    refine own_to (s₁.setTop (mkF m 22 #[.val (.int q), .val (.int ((q &&& (2147483647 : Int32)) % (5 : Int32))), .unset, .unset] [(.int (1 : Int32)), (.int ((q &&& (2147483647 : Int32)) % (5 : Int32)))])) (fun t k => XT.iconstV X0.here hx rfl (1 : Int32) (hb hby at_21) (by decide) k) ?_
    by_cases c14 : ((q &&& (2147483647 : Int32)) % (5 : Int32)) = (1 : Int32)
    · -- c14 yes
      refine own_to (s₁.setTop (mkF m 25 #[.val (.int q), .val (.int ((q &&& (2147483647 : Int32)) % (5 : Int32))), .unset, .unset] [])) (fun t k => XS.icmpNo X0.here hx rfl (hb hby at_22) rfl (teq c14).2 k) ?_
      obtain ⟨T15, X15, e15, st15⟩ := getS (host := "") X0 hx hZ hown (hw _ (List.mem_of_getElem? (i := 15) rfl)) Via.refl e0 S1 (g := (mkF m 25 #[.val (.int q), .val (.int ((q &&& (2147483647 : Int32)) % (5 : Int32))), .unset, .unset] [])) rfl (hb hby at_25)
      refine own_to (T15.setTop (mkF m 28 #[.val (.int q), .val (.int ((q &&& (2147483647 : Int32)) % (5 : Int32))), .unset, .unset] [(.ref x1)])) (fun t k => st15 t k) ?_
      refine own_to (T15.setTop (mkF m 29 #[.val (.int q), .val (.int ((q &&& (2147483647 : Int32)) % (5 : Int32))), .val (.ref x1), .unset] [])) (fun t k => XS.astoreN X15.here hx rfl (hb hby at_28) rfl rfl (l' := #[.val (.int q), .val (.int ((q &&& (2147483647 : Int32)) % (5 : Int32))), .val (.ref x1), .unset]) rfl k) ?_
      refine own_to (T15.setTop (mkF m 30 #[.val (.int q), .val (.int ((q &&& (2147483647 : Int32)) % (5 : Int32))), .val (.ref x1), .unset] [(.int (1 : Int32))])) (fun t k => XT.iconstV X15.here hx rfl (1 : Int32) (hb hby at_29) (by decide) k) ?_
      refine own_to (T15.setTop (mkF m 31 #[.val (.int q), .val (.int ((q &&& (2147483647 : Int32)) % (5 : Int32))), .val (.ref x1), .val (.int (1 : Int32))] [])) (fun t k => XS.istoreN X15.here hx rfl (hb hby at_30) rfl (l' := #[.val (.int q), .val (.int ((q &&& (2147483647 : Int32)) % (5 : Int32))), .val (.ref x1), .val (.int (1 : Int32))]) rfl k) ?_
      refine own_to (T15.setTop (mkF m 68 #[.val (.int q), .val (.int ((q &&& (2147483647 : Int32)) % (5 : Int32))), .val (.ref x1), .val (.int (1 : Int32))] [])) (fun t k => XS.goto X15.here hx rfl (pc0 := 31) (pc' := 68) rfl (hb hby at_31) (by decide) (by decide) k) ?_
      refine own_to (T15.setTop (mkF m 69 #[.val (.int q), .val (.int ((q &&& (2147483647 : Int32)) % (5 : Int32))), .val (.ref x1), .val (.int (1 : Int32))] [(.ref x1)])) (fun t k => XS.aloadN X15.here hx rfl (hb hby at_68) rfl rfl k) ?_
      obtain ⟨v16, T16, L16, X16, hQ16, st16⟩ := own_callV X15 hx hZ hown (hw _ (List.mem_of_getElem? (i := 4) rfl)) (hw _ (List.mem_of_getElem? (i := 5) rfl)) (hw _ (List.mem_of_getElem? (i := 7) rfl)) (notFace_of_selects (args := #[]) (mvT hZ (hw _ (List.mem_of_getElem? (i := 7) rfl)))) (hw _ (List.mem_of_getElem? (i := 6) rfl)) (hw _ (List.mem_of_getElem? (i := 8) rfl)) (hw _ (List.mem_of_getElem? (i := 2) rfl)) (by decide) e15 E1 (argsL := []) (rest := []) (rm1 l Z a0 hw x1 1 0 h0 n0 Z0 F1a F1b) (by decide) (W := 0) (by decide) (by decide) (by decide) pd_1 rfl (pc := 69) (Ls := #[.val (.int q), .val (.int ((q &&& (2147483647 : Int32)) % (5 : Int32))), .val (.ref x1), .val (.int (1 : Int32))]) (by rw [hml]; rfl) (Nat.le_of_eq rfl) (hb hby at_69)
      obtain ⟨rfl, M16, e16⟩ := hQ16
      have N16 := Fr.app N0 M16
      refine own_to (T16.setTop (mkF m 72 #[.val (.int q), .val (.int ((q &&& (2147483647 : Int32)) % (5 : Int32))), .val (.ref x1), .val (.int (1 : Int32))] [(.int (1 : Int32))])) (fun t k => st16 t k) ?_
      refine own_to (T16.setTop (mkF m 73 #[.val (.int q), .val (.int ((q &&& (2147483647 : Int32)) % (5 : Int32))), .val (.ref x1), .val (.int (1 : Int32))] [(.int (1 : Int32)), (.int (1 : Int32))])) (fun t k => XS.iloadN X16.here hx rfl (hb hby at_72) rfl k) ?_
      refine own_to (T16.setTop (mkF m 76 #[.val (.int q), .val (.int ((q &&& (2147483647 : Int32)) % (5 : Int32))), .val (.ref x1), .val (.int (1 : Int32))] [])) (fun t k => XS.icmpNo X16.here hx rfl (hb hby at_73) rfl (teq rfl).2 k) ?_
      refine own_to (T16.setTop (mkF m 77 #[.val (.int q), .val (.int ((q &&& (2147483647 : Int32)) % (5 : Int32))), .val (.ref x1), .val (.int (1 : Int32))] [(.int (1 : Int32))])) (fun t k => XT.iconstV X16.here hx rfl (1 : Int32) (hb hby at_76) (by decide) k) ?_
      refine own_to (T16.setTop (mkF m 81 #[.val (.int q), .val (.int ((q &&& (2147483647 : Int32)) % (5 : Int32))), .val (.ref x1), .val (.int (1 : Int32))] [(.int (1 : Int32))])) (fun t k => XS.goto X16.here hx rfl (pc0 := 77) (pc' := 81) rfl (hb hby at_77) (by decide) (by decide) k) ?_
      exact own_retZ X16 hx hret hk (i' := (1 : Int32)) (hb hby at_81) (by decide) (by decide) (by decide) ⟨rfl, N16⟩
    · -- c14 no
      refine own_to (s₁.setTop (mkF m 34 #[.val (.int q), .val (.int ((q &&& (2147483647 : Int32)) % (5 : Int32))), .unset, .unset] [])) (fun t k => XS.icmpYes X0.here hx rfl (pc0 := 22) (pc' := 34) rfl (hb hby at_22) rfl (feq c14).2 (by decide) (by decide) k) ?_
      refine own_to (s₁.setTop (mkF m 35 #[.val (.int q), .val (.int ((q &&& (2147483647 : Int32)) % (5 : Int32))), .unset, .unset] [(.int ((q &&& (2147483647 : Int32)) % (5 : Int32)))])) (fun t k => XS.iloadN X0.here hx rfl (hb hby at_34) rfl k) ?_
      refine own_to (s₁.setTop (mkF m 36 #[.val (.int q), .val (.int ((q &&& (2147483647 : Int32)) % (5 : Int32))), .unset, .unset] [(.int (2 : Int32)), (.int ((q &&& (2147483647 : Int32)) % (5 : Int32)))])) (fun t k => XT.iconstV X0.here hx rfl (2 : Int32) (hb hby at_35) (by decide) k) ?_
      by_cases c17 : ((q &&& (2147483647 : Int32)) % (5 : Int32)) = (2 : Int32)
      · -- c17 yes
        refine own_to (s₁.setTop (mkF m 39 #[.val (.int q), .val (.int ((q &&& (2147483647 : Int32)) % (5 : Int32))), .unset, .unset] [])) (fun t k => XS.icmpNo X0.here hx rfl (hb hby at_36) rfl (teq c17).2 k) ?_
        obtain ⟨T18, X18, e18, st18⟩ := getS (host := "") X0 hx hZ hown (hw _ (List.mem_of_getElem? (i := 19) rfl)) Via.refl e0 S2 (g := (mkF m 39 #[.val (.int q), .val (.int ((q &&& (2147483647 : Int32)) % (5 : Int32))), .unset, .unset] [])) rfl (hb hby at_39)
        refine own_to (T18.setTop (mkF m 42 #[.val (.int q), .val (.int ((q &&& (2147483647 : Int32)) % (5 : Int32))), .unset, .unset] [(.ref x2)])) (fun t k => st18 t k) ?_
        refine own_to (T18.setTop (mkF m 43 #[.val (.int q), .val (.int ((q &&& (2147483647 : Int32)) % (5 : Int32))), .val (.ref x2), .unset] [])) (fun t k => XS.astoreN X18.here hx rfl (hb hby at_42) rfl rfl (l' := #[.val (.int q), .val (.int ((q &&& (2147483647 : Int32)) % (5 : Int32))), .val (.ref x2), .unset]) rfl k) ?_
        refine own_to (T18.setTop (mkF m 44 #[.val (.int q), .val (.int ((q &&& (2147483647 : Int32)) % (5 : Int32))), .val (.ref x2), .unset] [(.int (0 : Int32))])) (fun t k => XT.iconstV X18.here hx rfl (0 : Int32) (hb hby at_43) (by decide) k) ?_
        refine own_to (T18.setTop (mkF m 45 #[.val (.int q), .val (.int ((q &&& (2147483647 : Int32)) % (5 : Int32))), .val (.ref x2), .val (.int (0 : Int32))] [])) (fun t k => XS.istoreN X18.here hx rfl (hb hby at_44) rfl (l' := #[.val (.int q), .val (.int ((q &&& (2147483647 : Int32)) % (5 : Int32))), .val (.ref x2), .val (.int (0 : Int32))]) rfl k) ?_
        refine own_to (T18.setTop (mkF m 68 #[.val (.int q), .val (.int ((q &&& (2147483647 : Int32)) % (5 : Int32))), .val (.ref x2), .val (.int (0 : Int32))] [])) (fun t k => XS.goto X18.here hx rfl (pc0 := 45) (pc' := 68) rfl (hb hby at_45) (by decide) (by decide) k) ?_
        refine own_to (T18.setTop (mkF m 69 #[.val (.int q), .val (.int ((q &&& (2147483647 : Int32)) % (5 : Int32))), .val (.ref x2), .val (.int (0 : Int32))] [(.ref x2)])) (fun t k => XS.aloadN X18.here hx rfl (hb hby at_68) rfl rfl k) ?_
        obtain ⟨v19, T19, L19, X19, hQ19, st19⟩ := own_callV X18 hx hZ hown (hw _ (List.mem_of_getElem? (i := 4) rfl)) (hw _ (List.mem_of_getElem? (i := 5) rfl)) (hw _ (List.mem_of_getElem? (i := 7) rfl)) (notFace_of_selects (args := #[]) (mvT hZ (hw _ (List.mem_of_getElem? (i := 7) rfl)))) (hw _ (List.mem_of_getElem? (i := 6) rfl)) (hw _ (List.mem_of_getElem? (i := 8) rfl)) (hw _ (List.mem_of_getElem? (i := 2) rfl)) (by decide) e18 E2 (argsL := []) (rest := []) (rm1 l Z a0 hw x2 0 0 h0 n0 Z0 F2a F2b) (by decide) (W := 0) (by decide) (by decide) (by decide) pd_1 rfl (pc := 69) (Ls := #[.val (.int q), .val (.int ((q &&& (2147483647 : Int32)) % (5 : Int32))), .val (.ref x2), .val (.int (0 : Int32))]) (by rw [hml]; rfl) (Nat.le_of_eq rfl) (hb hby at_69)
        obtain ⟨rfl, M19, e19⟩ := hQ19
        have N19 := Fr.app N0 M19
        refine own_to (T19.setTop (mkF m 72 #[.val (.int q), .val (.int ((q &&& (2147483647 : Int32)) % (5 : Int32))), .val (.ref x2), .val (.int (0 : Int32))] [(.int (0 : Int32))])) (fun t k => st19 t k) ?_
        refine own_to (T19.setTop (mkF m 73 #[.val (.int q), .val (.int ((q &&& (2147483647 : Int32)) % (5 : Int32))), .val (.ref x2), .val (.int (0 : Int32))] [(.int (0 : Int32)), (.int (0 : Int32))])) (fun t k => XS.iloadN X19.here hx rfl (hb hby at_72) rfl k) ?_
        refine own_to (T19.setTop (mkF m 76 #[.val (.int q), .val (.int ((q &&& (2147483647 : Int32)) % (5 : Int32))), .val (.ref x2), .val (.int (0 : Int32))] [])) (fun t k => XS.icmpNo X19.here hx rfl (hb hby at_73) rfl (teq rfl).2 k) ?_
        refine own_to (T19.setTop (mkF m 77 #[.val (.int q), .val (.int ((q &&& (2147483647 : Int32)) % (5 : Int32))), .val (.ref x2), .val (.int (0 : Int32))] [(.int (1 : Int32))])) (fun t k => XT.iconstV X19.here hx rfl (1 : Int32) (hb hby at_76) (by decide) k) ?_
        refine own_to (T19.setTop (mkF m 81 #[.val (.int q), .val (.int ((q &&& (2147483647 : Int32)) % (5 : Int32))), .val (.ref x2), .val (.int (0 : Int32))] [(.int (1 : Int32))])) (fun t k => XS.goto X19.here hx rfl (pc0 := 77) (pc' := 81) rfl (hb hby at_77) (by decide) (by decide) k) ?_
        exact own_retZ X19 hx hret hk (i' := (1 : Int32)) (hb hby at_81) (by decide) (by decide) (by decide) ⟨rfl, N19⟩
      · -- c17 no
        refine own_to (s₁.setTop (mkF m 48 #[.val (.int q), .val (.int ((q &&& (2147483647 : Int32)) % (5 : Int32))), .unset, .unset] [])) (fun t k => XS.icmpYes X0.here hx rfl (pc0 := 36) (pc' := 48) rfl (hb hby at_36) rfl (feq c17).2 (by decide) (by decide) k) ?_
        refine own_to (s₁.setTop (mkF m 49 #[.val (.int q), .val (.int ((q &&& (2147483647 : Int32)) % (5 : Int32))), .unset, .unset] [(.int ((q &&& (2147483647 : Int32)) % (5 : Int32)))])) (fun t k => XS.iloadN X0.here hx rfl (hb hby at_48) rfl k) ?_
        refine own_to (s₁.setTop (mkF m 50 #[.val (.int q), .val (.int ((q &&& (2147483647 : Int32)) % (5 : Int32))), .unset, .unset] [(.int (3 : Int32)), (.int ((q &&& (2147483647 : Int32)) % (5 : Int32)))])) (fun t k => XT.iconstV X0.here hx rfl (3 : Int32) (hb hby at_49) (by decide) k) ?_
        by_cases c20 : ((q &&& (2147483647 : Int32)) % (5 : Int32)) = (3 : Int32)
        · -- c20 yes
          refine own_to (s₁.setTop (mkF m 53 #[.val (.int q), .val (.int ((q &&& (2147483647 : Int32)) % (5 : Int32))), .unset, .unset] [])) (fun t k => XS.icmpNo X0.here hx rfl (hb hby at_50) rfl (teq c20).2 k) ?_
          obtain ⟨T21, X21, e21, st21⟩ := getS (host := "") X0 hx hZ hown (hw _ (List.mem_of_getElem? (i := 13) rfl)) Via.refl e0 S3 (g := (mkF m 53 #[.val (.int q), .val (.int ((q &&& (2147483647 : Int32)) % (5 : Int32))), .unset, .unset] [])) rfl (hb hby at_53)
          refine own_to (T21.setTop (mkF m 56 #[.val (.int q), .val (.int ((q &&& (2147483647 : Int32)) % (5 : Int32))), .unset, .unset] [(.ref x3)])) (fun t k => st21 t k) ?_
          refine own_to (T21.setTop (mkF m 57 #[.val (.int q), .val (.int ((q &&& (2147483647 : Int32)) % (5 : Int32))), .val (.ref x3), .unset] [])) (fun t k => XS.astoreN X21.here hx rfl (hb hby at_56) rfl rfl (l' := #[.val (.int q), .val (.int ((q &&& (2147483647 : Int32)) % (5 : Int32))), .val (.ref x3), .unset]) rfl k) ?_
          refine own_to (T21.setTop (mkF m 58 #[.val (.int q), .val (.int ((q &&& (2147483647 : Int32)) % (5 : Int32))), .val (.ref x3), .unset] [(.int (0 : Int32))])) (fun t k => XT.iconstV X21.here hx rfl (0 : Int32) (hb hby at_57) (by decide) k) ?_
          refine own_to (T21.setTop (mkF m 59 #[.val (.int q), .val (.int ((q &&& (2147483647 : Int32)) % (5 : Int32))), .val (.ref x3), .val (.int (0 : Int32))] [])) (fun t k => XS.istoreN X21.here hx rfl (hb hby at_58) rfl (l' := #[.val (.int q), .val (.int ((q &&& (2147483647 : Int32)) % (5 : Int32))), .val (.ref x3), .val (.int (0 : Int32))]) rfl k) ?_
          refine own_to (T21.setTop (mkF m 68 #[.val (.int q), .val (.int ((q &&& (2147483647 : Int32)) % (5 : Int32))), .val (.ref x3), .val (.int (0 : Int32))] [])) (fun t k => XS.goto X21.here hx rfl (pc0 := 59) (pc' := 68) rfl (hb hby at_59) (by decide) (by decide) k) ?_
          refine own_to (T21.setTop (mkF m 69 #[.val (.int q), .val (.int ((q &&& (2147483647 : Int32)) % (5 : Int32))), .val (.ref x3), .val (.int (0 : Int32))] [(.ref x3)])) (fun t k => XS.aloadN X21.here hx rfl (hb hby at_68) rfl rfl k) ?_
          obtain ⟨v22, T22, L22, X22, hQ22, st22⟩ := own_callV X21 hx hZ hown (hw _ (List.mem_of_getElem? (i := 4) rfl)) (hw _ (List.mem_of_getElem? (i := 5) rfl)) (hw _ (List.mem_of_getElem? (i := 7) rfl)) (notFace_of_selects (args := #[]) (mvT hZ (hw _ (List.mem_of_getElem? (i := 7) rfl)))) (hw _ (List.mem_of_getElem? (i := 6) rfl)) (hw _ (List.mem_of_getElem? (i := 8) rfl)) (hw _ (List.mem_of_getElem? (i := 2) rfl)) (by decide) e21 E3 (argsL := []) (rest := []) (rm1 l Z a0 hw x3 1 1 h0 n0 Z0 F3a F3b) (by decide) (W := 0) (by decide) (by decide) (by decide) pd_1 rfl (pc := 69) (Ls := #[.val (.int q), .val (.int ((q &&& (2147483647 : Int32)) % (5 : Int32))), .val (.ref x3), .val (.int (0 : Int32))]) (by rw [hml]; rfl) (Nat.le_of_eq rfl) (hb hby at_69)
          obtain ⟨rfl, M22, e22⟩ := hQ22
          have N22 := Fr.app N0 M22
          refine own_to (T22.setTop (mkF m 72 #[.val (.int q), .val (.int ((q &&& (2147483647 : Int32)) % (5 : Int32))), .val (.ref x3), .val (.int (0 : Int32))] [(.int (0 : Int32))])) (fun t k => st22 t k) ?_
          refine own_to (T22.setTop (mkF m 73 #[.val (.int q), .val (.int ((q &&& (2147483647 : Int32)) % (5 : Int32))), .val (.ref x3), .val (.int (0 : Int32))] [(.int (0 : Int32)), (.int (0 : Int32))])) (fun t k => XS.iloadN X22.here hx rfl (hb hby at_72) rfl k) ?_
          refine own_to (T22.setTop (mkF m 76 #[.val (.int q), .val (.int ((q &&& (2147483647 : Int32)) % (5 : Int32))), .val (.ref x3), .val (.int (0 : Int32))] [])) (fun t k => XS.icmpNo X22.here hx rfl (hb hby at_73) rfl (teq rfl).2 k) ?_
          refine own_to (T22.setTop (mkF m 77 #[.val (.int q), .val (.int ((q &&& (2147483647 : Int32)) % (5 : Int32))), .val (.ref x3), .val (.int (0 : Int32))] [(.int (1 : Int32))])) (fun t k => XT.iconstV X22.here hx rfl (1 : Int32) (hb hby at_76) (by decide) k) ?_
          refine own_to (T22.setTop (mkF m 81 #[.val (.int q), .val (.int ((q &&& (2147483647 : Int32)) % (5 : Int32))), .val (.ref x3), .val (.int (0 : Int32))] [(.int (1 : Int32))])) (fun t k => XS.goto X22.here hx rfl (pc0 := 77) (pc' := 81) rfl (hb hby at_77) (by decide) (by decide) k) ?_
          exact own_retZ X22 hx hret hk (i' := (1 : Int32)) (hb hby at_81) (by decide) (by decide) (by decide) ⟨rfl, N22⟩
        · -- c20 no
          refine own_to (s₁.setTop (mkF m 62 #[.val (.int q), .val (.int ((q &&& (2147483647 : Int32)) % (5 : Int32))), .unset, .unset] [])) (fun t k => XS.icmpYes X0.here hx rfl (pc0 := 50) (pc' := 62) rfl (hb hby at_50) rfl (feq c20).2 (by decide) (by decide) k) ?_
          obtain ⟨T23, X23, e23, st23⟩ := getS (host := "") X0 hx hZ hown (hw _ (List.mem_of_getElem? (i := 17) rfl)) Via.refl e0 S4 (g := (mkF m 62 #[.val (.int q), .val (.int ((q &&& (2147483647 : Int32)) % (5 : Int32))), .unset, .unset] [])) rfl (hb hby at_62)
          refine own_to (T23.setTop (mkF m 65 #[.val (.int q), .val (.int ((q &&& (2147483647 : Int32)) % (5 : Int32))), .unset, .unset] [(.ref x4)])) (fun t k => st23 t k) ?_
          refine own_to (T23.setTop (mkF m 66 #[.val (.int q), .val (.int ((q &&& (2147483647 : Int32)) % (5 : Int32))), .val (.ref x4), .unset] [])) (fun t k => XS.astoreN X23.here hx rfl (hb hby at_65) rfl rfl (l' := #[.val (.int q), .val (.int ((q &&& (2147483647 : Int32)) % (5 : Int32))), .val (.ref x4), .unset]) rfl k) ?_
          refine own_to (T23.setTop (mkF m 67 #[.val (.int q), .val (.int ((q &&& (2147483647 : Int32)) % (5 : Int32))), .val (.ref x4), .unset] [(.int (0 : Int32))])) (fun t k => XT.iconstV X23.here hx rfl (0 : Int32) (hb hby at_66) (by decide) k) ?_
          refine own_to (T23.setTop (mkF m 68 #[.val (.int q), .val (.int ((q &&& (2147483647 : Int32)) % (5 : Int32))), .val (.ref x4), .val (.int (0 : Int32))] [])) (fun t k => XS.istoreN X23.here hx rfl (hb hby at_67) rfl (l' := #[.val (.int q), .val (.int ((q &&& (2147483647 : Int32)) % (5 : Int32))), .val (.ref x4), .val (.int (0 : Int32))]) rfl k) ?_
          refine own_to (T23.setTop (mkF m 69 #[.val (.int q), .val (.int ((q &&& (2147483647 : Int32)) % (5 : Int32))), .val (.ref x4), .val (.int (0 : Int32))] [(.ref x4)])) (fun t k => XS.aloadN X23.here hx rfl (hb hby at_68) rfl rfl k) ?_
          obtain ⟨v24, T24, L24, X24, hQ24, st24⟩ := own_callV X23 hx hZ hown (hw _ (List.mem_of_getElem? (i := 4) rfl)) (hw _ (List.mem_of_getElem? (i := 5) rfl)) (hw _ (List.mem_of_getElem? (i := 7) rfl)) (notFace_of_selects (args := #[]) (mvT hZ (hw _ (List.mem_of_getElem? (i := 7) rfl)))) (hw _ (List.mem_of_getElem? (i := 6) rfl)) (hw _ (List.mem_of_getElem? (i := 8) rfl)) (hw _ (List.mem_of_getElem? (i := 2) rfl)) (by decide) e23 E4 (argsL := []) (rest := []) (rm1 l Z a0 hw x4 0 1 h0 n0 Z0 F4a F4b) (by decide) (W := 0) (by decide) (by decide) (by decide) pd_1 rfl (pc := 69) (Ls := #[.val (.int q), .val (.int ((q &&& (2147483647 : Int32)) % (5 : Int32))), .val (.ref x4), .val (.int (0 : Int32))]) (by rw [hml]; rfl) (Nat.le_of_eq rfl) (hb hby at_69)
          obtain ⟨rfl, M24, e24⟩ := hQ24
          have N24 := Fr.app N0 M24
          refine own_to (T24.setTop (mkF m 72 #[.val (.int q), .val (.int ((q &&& (2147483647 : Int32)) % (5 : Int32))), .val (.ref x4), .val (.int (0 : Int32))] [(.int (0 : Int32))])) (fun t k => st24 t k) ?_
          refine own_to (T24.setTop (mkF m 73 #[.val (.int q), .val (.int ((q &&& (2147483647 : Int32)) % (5 : Int32))), .val (.ref x4), .val (.int (0 : Int32))] [(.int (0 : Int32)), (.int (0 : Int32))])) (fun t k => XS.iloadN X24.here hx rfl (hb hby at_72) rfl k) ?_
          refine own_to (T24.setTop (mkF m 76 #[.val (.int q), .val (.int ((q &&& (2147483647 : Int32)) % (5 : Int32))), .val (.ref x4), .val (.int (0 : Int32))] [])) (fun t k => XS.icmpNo X24.here hx rfl (hb hby at_73) rfl (teq rfl).2 k) ?_
          refine own_to (T24.setTop (mkF m 77 #[.val (.int q), .val (.int ((q &&& (2147483647 : Int32)) % (5 : Int32))), .val (.ref x4), .val (.int (0 : Int32))] [(.int (1 : Int32))])) (fun t k => XT.iconstV X24.here hx rfl (1 : Int32) (hb hby at_76) (by decide) k) ?_
          refine own_to (T24.setTop (mkF m 81 #[.val (.int q), .val (.int ((q &&& (2147483647 : Int32)) % (5 : Int32))), .val (.ref x4), .val (.int (0 : Int32))] [(.int (1 : Int32))])) (fun t k => XS.goto X24.here hx rfl (pc0 := 77) (pc' := 81) rfl (hb hby at_77) (by decide) (by decide) k) ?_
          exact own_retZ X24 hx hret hk (i' := (1 : Int32)) (hb hby at_81) (by decide) (by decide) (by decide) ⟨rfl, N24⟩
theorem own_fldI {args : Array Value} {Z : State} {t : Term} {C n d : String} {k : Int32} {a : Addr} (h : (Jvm.Cond.eq (Term.field t C n d) (Term.int k)).value args Z none Z [] = some true) (ht : t.eval args Z none [] Z = some (.ref a)) : Fld Z Z.heap a C n d (.int k) :=
  Fld.start ((fld_at ht).symm.trans (eqv_i (Term.int_eval k) h))
set_option maxRecDepth 65536 in
set_option maxHeartbeats 40000000 in
theorem comes_1 {Post : Tables → Env → Array Value → State → Outcome → State → Prop} (hpost : ∀ tb e args s v u, (limb_1_1.after args s (.returned v) u = true ∧ limb_1_2.after args s (.returned v) u = true ∧ True) → FrameEnd s (.returned v) u (Jvm.fieldLocs frame_1_writes args s ++ Jvm.arrayLocs frame_1_arrays args s ++ Jvm.staticLocs frame_1_statics s) 0 0 → Post tb e args s (.returned v) u) :
    ArmFor flags0 classFile x code maxLocals ret World_1 tables_1 room_1 Calls_1 rest_1 Pre_1 Post := by
  intro l hfl _ _ p e ha hc hk s m args below hf hA hF happ hP
  obtain ⟨hcalls, hrest, hpre⟩ := hP
  obtain ⟨-, -, -, hnamed, -, -, -, hat⟩ := (Spec.applies_iff hf).mp happ
  obtain ⟨hg, hn⟩ := and_e (Cond.before_iff.mp (show (Jvm.Cond.and given_1 narrow_1).before args s = true from hpre))
  obtain ⟨g0, k0⟩ := and_e hg
  obtain ⟨w0, rfl⟩ : ∃ w0 : Value, args = #[w0] := by
    have hs : args.size = 1 := by simpa [Cond.value, given_1] using g0
    obtain ⟨L⟩ := args
    match L, hs with
    | [w0], _ => exact ⟨w0, rfl⟩
  have hw := fun d (hd : d ∈ tables_1) => atoms_spec (ws := Jvm.Cond.code x code maxLocals ret :: tables_1) hat d (List.mem_cons_of_mem _ hd)
  have hfit : Fit s := fun {y c} hc i hi => by
    obtain ⟨ha, rfl⟩ := Array.getElem?_eq_some_iff.mp hc
    have q := List.all_eq_true.mp ((Array.all_eq_true_iff_forall_mem.mp hF) _ (Array.getElem_mem ha)) i (List.mem_range.mpr hi)
    simpa [Array.getElem?_eq_getElem hi] using q
  obtain ⟨i0, ei0⟩ := is_v k0
  obtain rfl : w0 = (.int i0) := Option.some.inj ei0
  obtain ⟨q0, q0r⟩ := and_e hn
  obtain ⟨x0, ev0⟩ := exa_v q0
  have E0 := Exa.start ev0 q0
  have S0 := Sta.start ev0 (Or.inr ⟨(hw _ (List.mem_of_getElem? (i := 2) rfl)), (hw _ (List.mem_of_getElem? (i := 3) rfl))⟩)
  obtain ⟨q1, q1r⟩ := and_e q0r
  have F0a := own_fldI q1 ev0
  obtain ⟨q2, q2r⟩ := and_e q1r
  have F0b := own_fldI q2 ev0
  obtain ⟨q3, q3r⟩ := and_e q2r
  obtain ⟨x3, ev3⟩ := exa_v q3
  have E3 := Exa.start ev3 q3
  have S3 := Sta.start ev3 (Or.inr ⟨(hw _ (List.mem_of_getElem? (i := 2) rfl)), (hw _ (List.mem_of_getElem? (i := 14) rfl))⟩)
  obtain ⟨q4, q4r⟩ := and_e q3r
  have F3a := own_fldI q4 ev3
  obtain ⟨q5, q5r⟩ := and_e q4r
  have F3b := own_fldI q5 ev3
  obtain ⟨q6, q6r⟩ := and_e q5r
  obtain ⟨x1, ev1⟩ := exa_v q6
  have E1 := Exa.start ev1 q6
  have S1 := Sta.start ev1 (Or.inr ⟨(hw _ (List.mem_of_getElem? (i := 2) rfl)), (hw _ (List.mem_of_getElem? (i := 16) rfl))⟩)
  obtain ⟨q7, q7r⟩ := and_e q6r
  have F1a := own_fldI q7 ev1
  obtain ⟨q8, q8r⟩ := and_e q7r
  have F1b := own_fldI q8 ev1
  obtain ⟨q9, q9r⟩ := and_e q8r
  obtain ⟨x4, ev4⟩ := exa_v q9
  have E4 := Exa.start ev4 q9
  have S4 := Sta.start ev4 (Or.inr ⟨(hw _ (List.mem_of_getElem? (i := 2) rfl)), (hw _ (List.mem_of_getElem? (i := 18) rfl))⟩)
  obtain ⟨q10, q10r⟩ := and_e q9r
  have F4a := own_fldI q10 ev4
  obtain ⟨q11, q11r⟩ := and_e q10r
  obtain ⟨x2, ev2⟩ := exa_v q11
  have E2 := Exa.start ev2 q11
  have S2 := Sta.start ev2 (Or.inr ⟨(hw _ (List.mem_of_getElem? (i := 2) rfl)), (hw _ (List.mem_of_getElem? (i := 20) rfl))⟩)
  obtain ⟨q12, q12r⟩ := and_e q11r
  have F2a := own_fldI q12 ev2
  obtain ⟨q13, q13r⟩ := and_e q12r
  have F4b := own_fldI q13 ev4
  have q14 := q13r
  have F2b := own_fldI q14 ev2
  obtain ⟨n, o, h1, h2, h3, _, L, rfl, ⟨rfl, N⟩, hq⟩ := rm0 l s _ hw i0 x0 x1 x2 x3 x4 s.heap s.heap.size (Nat.le_refl _) S0 E0 F0a F0b S1 E1 F1a F1b S2 E2 F2a F2b S3 E3 F3a F3b S4 E4 F4a F4b tables_1 p e ha hc hk s m _ below hf ((Spec.applies_iff_loose hf).mp happ).1 ⟨rfl, State.Warmed39.refl s, rfl⟩ trivial
  refine ⟨n, _, h1, h2, h3, hpost _ _ _ _ _ _ ⟨Cond.after_iff.mpr rfl, Cond.after_iff.mpr (eq_i res_at (Term.int_eval (1)) rfl), trivial⟩ ⟨hq.1, hq.2.1, (hq.2.2.sift fun y hy => Or.inr (N y hy)).mono (by decide) (by decide)⟩⟩
theorem main_1_1 : Claimed_1_1 := comes_1 fun _ _ _ _ _ _ h hF => ⟨h.1, hF⟩
theorem main_1_2 : Claimed_1_2 := comes_1 fun _ _ _ _ _ _ h hF => ⟨h.2.1, hF⟩
end Jvm.Pilot.@@N@@
namespace Jvm.Pilot.@@N@@
open Jvm Jvm.ClassFile Sem Op Lib Jvm.Free Jvm.Stand Jvm.Pilot.@@N@@.Jvm.D
/-! MADE BY PROGRAM (witnessworld.py) out of the Statement's table words and the real class files: 13 classes; the members and pool entries that the words name. The judged class is class 1, her method 1. -/
namespace start1
open Jvm.ClassFile
def u (s : String) : CpInfo := .utf8 (stringToUtf16 s)
/-- a pool by its gaps: so many unusable entries, then the entry; so many at the end -/
def gap : Nat → List CpInfo → List CpInfo
  | 0, r => r
  | n + 1, r => .unusable :: gap n r
def poolList (es : List (Nat × CpInfo)) (last : Nat) : List CpInfo := es.foldr (fun e r => gap e.1 (e.2 :: r)) (gap last [])
def pool (es : List (Nat × CpInfo)) (last : Nat) : Array CpInfo := ⟨poolList es last⟩
def fileOf (pool : Array CpInfo) (this : Nat) (attrs : Array Attribute := #[]) (ms : Array MethodInfo := #[]) (fl : Nat := 33) (sup : Nat := 0) (ifs : Array Nat := #[]) (fds : Array FieldInfo := #[]) : ClassFile where
  minorVersion := 0
  majorVersion := 65
  constantPool := pool
  accessFlags := fl
  thisClass := this
  superClass := sup
  interfaces := ifs
  fields := fds
  methods := ms
  attributes := attrs
def plain (name : String) (sup : Option ClassId) : Class where
  name := name
  kind := .ordinary
  loader := none
  accessFlags := 33
  super := sup
  interfaces := #[]
  cf := none
  fields := #[]
  methods := #[]
  instanceTypes := #[]
  staticTypes := #[]
  resolved := #[]
  callSites := []
  init := .initialized
  statics := none
  mirror := none

def pool0 : Array CpInfo := pool [(5, u "<init>"), (0, u "()V"), (1, .class_ 10), (1, u "java/lang/Object")] 113

def k0m0 : Method := { name := "<init>", desc := "()V", sig := { parameters := [], returnType := none }, accessFlags := 1, code := none }
/-- java/lang/Object -/
def k0 : Class := { plain "java/lang/Object" none with
  accessFlags := 33
  interfaces := #[]
  cf := some (fileOf pool0 8 #[] #[{ accessFlags := 1, nameIndex := 5, descriptorIndex := 6, attributes := #[] }] 33 0 #[] #[])
  fields := #[]
  methods := #[k0m0]
  instanceTypes := #[]
  staticTypes := #[]
  resolved := Array.replicate 124 none
  statics := none }

def pool1 : Array CpInfo := pool [(2, .class_ 4), (1, u "java/lang/Object"), (0, u "<init>"), (0, u "()V"), (0, .integer 2147483647), (0, .fieldref 9 10), (0, .class_ 11), (0, .nameAndType 12 13), (0, u "com/example/millrace/millrace/model/MovementKind"), (0, u "OPENING"), (0, u "Lcom/example/millrace/millrace/model/MovementKind;"), (0, .fieldref 9 15), (0, .nameAndType 16 13), (0, u "RECEIPT"), (0, .fieldref 9 18), (0, .nameAndType 19 13), (0, u "ISSUE"), (0, .fieldref 9 21), (0, .nameAndType 22 13), (0, u "COUNT_GAIN"), (0, .fieldref 9 24), (0, .nameAndType 25 13), (0, u "COUNT_LOSS"), (0, .methodref 9 27), (0, .nameAndType 28 29), (0, u "needsUnitCost"), (0, u "()Z"), (0, .class_ 31), (0, u "com/example/millrace/millrace/model/MovementKindNeedsUnitCostPinLaw"), (2, u "law"), (0, u "(I)Z")] 3

def k1m0 : Method := { name := "<init>", desc := "()V", sig := { parameters := [], returnType := none }, accessFlags := 1, code := none }
def k1c1 : Code := { maxStack := 2, maxLocals := 4, code := code, exceptionTable := #[], attributes := #[] }
def k1m1 : Method := { name := "law", desc := "(I)Z", sig := { parameters := [.int], returnType := some .boolean }, accessFlags := 9, code := some k1c1 }
/-- com/example/millrace/millrace/model/MovementKindNeedsUnitCostPinLaw -/
def k1 : Class := { plain "com/example/millrace/millrace/model/MovementKindNeedsUnitCostPinLaw" (some 0) with
  accessFlags := 49
  interfaces := #[]
  cf := some (fileOf pool1 30 #[] #[{ accessFlags := 1, nameIndex := 5, descriptorIndex := 6, attributes := #[] }, { accessFlags := 9, nameIndex := 34, descriptorIndex := 35, attributes := #[] }] 49 2 #[] #[])
  fields := #[]
  methods := #[k1m0, k1m1]
  instanceTypes := #[]
  staticTypes := #[]
  resolved := Array.replicate 39 none
  statics := none }

def pool2 : Array CpInfo := pool [(1, .class_ 2), (0, u "java/lang/constant/Constable"), (0, .class_ 4), (0, u "java/lang/Object")] 6

/-- java/lang/constant/Constable -/
def k2 : Class := { plain "java/lang/constant/Constable" (some 0) with
  accessFlags := 1537
  interfaces := #[]
  cf := some (fileOf pool2 1 #[] #[] 1537 3 #[] #[])
  fields := #[]
  methods := #[]
  instanceTypes := #[]
  staticTypes := #[]
  resolved := Array.replicate 11 none
  statics := none }

def pool3 : Array CpInfo := pool [(1, .class_ 2), (0, u "java/lang/Comparable"), (0, .class_ 4), (0, u "java/lang/Object")] 7

/-- java/lang/Comparable -/
def k3 : Class := { plain "java/lang/Comparable" (some 0) with
  accessFlags := 1537
  interfaces := #[]
  cf := some (fileOf pool3 1 #[] #[] 1537 3 #[] #[])
  fields := #[]
  methods := #[]
  instanceTypes := #[]
  staticTypes := #[]
  resolved := Array.replicate 12 none
  statics := none }

def pool4 : Array CpInfo := pool [(1, .class_ 2), (0, u "java/io/Serializable"), (0, .class_ 4), (0, u "java/lang/Object")] 2

/-- java/io/Serializable -/
def k4 : Class := { plain "java/io/Serializable" (some 0) with
  accessFlags := 1537
  interfaces := #[]
  cf := some (fileOf pool4 1 #[] #[] 1537 3 #[] #[])
  fields := #[]
  methods := #[]
  instanceTypes := #[]
  staticTypes := #[]
  resolved := Array.replicate 7 none
  statics := none }

def pool5 : Array CpInfo := pool [(2, .class_ 4), (1, u "java/lang/Enum"), (0, u "name"), (0, u "Ljava/lang/String;"), (2, u "ordinal"), (0, u "I"), (1, .class_ 14), (1, u "java/lang/Object"), (4, u "hash"), (86, .class_ 108), (1, u "java/lang/Enum$EnumDesc"), (2, .class_ 112), (0, u "java/lang/constant/Constable"), (0, .class_ 114), (0, u "java/lang/Comparable"), (0, .class_ 116), (0, u "java/io/Serializable")] 87

/-- java/lang/Enum -/
def k5 : Class := { plain "java/lang/Enum" (some 0) with
  accessFlags := 1057
  interfaces := #[2, 3, 4]
  cf := some (fileOf pool5 2 #[.nestMembers #[106]] #[] 1057 12 #[111, 113, 115] #[{ accessFlags := 18, nameIndex := 5, descriptorIndex := 6, attributes := #[] }, { accessFlags := 18, nameIndex := 9, descriptorIndex := 10, attributes := #[] }, { accessFlags := 2, nameIndex := 19, descriptorIndex := 10, attributes := #[] }])
  fields := #[{ name := "name", type := (.object "java/lang/String"), accessFlags := 18, slot := 0, constantValue := 0 }, { name := "ordinal", type := .int, accessFlags := 18, slot := 1, constantValue := 0 }, { name := "hash", type := .int, accessFlags := 2, slot := 2, constantValue := 0 }]
  methods := #[]
  instanceTypes := #[(.object "java/lang/String"), .int, .int]
  staticTypes := #[]
  resolved := Array.replicate 204 none
  statics := none }

def pool6 : Array CpInfo := pool [(9, .class_ 10), (0, u "com/example/millrace/millrace/model/Keyworded"), (25, .class_ 37), (0, u "java/lang/Object")] 22

/-- com/example/millrace/millrace/model/Keyworded -/
def k6 : Class := { plain "com/example/millrace/millrace/model/Keyworded" (some 0) with
  accessFlags := 1537
  interfaces := #[]
  cf := some (fileOf pool6 9 #[] #[] 1537 36 #[] #[])
  fields := #[]
  methods := #[]
  instanceTypes := #[]
  staticTypes := #[]
  resolved := Array.replicate 60 none
  statics := none }

def pool7 : Array CpInfo := pool [(1, .class_ 2), (0, u "com/example/millrace/millrace/model/MovementKind"), (2, u "OPENING"), (0, u "Lcom/example/millrace/millrace/model/MovementKind;"), (2, u "RECEIPT"), (2, u "ISSUE"), (2, u "COUNT_GAIN"), (2, u "COUNT_LOSS"), (2, u "$VALUES"), (0, u "[Lcom/example/millrace/millrace/model/MovementKind;"), (6, .class_ 31), (1, u "java/lang/Enum"), (8, u "keyword"), (0, u "Ljava/lang/String;"), (0, .fieldref 1 43), (0, .nameAndType 44 45), (0, u "adding"), (0, u "Z"), (0, .fieldref 1 47), (0, .nameAndType 48 45), (0, u "counted"), (22, .class_ 72), (0, u "com/example/millrace/millrace/model/Keyworded"), (10, u "()Z"), (1, u "needsUnitCost")] 6

def k7c0 : Code := { maxStack := 1, maxLocals := 1, code := prog_24_method_7_code, exceptionTable := #[], attributes := #[] }
def k7m0 : Method := { name := "needsUnitCost", desc := "()Z", sig := { parameters := [], returnType := some .boolean }, accessFlags := 1, code := some k7c0 }
/-- com/example/millrace/millrace/model/MovementKind -/
def k7 : Class := { plain "com/example/millrace/millrace/model/MovementKind" (some 5) with
  accessFlags := 16433
  interfaces := #[6]
  cf := some (fileOf pool7 1 #[] #[{ accessFlags := 1, nameIndex := 85, descriptorIndex := 83, attributes := #[] }] 16433 29 #[71] #[{ accessFlags := 16409, nameIndex := 5, descriptorIndex := 6, attributes := #[] }, { accessFlags := 16409, nameIndex := 9, descriptorIndex := 6, attributes := #[] }, { accessFlags := 16409, nameIndex := 12, descriptorIndex := 6, attributes := #[] }, { accessFlags := 16409, nameIndex := 15, descriptorIndex := 6, attributes := #[] }, { accessFlags := 16409, nameIndex := 18, descriptorIndex := 6, attributes := #[] }, { accessFlags := 18, nameIndex := 40, descriptorIndex := 41, attributes := #[] }, { accessFlags := 18, nameIndex := 44, descriptorIndex := 45, attributes := #[] }, { accessFlags := 18, nameIndex := 48, descriptorIndex := 45, attributes := #[] }, { accessFlags := 4122, nameIndex := 21, descriptorIndex := 22, attributes := #[] }])
  fields := #[{ name := "OPENING", type := (.object "com/example/millrace/millrace/model/MovementKind"), accessFlags := 16409, slot := 0, constantValue := 0 }, { name := "RECEIPT", type := (.object "com/example/millrace/millrace/model/MovementKind"), accessFlags := 16409, slot := 1, constantValue := 0 }, { name := "ISSUE", type := (.object "com/example/millrace/millrace/model/MovementKind"), accessFlags := 16409, slot := 2, constantValue := 0 }, { name := "COUNT_GAIN", type := (.object "com/example/millrace/millrace/model/MovementKind"), accessFlags := 16409, slot := 3, constantValue := 0 }, { name := "COUNT_LOSS", type := (.object "com/example/millrace/millrace/model/MovementKind"), accessFlags := 16409, slot := 4, constantValue := 0 }, { name := "keyword", type := (.object "java/lang/String"), accessFlags := 18, slot := 3, constantValue := 0 }, { name := "adding", type := .boolean, accessFlags := 18, slot := 4, constantValue := 0 }, { name := "counted", type := .boolean, accessFlags := 18, slot := 5, constantValue := 0 }, { name := "$VALUES", type := (.array (.object "com/example/millrace/millrace/model/MovementKind")), accessFlags := 4122, slot := 5, constantValue := 0 }]
  methods := #[k7m0]
  instanceTypes := #[(.object "java/lang/String"), .int, .int, (.object "java/lang/String"), .boolean, .boolean]
  staticTypes := #[(.object "com/example/millrace/millrace/model/MovementKind"), (.object "com/example/millrace/millrace/model/MovementKind"), (.object "com/example/millrace/millrace/model/MovementKind"), (.object "com/example/millrace/millrace/model/MovementKind"), (.object "com/example/millrace/millrace/model/MovementKind"), (.array (.object "com/example/millrace/millrace/model/MovementKind"))]
  resolved := Array.replicate 92 none
  statics := some 0 }

def pool8 : Array CpInfo := pool [(1, u "java/lang/Cloneable"), (0, .class_ 1), (0, u "java/lang/Object"), (0, .class_ 3)] 3

/-- java/lang/Cloneable -/
def k8 : Class := { plain "java/lang/Cloneable" (some 0) with
  accessFlags := 1537
  interfaces := #[]
  cf := some (fileOf pool8 2 #[] #[] 1537 4 #[] #[])
  fields := #[]
  methods := #[]
  instanceTypes := #[]
  staticTypes := #[]
  resolved := Array.replicate 8 none
  statics := none }

/-- the primitive byte -/
def k9 : Class := { plain "byte" none with kind := .primitive 'B', accessFlags := 0x411 }
/-- [B -/
def k10 : Class := { plain "[B" (some 0) with kind := .array 9 .byte, interfaces := #[8, 4], accessFlags := 1041 }

/-- the primitive int -/
def k11 : Class := { plain "int" none with kind := .primitive 'I', accessFlags := 0x411 }
/-- [I -/
def k12 : Class := { plain "[I" (some 0) with kind := .array 11 .int, interfaces := #[8, 4], accessFlags := 1041 }

def heap : Heap := #[{ cls := 7, slots := #[.ref 1, .ref 2, .ref 3, .ref 4, .ref 5, .null], vm := .statics 7 },
  { cls := 7, slots := #[.null, .int 0, .int 0, .null, .int 1, .int 0], vm := .none },
  { cls := 7, slots := #[.null, .int 1, .int 0, .null, .int 1, .int 0], vm := .none },
  { cls := 7, slots := #[.null, .int 2, .int 0, .null, .int 0, .int 0], vm := .none },
  { cls := 7, slots := #[.null, .int 3, .int 0, .null, .int 1, .int 1], vm := .none },
  { cls := 7, slots := #[.null, .int 4, .int 0, .null, .int 0, .int 1], vm := .none }]
def classes : Array Class := #[k0, k1, k2, k3, k4, k5, k6, k7, k8, k9, k10, k11, k12]
def interned : List (Array UInt16 × Addr) := []
def slotsUsed : Nat := 36
def theMethod : MethodId := ⟨1, 1⟩
def args0 : Array Value := #[.int 5]
def aboutOver (below : List Frame) : State where
  vm := { classes := classes, interned := interned.toArray }
  heap := heap
  slotsUsed := slotsUsed
  threads := #[{ frames := .invoking theMethod args0 :: below }]
def below0 : List Frame := [.native { method := ⟨0, 0⟩, args := #[] }]
def about1 : State := aboutOver below0
def p0 : Program := .bare "" "" ""
def e0 : Env := launch0.env 0 0 0
theorem w_frames : about1.frames = Frame.invoking theMethod args0 :: below0 := rfl
set_option maxRecDepth 65536 in
theorem w_args : argsFit about1.vm theMethod args0 = true := by decide +kernel
set_option maxRecDepth 65536 in
theorem w_heap : heapFits about1 = true := by decide +kernel
set_option maxRecDepth 65536 in
theorem w_runnable : about1.curStatus? = some .runnable := by decide +kernel
set_option maxRecDepth 65536 in
theorem w_alone : about1.alone = true := by decide +kernel
set_option maxRecDepth 65536 in
theorem w_named : about1.methodNamed? x = some theMethod := by decide +kernel
set_option maxRecDepth 65536 in
theorem w_hears : about1.hears theMethod below0 = true := by decide +kernel
set_option maxRecDepth 65536 in
theorem w_ripe : about1.ripe theMethod args0 below0 = true := by decide +kernel
theorem w_running : about1.status = .running := rfl
set_option maxRecDepth 65536 in
theorem w_room : about1.hasRoom e0.platform room_1 = true :=
  launch0.hasRoom_least _ room_1 (by decide +kernel) (by decide +kernel) (by decide +kernel) (by decide +kernel) (by decide +kernel) (by decide +kernel)
theorem allAtoms_all (ts : List Jvm.Cond) (a : Array Jvm.Value) (st : Jvm.State) : (allAtoms ts).before a st = ts.all (fun c => c.before a st) := by
  induction ts with
  | nil => rfl
  | cons c t ih =>
    show (Jvm.Cond.and c (allAtoms t)).before a st = _
    rw [Jvm.Cond.before_and, ih, List.all_cons]
def words1 : List Jvm.Cond := Jvm.Cond.code x code maxLocals ret :: tables_1
/-- a 'code' word, met by the world's own term for the bytes: nothing is compared byte by byte -/
theorem code_word {y : MethodName} {bytes : ByteArray} {mx : Nat} {rt : Option FieldType} {a : Array Value} {s : State} {m : MethodId} {meth : Method} {c : Code} (h1 : s.methodNamed? y = some m) (h2 : s.vm.method? m = some meth) (h3 : meth.code = some c) (h4 : c.code = bytes)
    (h5 : (c.maxLocals == mx && c.exceptionTable.isEmpty && decide (c.maxStack ≤ mostOperands) && decide (meth.sig.returnType = rt) && !meth.locks && decide (parseMethodDescriptor y.desc = some meth.sig)) = true) : (Jvm.Cond.code y bytes mx rt).before a s = true := by
  simp only [Bool.and_eq_true, beq_iff_eq, Bool.not_eq_true', decide_eq_true_eq] at h5
  obtain ⟨⟨⟨⟨⟨g1, g2⟩, g3⟩, g4⟩, g5⟩, g6⟩ := h5
  simp [Cond.before, Cond.holds, Cond.value, h1, h2, h3, h4, g1, g2, g3, g4, g5, g6]
def isCode : Jvm.Cond → Bool
  | .code _ _ _ _ => true
  | _ => false
theorem all_split {L : List Jvm.Cond} {P : Jvm.Cond → Bool} (h1 : L.all (fun c => isCode c || P c) = true) (h2 : ∀ c ∈ L.filter isCode, P c = true) : L.all P = true := by
  refine List.all_eq_true.mpr fun c hc => ?_
  have h := List.all_eq_true.mp h1 c hc
  rcases Bool.eq_false_or_eq_true (isCode c) with hi | hi
  · exact h2 c (List.mem_filter.mpr ⟨hc, hi⟩)
  · simpa [hi] using h
set_option maxRecDepth 65536 in
theorem w_c0 : (Jvm.Cond.code x code maxLocals ret).before args0 about1 = true := code_word (m := ⟨1, 1⟩) (meth := k1m1) (c := k1c1) (by decide +kernel) rfl rfl rfl (by decide +kernel)
set_option maxRecDepth 65536 in
theorem w_c1 : (Jvm.Cond.code ({ cls := "com/example/millrace/millrace/model/MovementKind", name := "needsUnitCost", desc := "()Z" } : Jvm.MethodName) prog_24_method_7_code (1 : Nat) (Option.some Jvm.ClassFile.FieldType.boolean)).before args0 about1 = true := code_word (m := ⟨7, 0⟩) (meth := k7m0) (c := k7c0) (by decide +kernel) rfl rfl rfl (by decide +kernel)
def codes1 : List Jvm.Cond := [Jvm.Cond.code x code maxLocals ret, Jvm.Cond.code ({ cls := "com/example/millrace/millrace/model/MovementKind", name := "needsUnitCost", desc := "()Z" } : Jvm.MethodName) prog_24_method_7_code (1 : Nat) (Option.some Jvm.ClassFile.FieldType.boolean)]
set_option maxRecDepth 65536 in
theorem codes_eq : words1.filter isCode = codes1 := rfl
theorem w_codes : ∀ c ∈ words1.filter isCode, c.before args0 about1 = true := by
  rw [codes_eq]
  intro c hc
  simp only [codes1, List.mem_cons, List.not_mem_nil, or_false] at hc
  rcases hc with rfl | rfl
  · exact w_c0
  · exact w_c1
set_option maxRecDepth 65536 in
theorem w_t1 : words1.all (fun c => isCode c || c.before args0 about1) = true := by decide +kernel
theorem w_tables : (allAtoms (Jvm.Cond.code x code maxLocals ret :: tables_1)).before args0 about1 = true := by
  rw [allAtoms_all]
  show words1.all (fun c => c.before args0 about1) = true
  refine all_split ?_ w_codes
  rw [w_t1]
set_option maxRecDepth 65536 in
theorem w_case : (Jvm.Cond.and given_1 narrow_1).before args0 about1 = true := by decide +kernel
theorem w_applies : (headSpec (Jvm.Cond.code x code maxLocals ret :: tables_1) room_1).applies x e0.platform about1 = true :=
  (Spec.applies_iff w_frames).mpr ⟨w_running, w_runnable, w_alone, w_named, w_hears, w_ripe, w_room, w_tables⟩
theorem atStart : AtStart classFile x code maxLocals ret World_1 tables_1 room_1 Calls_1 rest_1 Pre_1 launch0 p0 e0 about1 theMethod args0 below0 :=
  ⟨lists_1, trivial, launch0.admits_env _ _ _, launch0.least_env, fairChoices_fair.cas, fairChoices_fair.clock, w_frames, w_args, w_heap, w_applies, trivial, trivial, w_case⟩
end start1
theorem witness_1 : WitnessClaimed_1 := ⟨start1.p0, start1.e0, start1.about1, start1.theMethod, start1.args0, start1.below0, start1.atStart⟩
end Jvm.Pilot.@@N@@
