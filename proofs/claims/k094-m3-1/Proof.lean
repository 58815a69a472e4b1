import JvmDerived
import JvmDerived.Pilot.@@N@@Statement
import JvmDerived.Pilot.@@N@@Code
set_option linter.unusedVariables false
set_option linter.unusedSimpArgs false
namespace Jvm.Pilot.@@N@@
open Jvm Jvm.ClassFile Sem Op Lib Jvm.Free Jvm.Stand Jvm.LawKit Jvm.RoadKit Bundle Jvm.Pilot.@@N@@.Jvm.D
/-! The shared layer of these proofs (own text): a contract of one body (own_Ct), how a walk goes on and ends (own_Fin), one lemma a kind of call and of return. -/
section OwnLayer
variable {p : Program} {l : Launch} {e : Env} {R rm : Room} {s Z : State} {m : MethodId} {args as' a0 : Array Value} {below : List Frame} {meth : Method} {c : Code} {T : State} {locs : List Loc} {cells slots : Nat} {h : Heap}
  {Q : Option Value → Heap → List Loc → Prop} {y z : MethodName} {bytes : ByteArray} {maxL : Nat} {ret : Option FieldType} {own C : String} {index : Nat}
def own_Ct (l : Launch) (Z : State) (y : MethodName) (bytes : ByteArray) (maxL : Nat) (ret : Option FieldType) (rm : Room) (as' : Array Value) (h0 : Heap) (Q : Option Value → Heap → List Loc → Prop) : Prop :=
  ∀ ws : List Jvm.Cond, MetFree l y (head1 (Jvm.Cond.code y bytes maxL ret :: ws) rm) (fun a U => a = as' ∧ Z.Warmed39 U.vm ∧ U.heap = h0) (fun _ _ _ _ _ => True) (fun _ U o U' => ∃ v L, o = .returned v ∧ Q v U'.heap L ∧ FrameEnd U o U' L rm.cells rm.slots)
def own_Fin (p : Program) (e : Env) (s : State) (below : List Frame) (R : Room) (Q : Option Value → Heap → List Loc → Prop) (A : State) : Prop :=
  ∃ n o, Steps p.tables e below A n ∧ n.status = .running ∧ Ended n below o ∧ ∃ v L, o = .returned v ∧ Q v n.heap L ∧ FrameEnd s o n L R.cells R.slots
theorem own_to {A : State} (B : State) (st : ∀ t, Steps p.tables e below B t → Steps p.tables e below A t) (k : own_Fin p e s below R Q B) : own_Fin p e s below R Q A := by
  obtain ⟨n, o, h1, r⟩ := k
  exact ⟨n, o, st _ h1, r⟩
theorem own_body {h0 : Heap} (hp : plainName y.cls = true)
    (k : ∀ p e s m below meth c s₁, p.tables.exec = Jvm.exec → Z.Warmed39 s.vm → c.code = bytes → c.maxLocals = maxL → s.vm.findClass y.cls = some m.cls → meth.name = y.name → meth.sig.returnType = ret → meth.locks = false →
      Stand p l e rm s m as' below meth c s₁ [] 0 0 → s₁.heap = h0 → own_Fin p e s below rm Q (s₁.setTop (entryFrame m as' maxL))) : own_Ct l Z y bytes maxL ret rm as' h0 Q := by
  intro ws
  refine MetFree.of_bodySF (plainFor_of_name hp) hisR ?_
  intro p e s m args below meth c s₁ Bd hml0 hP hK
  obtain ⟨ha, hZ, hh⟩ := hP
  subst ha
  obtain ⟨n, o, h1, h2, h3, h4⟩ := k p e s m below meth c s₁ Bd.exec hZ Bd.bytes hml0 (findClass_of_methodNamed Bd.named) (name_of_methodNamed Bd.named Bd.method).1 Bd.returns Bd.notSynchronized (Stand.of_body Bd) (by rw [← hh, Bd.state]; rfl)
  exact ⟨n, o, h1, h2, h3, h4⟩
theorem own_retI (X : Stand p l e R s m args below meth c T locs cells slots) (hx : p.tables.exec = Jvm.exec) (hret : meth.sig.returnType = some .int) (hk : meth.locks = false) {pc : Nat} {Ls : Array Slot} {i : Int32} {rest : List Value}
    (hd : decode c.code pc = .ok (.ireturn, 1)) (hc : cells ≤ R.cells) (hs : slots ≤ R.slots) (hq : Q (some (.int i)) T.heap locs) : own_Fin p e s below R Q (T.setTop (mkF m pc Ls (.int i :: rest))) := by
  obtain ⟨fs, hr, hrun, hended, hW, hsame⟩ := X.leave (v := some (.int i)) (fun h => by rw [hret] at h; cases h) hk
  exact ⟨_, _, retOut X hx hret rfl (Or.inl ⟨rfl, Or.inl rfl, _, rfl⟩) hd hr, hrun, hended, _, _, rfl, hq, ⟨_, rfl⟩, hW, hsame.mono hc hs⟩
theorem own_retZ (X : Stand p l e R s m args below meth c T locs cells slots) (hx : p.tables.exec = Jvm.exec) (hret : meth.sig.returnType = some .boolean) (hk : meth.locks = false) {pc : Nat} {Ls : Array Slot} {i i' : Int32} {rest : List Value}
    (hd : decode c.code pc = .ok (.ireturn, 1)) (hc : cells ≤ R.cells) (hs : slots ≤ R.slots) (hi : nar .boolean i = i') (hq : Q (some (.int i')) T.heap locs) : own_Fin p e s below R Q (T.setTop (mkF m pc Ls (.int i :: rest))) := by
  subst hi
  obtain ⟨fs, hr, hrun, hended, hW, hsame⟩ := X.leave (v := some (.int (nar .boolean i))) (fun h => by rw [hret] at h; cases h) hk
  exact ⟨_, _, retN X hx (t := .boolean) hret (by simp) hd hr, hrun, hended, _, _, rfl, hq, ⟨_, rfl⟩, hW, hsame.mono hc hs⟩
theorem own_retJ (X : Stand p l e R s m args below meth c T locs cells slots) (hx : p.tables.exec = Jvm.exec) (hret : meth.sig.returnType = some .long) (hk : meth.locks = false) {pc : Nat} {Ls : Array Slot} {i : Int64} {rest : List Value}
    (hd : decode c.code pc = .ok (.lreturn, 1)) (hc : cells ≤ R.cells) (hs : slots ≤ R.slots) (hq : Q (some (.long i)) T.heap locs) : own_Fin p e s below R Q (T.setTop (mkF m pc Ls (.long i :: rest))) := by
  obtain ⟨fs, hr, hrun, hended, hW, hsame⟩ := X.leave (v := some (.long i)) (fun h => by rw [hret] at h; cases h) hk
  exact ⟨_, _, retOut X hx hret rfl (Or.inr (Or.inl ⟨rfl, rfl, _, rfl⟩)) hd hr, hrun, hended, _, _, rfl, hq, ⟨_, rfl⟩, hW, hsame.mono hc hs⟩
theorem own_retA (X : Stand p l e R s m args below meth c T locs cells slots) (hx : p.tables.exec = Jvm.exec) {t : FieldType} (hret : meth.sig.returnType = some t) (ht : t.isReference = true) (hk : meth.locks = false) {pc : Nat} {Ls : Array Slot} {v : Value} (hv : v.isRef = true) (hn : narrow t v = v) {rest : List Value}
    (hd : decode c.code pc = .ok (.areturn, 1)) (hc : cells ≤ R.cells) (hs : slots ≤ R.slots) (hq : Q (some v) T.heap locs) : own_Fin p e s below R Q (T.setTop (mkF m pc Ls (v :: rest))) := by
  obtain ⟨fs, hr, hrun, hended, hW, hsame⟩ := X.leave (v := some v) (fun h => by rw [hret] at h; cases h) hk
  exact ⟨_, _, retOut X hx hret hn (Or.inr (Or.inr (Or.inr (Or.inr ⟨rfl, ht, hv⟩)))) hd hr, hrun, hended, _, _, rfl, hq, ⟨_, rfl⟩, hW, hsame.mono hc hs⟩
theorem own_retV (X : Stand p l e R s m args below meth c T locs cells slots) (hx : p.tables.exec = Jvm.exec) (hret : meth.sig.returnType = none) (hk : meth.locks = false) {pc : Nat} {Ls : Array Slot}
    (hd : decode c.code pc = .ok (.return_, 1)) (hc : cells ≤ R.cells) (hs : slots ≤ R.slots) (hq : Q none T.heap locs) : own_Fin p e s below R Q (T.setTop (mkF m pc Ls [])) := by
  obtain ⟨fs, hr, hrun, hended, hW, hsame⟩ := X.leave (v := none) (fun _ => rfl) hk
  exact ⟨_, _, X.returnOut hx hret hd hr, hrun, hended, _, _, rfl, hq, ⟨_, rfl⟩, hW, hsame.mono hc hs⟩
theorem own_callV (X : Stand p l e R s m args below meth c T locs cells slots) (hx : p.tables.exec = Jvm.exec) (hZ : Z.Warmed39 s.vm) (hown : s.vm.findClass own = some m.cls) (w1 : (Cond.methodLink own index y).before a0 Z = true) (w2 : (Cond.declares y).before a0 Z = true)
    (w3 : (Cond.selects C y z).before a0 Z = true) (nf : NotFace s y) (w4 : (Cond.instanceMethod z).before a0 Z = true) (w5 : (Cond.code z bytes maxL ret).before a0 Z = true) (w6 : (Cond.initialized z.cls).before a0 Z = true) (hy : y.cls ≠ "java/lang/invoke/MethodHandle" ∧ y.cls ≠ "java/lang/invoke/VarHandle")
    (eT : T.heap = h) {b : Addr} (E : Exa Z h b C) {argsL rest : List Value} (ct : own_Ct l Z z bytes maxL ret rm (.ref b :: argsL).toArray h Q) (hf : rm.frames + 1 ≤ R.frames) {W : Nat} (hl : W + (maxL + 11) + rm.locals ≤ R.locals) (hc : cells + rm.cells ≤ R.cells) (hs : slots + rm.slots ≤ R.slots)
    {ps : List FieldType} {r : Option FieldType} (hpd : parseMethodDescriptor y.desc = some ⟨ps, r⟩) (hll : argsL.length = ps.length) {pc : Nat} {Ls : Array Slot} (hsz : Ls.size = c.maxLocals) (hW : (rest.map fun v => v.category).sum ≤ W) (hd : decode c.code pc = .ok (.invokevirtual index, 3)) :
    ∃ v T' L, Stand p l e R s m args below meth c T' (locs ++ L) (cells + rm.cells) (slots + rm.slots) ∧ Q v T'.heap L ∧ ∀ t, Steps p.tables e below (T'.setTop (mkF m (pc + 3) Ls (v.toList ++ rest))) t → Steps p.tables e below (T.setTop (mkF m pc Ls (argsL.reverse ++ .ref b :: rest))) t := by
  obtain ⟨cB, kB, q1, q2, q3⟩ := isOf hZ eT E
  obtain ⟨v, _, ⟨T', L', k', n'⟩, -, X', ⟨L, hQ, l1, y1, z1⟩, st⟩ := X.virtualBack hx (y := y) (z := z) hown (mvT hZ w1) (mvT hZ w2) nf (mvT hZ w3) (mvT hZ w4) hy (backOf (W := W) (ct []) hZ w5 w6 hf hl) q1 q3
    (g := mkF m pc Ls (argsL.reverse ++ .ref b :: rest)) rfl hsz (Steps.refl _) (argsL := argsL) (rest := rest) (lenOf hpd hll) rfl (by show 2 * 0 + _ ≤ _; rw [Nat.mul_zero, Nat.zero_add]; exact hW) hd (fun _ _ => ⟨rfl, eT, hc, hs⟩)
  dsimp only [Pt.U, Pt.locs, Pt.cells, Pt.slots] at X' l1 y1 z1 st hQ
  subst l1 y1 z1
  exact ⟨v, T', L, X', hQ, fun t k => st.trans k⟩
theorem own_callS (X : Stand p l e R s m args below meth c T locs cells slots) (hx : p.tables.exec = Jvm.exec) (hZ : Z.Warmed39 s.vm) (hown : s.vm.findClass own = some m.cls) (w1 : (Cond.methodLink own index y).before a0 Z = true) (w2 : (Cond.static y).before a0 Z = true)
    (w5 : (Cond.code y bytes maxL ret).before a0 Z = true) (w6 : (Cond.initialized y.cls).before a0 Z = true) (hy : y.cls ≠ "java/lang/invoke/MethodHandle" ∧ y.cls ≠ "java/lang/invoke/VarHandle")
    (eT : T.heap = h) {argsL rest : List Value} (ct : own_Ct l Z y bytes maxL ret rm argsL.toArray h Q) (hf : rm.frames + 1 ≤ R.frames) {W : Nat} (hl : W + (maxL + 11) + rm.locals ≤ R.locals) (hc : cells + rm.cells ≤ R.cells) (hs : slots + rm.slots ≤ R.slots)
    {ps : List FieldType} {r : Option FieldType} (hpd : parseMethodDescriptor y.desc = some ⟨ps, r⟩) (hll : argsL.length = ps.length) {pc : Nat} {Ls : Array Slot} (hsz : Ls.size = c.maxLocals) (hW : (rest.map fun v => v.category).sum ≤ W) (hd : decode c.code pc = .ok (.invokestatic index, 3)) :
    ∃ v T' L, Stand p l e R s m args below meth c T' (locs ++ L) (cells + rm.cells) (slots + rm.slots) ∧ Q v T'.heap L ∧ ∀ t, Steps p.tables e below (T'.setTop (mkF m (pc + 3) Ls (v.toList ++ rest))) t → Steps p.tables e below (T.setTop (mkF m pc Ls (argsL.reverse ++ rest))) t := by
  obtain ⟨v, _, ⟨T', L', k', n'⟩, -, X', ⟨L, hQ, l1, y1, z1⟩, st⟩ := Jvm.LawKit.callS X hx (y := y) hown (mvT hZ w1) (mvT hZ w2) (mvT hZ w6) (mvT hZ w5) hy (backOf (W := W) (ct []) hZ w5 w6 hf hl)
    (g := mkF m pc Ls (argsL.reverse ++ rest)) rfl hsz (argsL := argsL) (rest := rest) (lenOf hpd hll) rfl (by show 2 * 0 + _ ≤ _; rw [Nat.mul_zero, Nat.zero_add]; exact hW) hd (fun _ _ => ⟨rfl, eT, hc, hs⟩)
  dsimp only [Pt.U, Pt.locs, Pt.cells, Pt.slots] at X' l1 y1 z1 st hQ
  subst l1 y1 z1
  exact ⟨v, T', L, X', hQ, fun t k => st t k⟩
theorem own_callN (X : Stand p l e R s m args below meth c T locs cells slots) (hx : p.tables.exec = Jvm.exec) (hZ : Z.Warmed39 s.vm) (hown : s.vm.findClass own = some m.cls) (hn : y.name = "<init>") (w1 : (Cond.methodLink own index y).before a0 Z = true) (w2 : (Cond.instanceMethod y).before a0 Z = true)
    (w5 : (Cond.code y bytes maxL none).before a0 Z = true) (w6 : (Cond.initialized y.cls).before a0 Z = true) (hy : y.cls ≠ "java/lang/invoke/MethodHandle" ∧ y.cls ≠ "java/lang/invoke/VarHandle")
    (eT : T.heap = h) {b : Addr} {argsL rest : List Value} (ct : own_Ct l Z y bytes maxL none rm (.ref b :: argsL).toArray h Q) (hf : rm.frames + 1 ≤ R.frames) {W : Nat} (hl : W + (maxL + 11) + rm.locals ≤ R.locals) (hc : cells + rm.cells ≤ R.cells) (hs : slots + rm.slots ≤ R.slots)
    {ps : List FieldType} {r : Option FieldType} (hpd : parseMethodDescriptor y.desc = some ⟨ps, r⟩) (hll : argsL.length = ps.length) {pc : Nat} {Ls : Array Slot} (hsz : Ls.size = c.maxLocals) (hW : (rest.map fun v => v.category).sum ≤ W) (hd : decode c.code pc = .ok (.invokespecial index, 3)) :
    ∃ v T' L, Stand p l e R s m args below meth c T' (locs ++ L) (cells + rm.cells) (slots + rm.slots) ∧ Q v T'.heap L ∧ ∀ t, Steps p.tables e below (T'.setTop (mkF m (pc + 3) Ls (v.toList ++ rest))) t → Steps p.tables e below (T.setTop (mkF m pc Ls (argsL.reverse ++ .ref b :: rest))) t := by
  obtain ⟨v, _, ⟨T', L', k', n'⟩, -, X', ⟨L, hQ, l1, y1, z1⟩, st⟩ := X.specialBack hx (y := y) hn hown (mvT hZ w1) (mvT hZ w2) (mvT hZ w5) hy (backOf (W := W) (ct []) hZ w5 w6 hf hl)
    (g := mkF m pc Ls (argsL.reverse ++ .ref b :: rest)) rfl hsz (Steps.refl _) (a := b) (argsL := argsL) (rest := rest) (lenOf hpd hll) rfl (by show 2 * 0 + _ ≤ _; rw [Nat.mul_zero, Nat.zero_add]; exact hW) hd (fun _ _ => ⟨rfl, eT, hc, hs⟩)
  dsimp only [Pt.U, Pt.locs, Pt.cells, Pt.slots] at X' l1 y1 z1 st hQ
  subst l1 y1 z1
  exact ⟨v, T', L, X', hQ, fun t k => st.trans k⟩
theorem own_staK {h' : Heap} {ws : List Addr} {n d : String} {v : Value} (F : Sta Z h C n d v) (K : Keep h h' ws) (hws : ∀ x ∈ ws, ∀ cl : Cell, h[x]? = some cl → cl.vm.isStatics = false) : Sta Z h' C n d v := by
  obtain ⟨cf, i, k, f, st, cell, h1, h2, h3, h4, h5, h6, h7⟩ := F
  refine ⟨cf, i, k, f, st, cell, h1, h2, h3, h4, K.2.1 st cell h5 (fun q => ?_), h6, h7⟩
  rw [hws st q cell h5] at h6; cases h6
theorem own_exaS {a : Addr} (E : Exa Z h a C) : ∀ cl : Cell, h[a]? = some cl → cl.vm.isStatics = false := by
  obtain ⟨cell, k, h1, -, -, h4, -⟩ := E
  intro cl q
  cases h1.symm.trans q
  exact h4
theorem own_len {t : Term} {n : Int32} {cl : Cell} {a : Addr} (hl : (Term.length t).eval args Z none [] Z = some (.int n)) (et : t.eval args Z none [] Z = some (.ref a)) (ea : Z.arrayAt? a = some cl) : cl.slots.size < 2 ^ 31 ∧ cl.slots.size.toInt32 = n := by
  simp only [Term.eval, Option.bind_eq_bind, et, Option.bind_some, ea] at hl
  by_cases q : cl.slots.size < 2 ^ 31
  · simp [q] at hl; exact ⟨q, hl⟩
  · simp [q] at hl
theorem own_subE {i j : Term} {x w : Int32} {idx : List Nat} (hi : i.eval args Z none idx Z = some (.int x)) (hj : j.eval args Z none idx Z = some (.int w)) : (Term.sub i j).eval args Z none idx Z = some (.int (x - w)) := by simp [Term.eval, hi, hj]
end OwnLayer
theorem d1_0 : decode method_3_code 0 = .ok (.iload_n 0, 1) := by decide +kernel
theorem d1_1 : decode method_3_code 1 = .ok (.ifCond .ne 7, 3) := by decide +kernel
theorem d1_4 : decode method_3_code 4 = .ok (.getstatic 24, 3) := by decide +kernel
theorem d1_7 : decode method_3_code 7 = .ok (.areturn, 1) := by decide +kernel
theorem d1_8 : decode method_3_code 8 = .ok (.iload_n 0, 1) := by decide +kernel
theorem d1_9 : decode method_3_code 9 = .ok (.iconst 1, 1) := by decide +kernel
theorem d1_10 : decode method_3_code 10 = .ok (.if_icmp .ne 7, 3) := by decide +kernel
theorem d1_13 : decode method_3_code 13 = .ok (.getstatic 30, 3) := by decide +kernel
theorem d1_16 : decode method_3_code 16 = .ok (.areturn, 1) := by decide +kernel
theorem d1_17 : decode method_3_code 17 = .ok (.iload_n 0, 1) := by decide +kernel
theorem d1_18 : decode method_3_code 18 = .ok (.iconst 2, 1) := by decide +kernel
theorem d1_19 : decode method_3_code 19 = .ok (.if_icmp .ne 7, 3) := by decide +kernel
theorem d1_22 : decode method_3_code 22 = .ok (.getstatic 33, 3) := by decide +kernel
theorem d1_25 : decode method_3_code 25 = .ok (.areturn, 1) := by decide +kernel
theorem d1_26 : decode method_3_code 26 = .ok (.iload_n 0, 1) := by decide +kernel
theorem d1_27 : decode method_3_code 27 = .ok (.iconst 3, 1) := by decide +kernel
theorem d1_28 : decode method_3_code 28 = .ok (.if_icmp .ne 7, 3) := by decide +kernel
theorem d1_31 : decode method_3_code 31 = .ok (.getstatic 36, 3) := by decide +kernel
theorem d1_34 : decode method_3_code 34 = .ok (.areturn, 1) := by decide +kernel
theorem d1_35 : decode method_3_code 35 = .ok (.iload_n 0, 1) := by decide +kernel
theorem d1_36 : decode method_3_code 36 = .ok (.iconst 4, 1) := by decide +kernel
theorem d1_37 : decode method_3_code 37 = .ok (.if_icmp .ne 7, 3) := by decide +kernel
theorem d1_40 : decode method_3_code 40 = .ok (.getstatic 39, 3) := by decide +kernel
theorem d1_43 : decode method_3_code 43 = .ok (.areturn, 1) := by decide +kernel
theorem d1_44 : decode method_3_code 44 = .ok (.getstatic 42, 3) := by decide +kernel
theorem d1_47 : decode method_3_code 47 = .ok (.areturn, 1) := by decide +kernel
theorem pn_1 : plainName "com/example/graticule/graticule/fes/ValuesComparablePinLaw" = true := by first | (simp [plainName, overriddenIn]; done) | decide +kernel
theorem pd_1 : parseMethodDescriptor "(I)Lcom/example/graticule/graticule/feature/AttributeType;" = some ⟨[.int], some (.object "com/example/graticule/graticule/feature/AttributeType")⟩ := by decide +kernel
theorem d2_0 : decode method_4_code 0 = .ok (.iload_n 0, 1) := by decide +kernel
theorem d2_1 : decode method_4_code 1 = .ok (.ifCond .ne 5, 3) := by decide +kernel
theorem d2_4 : decode method_4_code 4 = .ok (.iconst 0, 1) := by decide +kernel
theorem d2_5 : decode method_4_code 5 = .ok (.ireturn, 1) := by decide +kernel
theorem d2_6 : decode method_4_code 6 = .ok (.iload_n 0, 1) := by decide +kernel
theorem d2_7 : decode method_4_code 7 = .ok (.iconst 3, 1) := by decide +kernel
theorem d2_8 : decode method_4_code 8 = .ok (.if_icmp .gt 5, 3) := by decide +kernel
theorem d2_11 : decode method_4_code 11 = .ok (.iconst 1, 1) := by decide +kernel
theorem d2_12 : decode method_4_code 12 = .ok (.ireturn, 1) := by decide +kernel
theorem d2_13 : decode method_4_code 13 = .ok (.iload_n 0, 1) := by decide +kernel
theorem d2_14 : decode method_4_code 14 = .ok (.iconst 4, 1) := by decide +kernel
theorem d2_15 : decode method_4_code 15 = .ok (.if_icmp .ne 5, 3) := by decide +kernel
theorem d2_18 : decode method_4_code 18 = .ok (.iconst 2, 1) := by decide +kernel
theorem d2_19 : decode method_4_code 19 = .ok (.ireturn, 1) := by decide +kernel
theorem d2_20 : decode method_4_code 20 = .ok (.iconst 3, 1) := by decide +kernel
theorem d2_21 : decode method_4_code 21 = .ok (.ireturn, 1) := by decide +kernel
theorem pn_2 : plainName "com/example/graticule/graticule/fes/ValuesComparablePinLaw" = true := by first | (simp [plainName, overriddenIn]; done) | decide +kernel
theorem pd_2 : parseMethodDescriptor "(I)I" = some ⟨[.int], some .int⟩ := by decide +kernel
theorem d3_0 : decode prog_9_method_2_code 0 = .ok (.aload_n 0, 1) := by decide +kernel
theorem d3_1 : decode prog_9_method_2_code 1 = .ok (.aload_n 1, 1) := by decide +kernel
theorem d3_2 : decode prog_9_method_2_code 2 = .ok (.if_acmp .eq 17, 3) := by decide +kernel
theorem d3_5 : decode prog_9_method_2_code 5 = .ok (.aload_n 0, 1) := by decide +kernel
theorem d3_6 : decode prog_9_method_2_code 6 = .ok (.invokestatic 7, 3) := by decide +kernel
theorem d3_9 : decode prog_9_method_2_code 9 = .ok (.ifCond .eq 14, 3) := by decide +kernel
theorem d3_12 : decode prog_9_method_2_code 12 = .ok (.aload_n 1, 1) := by decide +kernel
theorem d3_13 : decode prog_9_method_2_code 13 = .ok (.invokestatic 7, 3) := by decide +kernel
theorem d3_16 : decode prog_9_method_2_code 16 = .ok (.ifCond .eq 7, 3) := by decide +kernel
theorem d3_19 : decode prog_9_method_2_code 19 = .ok (.iconst 1, 1) := by decide +kernel
theorem d3_20 : decode prog_9_method_2_code 20 = .ok (.goto 4, 3) := by decide +kernel
theorem d3_23 : decode prog_9_method_2_code 23 = .ok (.iconst 0, 1) := by decide +kernel
theorem d3_24 : decode prog_9_method_2_code 24 = .ok (.ireturn, 1) := by decide +kernel
theorem pn_3 : plainName "com/example/graticule/graticule/fes/Values" = true := by first | (simp [plainName, overriddenIn]; done) | decide +kernel
theorem pd_3 : parseMethodDescriptor "(Lcom/example/graticule/graticule/feature/AttributeType;Lcom/example/graticule/graticule/feature/AttributeType;)Z" = some ⟨[(.object "com/example/graticule/graticule/feature/AttributeType"), (.object "com/example/graticule/graticule/feature/AttributeType")], some .boolean⟩ := by decide +kernel
theorem d4_0 : decode prog_9_method_3_code 0 = .ok (.aload_n 0, 1) := by decide +kernel
theorem d4_1 : decode prog_9_method_3_code 1 = .ok (.getstatic 13, 3) := by decide +kernel
theorem d4_4 : decode prog_9_method_3_code 4 = .ok (.if_acmp .eq 17, 3) := by decide +kernel
theorem d4_7 : decode prog_9_method_3_code 7 = .ok (.aload_n 0, 1) := by decide +kernel
theorem d4_8 : decode prog_9_method_3_code 8 = .ok (.getstatic 19, 3) := by decide +kernel
theorem d4_11 : decode prog_9_method_3_code 11 = .ok (.if_acmp .eq 10, 3) := by decide +kernel
theorem d4_14 : decode prog_9_method_3_code 14 = .ok (.aload_n 0, 1) := by decide +kernel
theorem d4_15 : decode prog_9_method_3_code 15 = .ok (.getstatic 22, 3) := by decide +kernel
theorem d4_18 : decode prog_9_method_3_code 18 = .ok (.if_acmp .ne 7, 3) := by decide +kernel
theorem d4_21 : decode prog_9_method_3_code 21 = .ok (.iconst 1, 1) := by decide +kernel
theorem d4_22 : decode prog_9_method_3_code 22 = .ok (.goto 4, 3) := by decide +kernel
theorem d4_25 : decode prog_9_method_3_code 25 = .ok (.iconst 0, 1) := by decide +kernel
theorem d4_26 : decode prog_9_method_3_code 26 = .ok (.ireturn, 1) := by decide +kernel
theorem pn_4 : plainName "com/example/graticule/graticule/fes/Values" = true := by first | (simp [plainName, overriddenIn]; done) | decide +kernel
theorem pd_4 : parseMethodDescriptor "(Lcom/example/graticule/graticule/feature/AttributeType;)Z" = some ⟨[(.object "com/example/graticule/graticule/feature/AttributeType")], some .boolean⟩ := by decide +kernel
theorem pn_0 : plainName "com/example/graticule/graticule/fes/ValuesComparablePinLaw" = true := by first | (simp [plainName, overriddenIn]; done) | decide +kernel
theorem pd_0 : parseMethodDescriptor "(II)Z" = some ⟨[.int, .int], some .boolean⟩ := by decide +kernel
def own_ty (i : Int32) (x0 x1 x2 x3 x4 x5 : Addr) : Addr := if i = 0 then x0 else if i = 1 then x1 else if i = 2 then x2 else if i = 3 then x3 else if i = 4 then x4 else x5
def own_kd (i : Int32) : Int32 := if i = 0 then 0 else if 3 < i then (if i = 4 then 2 else 3) else 1
def own_isn (a x1 x2 x3 : Addr) : Int32 := if (Value.ref a) = .ref x1 then 1 else if (Value.ref a) = .ref x2 then 1 else if (Value.ref a) = .ref x3 then 1 else 0
def own_cmp (a b x1 x2 x3 : Addr) : Int32 := if (Value.ref a) = .ref b then 1 else if own_isn a x1 x2 x3 = 0 then 0 else if own_isn b x1 x2 x3 = 0 then 0 else 1
theorem own_six (q : Int32) : (q &&& 2147483647) % 6 = 0 ∨ (q &&& 2147483647) % 6 = 1 ∨ (q &&& 2147483647) % 6 = 2 ∨ (q &&& 2147483647) % 6 = 3 ∨ (q &&& 2147483647) % 6 = 4 ∨ (q &&& 2147483647) % 6 = 5 := by
  have h1 := c_and q 2147483647 (by decide)
  have h2 := (c_irem (q &&& 2147483647) 6 6 (by decide)).1 h1.1
  generalize ((q &&& 2147483647) % 6) = i at *
  have h3 : i.toInt = 0 ∨ i.toInt = 1 ∨ i.toInt = 2 ∨ i.toInt = 3 ∨ i.toInt = 4 ∨ i.toInt = 5 := by omega
  rcases h3 with h | h | h | h | h | h
  · exact Or.inl (Int32.toInt_inj.mp h)
  · exact Or.inr (Or.inl (Int32.toInt_inj.mp h))
  · exact Or.inr (Or.inr (Or.inl (Int32.toInt_inj.mp h)))
  · exact Or.inr (Or.inr (Or.inr (Or.inl (Int32.toInt_inj.mp h))))
  · exact Or.inr (Or.inr (Or.inr (Or.inr (Or.inl (Int32.toInt_inj.mp h)))))
  · exact Or.inr (Or.inr (Or.inr (Or.inr (Or.inr (Int32.toInt_inj.mp h)))))
theorem own_plain (i j : Int32) (x0 x1 x2 x3 x4 x5 : Addr) (n01 : x0 ≠ x1) (n02 : x0 ≠ x2) (n03 : x0 ≠ x3) (n04 : x0 ≠ x4) (n05 : x0 ≠ x5) (n12 : x1 ≠ x2) (n13 : x1 ≠ x3) (n14 : x1 ≠ x4) (n15 : x1 ≠ x5) (n23 : x2 ≠ x3) (n24 : x2 ≠ x4) (n25 : x2 ≠ x5) (n34 : x3 ≠ x4) (n35 : x3 ≠ x5) (n45 : x4 ≠ x5) (hi : i = 0 ∨ i = 1 ∨ i = 2 ∨ i = 3 ∨ i = 4 ∨ i = 5) (hj : j = 0 ∨ j = 1 ∨ j = 2 ∨ j = 3 ∨ j = 4 ∨ j = 5) :
    own_cmp (own_ty i x0 x1 x2 x3 x4 x5) (own_ty j x0 x1 x2 x3 x4 x5) x1 x2 x3 = if own_kd i = own_kd j then 1 else 0 := by
  rcases hi with rfl | rfl | rfl | rfl | rfl | rfl <;> rcases hj with rfl | rfl | rfl | rfl | rfl | rfl <;> simp [own_cmp, own_ty, own_kd, own_isn, n01, n02, n03, n04, n05, n12, n13, n14, n15, n23, n24, n25, n34, n35, n45, Ne.symm n01, Ne.symm n02, Ne.symm n03, Ne.symm n04, Ne.symm n05, Ne.symm n12, Ne.symm n13, Ne.symm n14, Ne.symm n15, Ne.symm n23, Ne.symm n24, Ne.symm n25, Ne.symm n34, Ne.symm n35, Ne.symm n45]
theorem ef_1 (m : MethodId) (x0 : Int32) : entryFrame m #[(.int x0)] 1 = mkF m 0 #[.val (.int x0)] [] := by first | (simp [entryFrame, mkF, argsToLocals, Value.category]; done) | rfl
def Q1 (Z : State) (i : Int32) (x0 x1 x2 x3 x4 x5 : Addr) (h0 : Heap) (n0 : Nat) (v : Option Value) (h : Heap) (L : List Loc) : Prop := v = some (.ref (own_ty i x0 x1 x2 x3 x4 x5)) ∧ Fr n0 L ∧ h = h0
set_option maxRecDepth 65536 in
set_option maxHeartbeats 40000000 in
theorem rm1 (l : Launch) (Z : State) (a0 : Array Value) (hw : ∀ d ∈ tables_1, d.before a0 Z = true) (i : Int32) (x0 x1 x2 x3 x4 x5 : Addr) (h0 : Heap) (n0 : Nat) (Z0 : n0 ≤ h0.size) (S0 : Sta Z h0 "com/example/graticule/graticule/feature/AttributeType" "STRING" "Lcom/example/graticule/graticule/feature/AttributeType;" (.ref x0)) (S1 : Sta Z h0 "com/example/graticule/graticule/feature/AttributeType" "INTEGER" "Lcom/example/graticule/graticule/feature/AttributeType;" (.ref x1)) (S2 : Sta Z h0 "com/example/graticule/graticule/feature/AttributeType" "LONG" "Lcom/example/graticule/graticule/feature/AttributeType;" (.ref x2)) (S3 : Sta Z h0 "com/example/graticule/graticule/feature/AttributeType" "DOUBLE" "Lcom/example/graticule/graticule/feature/AttributeType;" (.ref x3)) (S4 : Sta Z h0 "com/example/graticule/graticule/feature/AttributeType" "BOOLEAN" "Lcom/example/graticule/graticule/feature/AttributeType;" (.ref x4)) (S5 : Sta Z h0 "com/example/graticule/graticule/feature/AttributeType" "DATE" "Lcom/example/graticule/graticule/feature/AttributeType;" (.ref x5)) :
    own_Ct l Z (⟨"com/example/graticule/graticule/fes/ValuesComparablePinLaw", "type", "(I)Lcom/example/graticule/graticule/feature/AttributeType;"⟩ : MethodName) method_3_code 1 (some (.object "com/example/graticule/graticule/feature/AttributeType")) ({ frames := 0, cells := 0, slots := 0, locals := 0 } : Room) #[(.int i)] h0 (Q1 Z i x0 x1 x2 x3 x4 x5 h0 n0) := by
  refine own_body pn_1 ?_
  intro p e s m below meth cd s₁ hx hZ hby hml hown hnm hret hk X0 e0
  have N0 := Fr.nil n0
  refine own_to (s₁.setTop (mkF m 0 #[.val (.int i)] [])) (fun t k => castTop (ef_1 m i) k) ?_
  refine own_to (s₁.setTop (mkF m 1 #[.val (.int i)] [(.int i)])) (fun t k => XS.iloadN X0.here hx rfl (hb hby d1_0) rfl k) ?_
  by_cases c11 : i = (0 : Int32)
  · -- c11 yes
    refine own_to (s₁.setTop (mkF m 4 #[.val (.int i)] [])) (fun t k => XS.ifNo X0.here hx rfl (hb hby d1_1) rfl ((if0 _ _).trans (teq c11).2) k) ?_
    obtain ⟨T12, X12, e12, st12⟩ := getS (host := "") X0 hx hZ hown (hw _ (List.mem_of_getElem? (i := 5) rfl)) Via.refl e0 S0 (g := (mkF m 4 #[.val (.int i)] [])) rfl (hb hby d1_4)
    refine own_to (T12.setTop (mkF m 7 #[.val (.int i)] [(.ref x0)])) (fun t k => st12 t k) ?_
    exact own_retA X12 hx hret rfl hk rfl rfl (hb hby d1_7) (by decide) (by decide) ⟨by rw [own_ty, if_pos c11], N0, e12⟩
  · -- c11 no
    refine own_to (s₁.setTop (mkF m 8 #[.val (.int i)] [])) (fun t k => XS.ifYes X0.here hx rfl (pc0 := 1) (pc' := 8) rfl (hb hby d1_1) rfl ((if0 _ _).trans (feq c11).2) (by decide) (by decide) k) ?_
    refine own_to (s₁.setTop (mkF m 9 #[.val (.int i)] [(.int i)])) (fun t k => XS.iloadN X0.here hx rfl (hb hby d1_8) rfl k) ?_
    refine own_to (s₁.setTop (mkF m 10 #[.val (.int i)] [(.int (1 : Int32)), (.int i)])) (fun t k => XT.iconstV X0.here hx rfl (1 : Int32) (hb hby d1_9) (by decide) k) ?_
    by_cases c13 : i = (1 : Int32)
    · -- c13 yes
      refine own_to (s₁.setTop (mkF m 13 #[.val (.int i)] [])) (fun t k => XS.icmpNo X0.here hx rfl (hb hby d1_10) rfl (teq c13).2 k) ?_
      obtain ⟨T14, X14, e14, st14⟩ := getS (host := "") X0 hx hZ hown (hw _ (List.mem_of_getElem? (i := 26) rfl)) Via.refl e0 S1 (g := (mkF m 13 #[.val (.int i)] [])) rfl (hb hby d1_13)
      refine own_to (T14.setTop (mkF m 16 #[.val (.int i)] [(.ref x1)])) (fun t k => st14 t k) ?_
      exact own_retA X14 hx hret rfl hk rfl rfl (hb hby d1_16) (by decide) (by decide) ⟨by rw [own_ty, if_neg c11, if_pos c13], N0, e14⟩
    · -- c13 no
      refine own_to (s₁.setTop (mkF m 17 #[.val (.int i)] [])) (fun t k => XS.icmpYes X0.here hx rfl (pc0 := 10) (pc' := 17) rfl (hb hby d1_10) rfl (feq c13).2 (by decide) (by decide) k) ?_
      refine own_to (s₁.setTop (mkF m 18 #[.val (.int i)] [(.int i)])) (fun t k => XS.iloadN X0.here hx rfl (hb hby d1_17) rfl k) ?_
      refine own_to (s₁.setTop (mkF m 19 #[.val (.int i)] [(.int (2 : Int32)), (.int i)])) (fun t k => XT.iconstV X0.here hx rfl (2 : Int32) (hb hby d1_18) (by decide) k) ?_
      by_cases c15 : i = (2 : Int32)
      · -- c15 yes
        refine own_to (s₁.setTop (mkF m 22 #[.val (.int i)] [])) (fun t k => XS.icmpNo X0.here hx rfl (hb hby d1_19) rfl (teq c15).2 k) ?_
        obtain ⟨T16, X16, e16, st16⟩ := getS (host := "") X0 hx hZ hown (hw _ (List.mem_of_getElem? (i := 25) rfl)) Via.refl e0 S2 (g := (mkF m 22 #[.val (.int i)] [])) rfl (hb hby d1_22)
        refine own_to (T16.setTop (mkF m 25 #[.val (.int i)] [(.ref x2)])) (fun t k => st16 t k) ?_
        exact own_retA X16 hx hret rfl hk rfl rfl (hb hby d1_25) (by decide) (by decide) ⟨by rw [own_ty, if_neg c11, if_neg c13, if_pos c15], N0, e16⟩
      · -- c15 no
        refine own_to (s₁.setTop (mkF m 26 #[.val (.int i)] [])) (fun t k => XS.icmpYes X0.here hx rfl (pc0 := 19) (pc' := 26) rfl (hb hby d1_19) rfl (feq c15).2 (by decide) (by decide) k) ?_
        refine own_to (s₁.setTop (mkF m 27 #[.val (.int i)] [(.int i)])) (fun t k => XS.iloadN X0.here hx rfl (hb hby d1_26) rfl k) ?_
        refine own_to (s₁.setTop (mkF m 28 #[.val (.int i)] [(.int (3 : Int32)), (.int i)])) (fun t k => XT.iconstV X0.here hx rfl (3 : Int32) (hb hby d1_27) (by decide) k) ?_
        by_cases c17 : i = (3 : Int32)
        · -- c17 yes
          refine own_to (s₁.setTop (mkF m 31 #[.val (.int i)] [])) (fun t k => XS.icmpNo X0.here hx rfl (hb hby d1_28) rfl (teq c17).2 k) ?_
          obtain ⟨T18, X18, e18, st18⟩ := getS (host := "") X0 hx hZ hown (hw _ (List.mem_of_getElem? (i := 8) rfl)) Via.refl e0 S3 (g := (mkF m 31 #[.val (.int i)] [])) rfl (hb hby d1_31)
          refine own_to (T18.setTop (mkF m 34 #[.val (.int i)] [(.ref x3)])) (fun t k => st18 t k) ?_
          exact own_retA X18 hx hret rfl hk rfl rfl (hb hby d1_34) (by decide) (by decide) ⟨by rw [own_ty, if_neg c11, if_neg c13, if_neg c15, if_pos c17], N0, e18⟩
        · -- c17 no
          refine own_to (s₁.setTop (mkF m 35 #[.val (.int i)] [])) (fun t k => XS.icmpYes X0.here hx rfl (pc0 := 28) (pc' := 35) rfl (hb hby d1_28) rfl (feq c17).2 (by decide) (by decide) k) ?_
          refine own_to (s₁.setTop (mkF m 36 #[.val (.int i)] [(.int i)])) (fun t k => XS.iloadN X0.here hx rfl (hb hby d1_35) rfl k) ?_
          refine own_to (s₁.setTop (mkF m 37 #[.val (.int i)] [(.int (4 : Int32)), (.int i)])) (fun t k => XT.iconstV X0.here hx rfl (4 : Int32) (hb hby d1_36) (by decide) k) ?_
          by_cases c19 : i = (4 : Int32)
          · -- c19 yes
            refine own_to (s₁.setTop (mkF m 40 #[.val (.int i)] [])) (fun t k => XS.icmpNo X0.here hx rfl (hb hby d1_37) rfl (teq c19).2 k) ?_
            obtain ⟨T20, X20, e20, st20⟩ := getS (host := "") X0 hx hZ hown (hw _ (List.mem_of_getElem? (i := 29) rfl)) Via.refl e0 S4 (g := (mkF m 40 #[.val (.int i)] [])) rfl (hb hby d1_40)
            refine own_to (T20.setTop (mkF m 43 #[.val (.int i)] [(.ref x4)])) (fun t k => st20 t k) ?_
            exact own_retA X20 hx hret rfl hk rfl rfl (hb hby d1_43) (by decide) (by decide) ⟨by rw [own_ty, if_neg c11, if_neg c13, if_neg c15, if_neg c17, if_pos c19], N0, e20⟩
          · -- c19 no
            refine own_to (s₁.setTop (mkF m 44 #[.val (.int i)] [])) (fun t k => XS.icmpYes X0.here hx rfl (pc0 := 37) (pc' := 44) rfl (hb hby d1_37) rfl (feq c19).2 (by decide) (by decide) k) ?_
            obtain ⟨T21, X21, e21, st21⟩ := getS (host := "") X0 hx hZ hown (hw _ (List.mem_of_getElem? (i := 27) rfl)) Via.refl e0 S5 (g := (mkF m 44 #[.val (.int i)] [])) rfl (hb hby d1_44)
            refine own_to (T21.setTop (mkF m 47 #[.val (.int i)] [(.ref x5)])) (fun t k => st21 t k) ?_
            exact own_retA X21 hx hret rfl hk rfl rfl (hb hby d1_47) (by decide) (by decide) ⟨by rw [own_ty, if_neg c11, if_neg c13, if_neg c15, if_neg c17, if_neg c19], N0, e21⟩
theorem ef_2 (m : MethodId) (x0 : Int32) : entryFrame m #[(.int x0)] 1 = mkF m 0 #[.val (.int x0)] [] := by first | (simp [entryFrame, mkF, argsToLocals, Value.category]; done) | rfl
def Q2 (Z : State) (i : Int32) (h0 : Heap) (n0 : Nat) (v : Option Value) (h : Heap) (L : List Loc) : Prop := v = some (.int (own_kd i)) ∧ Fr n0 L ∧ h = h0
set_option maxRecDepth 65536 in
set_option maxHeartbeats 40000000 in
theorem rm2 (l : Launch) (Z : State) (a0 : Array Value) (hw : ∀ d ∈ tables_1, d.before a0 Z = true) (i : Int32) (h0 : Heap) (n0 : Nat) (Z0 : n0 ≤ h0.size)  :
    own_Ct l Z (⟨"com/example/graticule/graticule/fes/ValuesComparablePinLaw", "kind", "(I)I"⟩ : MethodName) method_4_code 1 (some .int) ({ frames := 0, cells := 0, slots := 0, locals := 0 } : Room) #[(.int i)] h0 (Q2 Z i h0 n0) := by
  refine own_body pn_2 ?_
  intro p e s m below meth cd s₁ hx hZ hby hml hown hnm hret hk X0 e0
  have N0 := Fr.nil n0
  refine own_to (s₁.setTop (mkF m 0 #[.val (.int i)] [])) (fun t k => castTop (ef_2 m i) k) ?_
  refine own_to (s₁.setTop (mkF m 1 #[.val (.int i)] [(.int i)])) (fun t k => XS.iloadN X0.here hx rfl (hb hby d2_0) rfl k) ?_
  by_cases c11 : i = (0 : Int32)
  · -- c11 yes
    refine own_to (s₁.setTop (mkF m 4 #[.val (.int i)] [])) (fun t k => XS.ifNo X0.here hx rfl (hb hby d2_1) rfl ((if0 _ _).trans (teq c11).2) k) ?_
    refine own_to (s₁.setTop (mkF m 5 #[.val (.int i)] [(.int (0 : Int32))])) (fun t k => XT.iconstV X0.here hx rfl (0 : Int32) (hb hby d2_4) (by decide) k) ?_
    exact own_retI X0 hx hret hk (hb hby d2_5) (by decide) (by decide) ⟨by rw [own_kd, if_pos c11], N0, e0⟩
  · -- c11 no
    refine own_to (s₁.setTop (mkF m 6 #[.val (.int i)] [])) (fun t k => XS.ifYes X0.here hx rfl (pc0 := 1) (pc' := 6) rfl (hb hby d2_1) rfl ((if0 _ _).trans (feq c11).2) (by decide) (by decide) k) ?_
    refine own_to (s₁.setTop (mkF m 7 #[.val (.int i)] [(.int i)])) (fun t k => XS.iloadN X0.here hx rfl (hb hby d2_6) rfl k) ?_
    refine own_to (s₁.setTop (mkF m 8 #[.val (.int i)] [(.int (3 : Int32)), (.int i)])) (fun t k => XT.iconstV X0.here hx rfl (3 : Int32) (hb hby d2_7) (by decide) k) ?_
    by_cases c12 : (3 : Int32) < i
    · -- c12 yes
      refine own_to (s₁.setTop (mkF m 13 #[.val (.int i)] [])) (fun t k => XS.icmpYes X0.here hx rfl (pc0 := 8) (pc' := 13) rfl (hb hby d2_8) rfl (tlt c12).2.2.1 (by decide) (by decide) k) ?_
      refine own_to (s₁.setTop (mkF m 14 #[.val (.int i)] [(.int i)])) (fun t k => XS.iloadN X0.here hx rfl (hb hby d2_13) rfl k) ?_
      refine own_to (s₁.setTop (mkF m 15 #[.val (.int i)] [(.int (4 : Int32)), (.int i)])) (fun t k => XT.iconstV X0.here hx rfl (4 : Int32) (hb hby d2_14) (by decide) k) ?_
      by_cases c13 : i = (4 : Int32)
      · -- c13 yes
        refine own_to (s₁.setTop (mkF m 18 #[.val (.int i)] [])) (fun t k => XS.icmpNo X0.here hx rfl (hb hby d2_15) rfl (teq c13).2 k) ?_
        refine own_to (s₁.setTop (mkF m 19 #[.val (.int i)] [(.int (2 : Int32))])) (fun t k => XT.iconstV X0.here hx rfl (2 : Int32) (hb hby d2_18) (by decide) k) ?_
        exact own_retI X0 hx hret hk (hb hby d2_19) (by decide) (by decide) ⟨by rw [own_kd, if_neg c11, if_pos c12, if_pos c13], N0, e0⟩
      · -- c13 no
        refine own_to (s₁.setTop (mkF m 20 #[.val (.int i)] [])) (fun t k => XS.icmpYes X0.here hx rfl (pc0 := 15) (pc' := 20) rfl (hb hby d2_15) rfl (feq c13).2 (by decide) (by decide) k) ?_
        refine own_to (s₁.setTop (mkF m 21 #[.val (.int i)] [(.int (3 : Int32))])) (fun t k => XT.iconstV X0.here hx rfl (3 : Int32) (hb hby d2_20) (by decide) k) ?_
        exact own_retI X0 hx hret hk (hb hby d2_21) (by decide) (by decide) ⟨by rw [own_kd, if_neg c11, if_pos c12, if_neg c13], N0, e0⟩
    · -- c12 no
      refine own_to (s₁.setTop (mkF m 11 #[.val (.int i)] [])) (fun t k => XS.icmpNo X0.here hx rfl (hb hby d2_8) rfl (flt c12).2.2.1 k) ?_
      refine own_to (s₁.setTop (mkF m 12 #[.val (.int i)] [(.int (1 : Int32))])) (fun t k => XT.iconstV X0.here hx rfl (1 : Int32) (hb hby d2_11) (by decide) k) ?_
      exact own_retI X0 hx hret hk (hb hby d2_12) (by decide) (by decide) ⟨by rw [own_kd, if_neg c11, if_neg c12], N0, e0⟩
theorem ef_4 (m : MethodId) (x0 : Addr) : entryFrame m #[(.ref x0)] 1 = mkF m 0 #[.val (.ref x0)] [] := by first | (simp [entryFrame, mkF, argsToLocals, Value.category]; done) | rfl
def Q4 (Z : State) (a x1 x2 x3 : Addr) (h0 : Heap) (n0 : Nat) (v : Option Value) (h : Heap) (L : List Loc) : Prop := v = some (.int (own_isn a x1 x2 x3)) ∧ Fr n0 L ∧ h = h0
set_option maxRecDepth 65536 in
set_option maxHeartbeats 40000000 in
theorem rm4 (l : Launch) (Z : State) (a0 : Array Value) (hw : ∀ d ∈ tables_1, d.before a0 Z = true) (a x1 x2 x3 : Addr) (h0 : Heap) (n0 : Nat) (Z0 : n0 ≤ h0.size) (S1 : Sta Z h0 "com/example/graticule/graticule/feature/AttributeType" "INTEGER" "Lcom/example/graticule/graticule/feature/AttributeType;" (.ref x1)) (S2 : Sta Z h0 "com/example/graticule/graticule/feature/AttributeType" "LONG" "Lcom/example/graticule/graticule/feature/AttributeType;" (.ref x2)) (S3 : Sta Z h0 "com/example/graticule/graticule/feature/AttributeType" "DOUBLE" "Lcom/example/graticule/graticule/feature/AttributeType;" (.ref x3)) :
    own_Ct l Z (⟨"com/example/graticule/graticule/fes/Values", "isNumber", "(Lcom/example/graticule/graticule/feature/AttributeType;)Z"⟩ : MethodName) prog_9_method_3_code 1 (some .boolean) ({ frames := 0, cells := 0, slots := 0, locals := 0 } : Room) #[(.ref a)] h0 (Q4 Z a x1 x2 x3 h0 n0) := by
  refine own_body pn_4 ?_
  intro p e s m below meth cd s₁ hx hZ hby hml hown hnm hret hk X0 e0
  have N0 := Fr.nil n0
  refine own_to (s₁.setTop (mkF m 0 #[.val (.ref a)] [])) (fun t k => castTop (ef_4 m a) k) ?_
  refine own_to (s₁.setTop (mkF m 1 #[.val (.ref a)] [(.ref a)])) (fun t k => XS.aloadN X0.here hx rfl (hb hby d4_0) rfl rfl k) ?_
  obtain ⟨T11, X11, e11, st11⟩ := getS (host := "") X0 hx hZ hown (hw _ (List.mem_of_getElem? (i := 20) rfl)) Via.refl e0 S1 (g := (mkF m 1 #[.val (.ref a)] [(.ref a)])) rfl (hb hby d4_1)
  refine own_to (T11.setTop (mkF m 4 #[.val (.ref a)] [(.ref x1), (.ref a)])) (fun t k => st11 t k) ?_
  by_cases c12 : ((.ref a) : Value) = (.ref x1)
  · -- c12 yes
    refine own_to (T11.setTop (mkF m 21 #[.val (.ref a)] [])) (fun t k => XT.acmpYes X11.here hx rfl (pc0 := 4) (pc' := 21) rfl (hb hby d4_4) rfl rfl rfl (XT.aa_eq_t c12) (by decide) (by decide) k) ?_
    refine own_to (T11.setTop (mkF m 22 #[.val (.ref a)] [(.int (1 : Int32))])) (fun t k => XT.iconstV X11.here hx rfl (1 : Int32) (hb hby d4_21) (by decide) k) ?_
    refine own_to (T11.setTop (mkF m 26 #[.val (.ref a)] [(.int (1 : Int32))])) (fun t k => XS.goto X11.here hx rfl (pc0 := 22) (pc' := 26) rfl (hb hby d4_22) (by decide) (by decide) k) ?_
    exact own_retZ X11 hx hret hk (i' := (1 : Int32)) (hb hby d4_26) (by decide) (by decide) (by decide) ⟨by rw [own_isn, if_pos c12], N0, e11⟩
  · -- c12 no
    refine own_to (T11.setTop (mkF m 7 #[.val (.ref a)] [])) (fun t k => XT.acmpNo X11.here hx rfl (hb hby d4_4) rfl rfl rfl (XT.aa_eq_f c12) k) ?_
    refine own_to (T11.setTop (mkF m 8 #[.val (.ref a)] [(.ref a)])) (fun t k => XS.aloadN X11.here hx rfl (hb hby d4_7) rfl rfl k) ?_
    obtain ⟨T13, X13, e13, st13⟩ := getS (host := "") X11 hx hZ hown (hw _ (List.mem_of_getElem? (i := 22) rfl)) Via.refl e11 S2 (g := (mkF m 8 #[.val (.ref a)] [(.ref a)])) rfl (hb hby d4_8)
    refine own_to (T13.setTop (mkF m 11 #[.val (.ref a)] [(.ref x2), (.ref a)])) (fun t k => st13 t k) ?_
    by_cases c14 : ((.ref a) : Value) = (.ref x2)
    · -- c14 yes
      refine own_to (T13.setTop (mkF m 21 #[.val (.ref a)] [])) (fun t k => XT.acmpYes X13.here hx rfl (pc0 := 11) (pc' := 21) rfl (hb hby d4_11) rfl rfl rfl (XT.aa_eq_t c14) (by decide) (by decide) k) ?_
      refine own_to (T13.setTop (mkF m 22 #[.val (.ref a)] [(.int (1 : Int32))])) (fun t k => XT.iconstV X13.here hx rfl (1 : Int32) (hb hby d4_21) (by decide) k) ?_
      refine own_to (T13.setTop (mkF m 26 #[.val (.ref a)] [(.int (1 : Int32))])) (fun t k => XS.goto X13.here hx rfl (pc0 := 22) (pc' := 26) rfl (hb hby d4_22) (by decide) (by decide) k) ?_
      exact own_retZ X13 hx hret hk (i' := (1 : Int32)) (hb hby d4_26) (by decide) (by decide) (by decide) ⟨by rw [own_isn, if_neg c12, if_pos c14], N0, e13⟩
    · -- c14 no
      refine own_to (T13.setTop (mkF m 14 #[.val (.ref a)] [])) (fun t k => XT.acmpNo X13.here hx rfl (hb hby d4_11) rfl rfl rfl (XT.aa_eq_f c14) k) ?_
      refine own_to (T13.setTop (mkF m 15 #[.val (.ref a)] [(.ref a)])) (fun t k => XS.aloadN X13.here hx rfl (hb hby d4_14) rfl rfl k) ?_
      obtain ⟨T15, X15, e15, st15⟩ := getS (host := "") X13 hx hZ hown (hw _ (List.mem_of_getElem? (i := 24) rfl)) Via.refl e13 S3 (g := (mkF m 15 #[.val (.ref a)] [(.ref a)])) rfl (hb hby d4_15)
      refine own_to (T15.setTop (mkF m 18 #[.val (.ref a)] [(.ref x3), (.ref a)])) (fun t k => st15 t k) ?_
      by_cases c16 : ((.ref a) : Value) = (.ref x3)
      · -- c16 yes
        refine own_to (T15.setTop (mkF m 21 #[.val (.ref a)] [])) (fun t k => XT.acmpNo X15.here hx rfl (hb hby d4_18) rfl rfl rfl (XT.aa_ne_f c16) k) ?_
        refine own_to (T15.setTop (mkF m 22 #[.val (.ref a)] [(.int (1 : Int32))])) (fun t k => XT.iconstV X15.here hx rfl (1 : Int32) (hb hby d4_21) (by decide) k) ?_
        refine own_to (T15.setTop (mkF m 26 #[.val (.ref a)] [(.int (1 : Int32))])) (fun t k => XS.goto X15.here hx rfl (pc0 := 22) (pc' := 26) rfl (hb hby d4_22) (by decide) (by decide) k) ?_
        exact own_retZ X15 hx hret hk (i' := (1 : Int32)) (hb hby d4_26) (by decide) (by decide) (by decide) ⟨by rw [own_isn, if_neg c12, if_neg c14, if_pos c16], N0, e15⟩
      · -- c16 no
        refine own_to (T15.setTop (mkF m 25 #[.val (.ref a)] [])) (fun t k => XT.acmpYes X15.here hx rfl (pc0 := 18) (pc' := 25) rfl (hb hby d4_18) rfl rfl rfl (XT.aa_ne_t c16) (by decide) (by decide) k) ?_
        refine own_to (T15.setTop (mkF m 26 #[.val (.ref a)] [(.int (0 : Int32))])) (fun t k => XT.iconstV X15.here hx rfl (0 : Int32) (hb hby d4_25) (by decide) k) ?_
        exact own_retZ X15 hx hret hk (i' := (0 : Int32)) (hb hby d4_26) (by decide) (by decide) (by decide) ⟨by rw [own_isn, if_neg c12, if_neg c14, if_neg c16], N0, e15⟩
theorem ef_3 (m : MethodId) (x0 : Addr) (x1 : Addr) : entryFrame m #[(.ref x0), (.ref x1)] 2 = mkF m 0 #[.val (.ref x0), .val (.ref x1)] [] := by first | (simp [entryFrame, mkF, argsToLocals, Value.category]; done) | rfl
def Q3 (Z : State) (a b x1 x2 x3 : Addr) (h0 : Heap) (n0 : Nat) (v : Option Value) (h : Heap) (L : List Loc) : Prop := v = some (.int (own_cmp a b x1 x2 x3)) ∧ Fr n0 L ∧ h = h0
set_option maxRecDepth 65536 in
set_option maxHeartbeats 40000000 in
theorem rm3 (l : Launch) (Z : State) (a0 : Array Value) (hw : ∀ d ∈ tables_1, d.before a0 Z = true) (a b x1 x2 x3 : Addr) (h0 : Heap) (n0 : Nat) (Z0 : n0 ≤ h0.size) (S1 : Sta Z h0 "com/example/graticule/graticule/feature/AttributeType" "INTEGER" "Lcom/example/graticule/graticule/feature/AttributeType;" (.ref x1)) (S2 : Sta Z h0 "com/example/graticule/graticule/feature/AttributeType" "LONG" "Lcom/example/graticule/graticule/feature/AttributeType;" (.ref x2)) (S3 : Sta Z h0 "com/example/graticule/graticule/feature/AttributeType" "DOUBLE" "Lcom/example/graticule/graticule/feature/AttributeType;" (.ref x3)) :
    own_Ct l Z (⟨"com/example/graticule/graticule/fes/Values", "comparable", "(Lcom/example/graticule/graticule/feature/AttributeType;Lcom/example/graticule/graticule/feature/AttributeType;)Z"⟩ : MethodName) prog_9_method_2_code 2 (some .boolean) ({ frames := 1, cells := 0, slots := 0, locals := 12 } : Room) #[(.ref a), (.ref b)] h0 (Q3 Z a b x1 x2 x3 h0 n0) := by
  refine own_body pn_3 ?_
  intro p e s m below meth cd s₁ hx hZ hby hml hown hnm hret hk X0 e0
  have N0 := Fr.nil n0
  refine own_to (s₁.setTop (mkF m 0 #[.val (.ref a), .val (.ref b)] [])) (fun t k => castTop (ef_3 m a b) k) ?_
  refine own_to (s₁.setTop (mkF m 1 #[.val (.ref a), .val (.ref b)] [(.ref a)])) (fun t k => XS.aloadN X0.here hx rfl (hb hby d3_0) rfl rfl k) ?_
  refine own_to (s₁.setTop (mkF m 2 #[.val (.ref a), .val (.ref b)] [(.ref b), (.ref a)])) (fun t k => XS.aloadN X0.here hx rfl (hb hby d3_1) rfl rfl k) ?_
  by_cases c11 : ((.ref a) : Value) = (.ref b)
  · -- c11 yes
    refine own_to (s₁.setTop (mkF m 19 #[.val (.ref a), .val (.ref b)] [])) (fun t k => XT.acmpYes X0.here hx rfl (pc0 := 2) (pc' := 19) rfl (hb hby d3_2) rfl rfl rfl (XT.aa_eq_t c11) (by decide) (by decide) k) ?_
    refine own_to (s₁.setTop (mkF m 20 #[.val (.ref a), .val (.ref b)] [(.int (1 : Int32))])) (fun t k => XT.iconstV X0.here hx rfl (1 : Int32) (hb hby d3_19) (by decide) k) ?_
    refine own_to (s₁.setTop (mkF m 24 #[.val (.ref a), .val (.ref b)] [(.int (1 : Int32))])) (fun t k => XS.goto X0.here hx rfl (pc0 := 20) (pc' := 24) rfl (hb hby d3_20) (by decide) (by decide) k) ?_
    exact own_retZ X0 hx hret hk (i' := (1 : Int32)) (hb hby d3_24) (by decide) (by decide) (by decide) ⟨by rw [own_cmp, if_pos c11], N0, e0⟩
  · -- c11 no
    refine own_to (s₁.setTop (mkF m 5 #[.val (.ref a), .val (.ref b)] [])) (fun t k => XT.acmpNo X0.here hx rfl (hb hby d3_2) rfl rfl rfl (XT.aa_eq_f c11) k) ?_
    refine own_to (s₁.setTop (mkF m 6 #[.val (.ref a), .val (.ref b)] [(.ref a)])) (fun t k => XS.aloadN X0.here hx rfl (hb hby d3_5) rfl rfl k) ?_
    obtain ⟨v12, T12, L12, X12, hQ12, st12⟩ := own_callS X0 hx hZ hown (hw _ (List.mem_of_getElem? (i := 17) rfl)) (hw _ (List.mem_of_getElem? (i := 18) rfl)) (hw _ (List.mem_of_getElem? (i := 19) rfl)) (hw _ (List.mem_of_getElem? (i := 15) rfl)) (by decide) e0 (argsL := [(.ref a)]) (rest := []) (rm4 l Z a0 hw a x1 x2 x3 h0 n0 Z0 S1 S2 S3) (by decide) (W := 0) (by decide) (by decide) (by decide) pd_4 rfl (pc := 6) (Ls := #[.val (.ref a), .val (.ref b)]) (by rw [hml]; rfl) (Nat.le_of_eq rfl) (hb hby d3_6)
    obtain ⟨rfl, M12, e12⟩ := hQ12
    have N12 := Fr.app N0 M12
    refine own_to (T12.setTop (mkF m 9 #[.val (.ref a), .val (.ref b)] [(.int (own_isn a x1 x2 x3))])) (fun t k => st12 t k) ?_
    by_cases c13 : (own_isn a x1 x2 x3) = (0 : Int32)
    · -- c13 yes
      refine own_to (T12.setTop (mkF m 23 #[.val (.ref a), .val (.ref b)] [])) (fun t k => XS.ifYes X12.here hx rfl (pc0 := 9) (pc' := 23) rfl (hb hby d3_9) rfl ((if0 _ _).trans (teq c13).1) (by decide) (by decide) k) ?_
      refine own_to (T12.setTop (mkF m 24 #[.val (.ref a), .val (.ref b)] [(.int (0 : Int32))])) (fun t k => XT.iconstV X12.here hx rfl (0 : Int32) (hb hby d3_23) (by decide) k) ?_
      exact own_retZ X12 hx hret hk (i' := (0 : Int32)) (hb hby d3_24) (by decide) (by decide) (by decide) ⟨by rw [own_cmp, if_neg c11, if_pos c13], N12, e12⟩
    · -- c13 no
      refine own_to (T12.setTop (mkF m 12 #[.val (.ref a), .val (.ref b)] [])) (fun t k => XS.ifNo X12.here hx rfl (hb hby d3_9) rfl ((if0 _ _).trans (feq c13).1) k) ?_
      refine own_to (T12.setTop (mkF m 13 #[.val (.ref a), .val (.ref b)] [(.ref b)])) (fun t k => XS.aloadN X12.here hx rfl (hb hby d3_12) rfl rfl k) ?_
      obtain ⟨v14, T14, L14, X14, hQ14, st14⟩ := own_callS X12 hx hZ hown (hw _ (List.mem_of_getElem? (i := 17) rfl)) (hw _ (List.mem_of_getElem? (i := 18) rfl)) (hw _ (List.mem_of_getElem? (i := 19) rfl)) (hw _ (List.mem_of_getElem? (i := 15) rfl)) (by decide) e12 (argsL := [(.ref b)]) (rest := []) (rm4 l Z a0 hw b x1 x2 x3 h0 n0 Z0 S1 S2 S3) (by decide) (W := 0) (by decide) (by decide) (by decide) pd_4 rfl (pc := 13) (Ls := #[.val (.ref a), .val (.ref b)]) (by rw [hml]; rfl) (Nat.le_of_eq rfl) (hb hby d3_13)
      obtain ⟨rfl, M14, e14⟩ := hQ14
      have N14 := Fr.app N12 M14
      refine own_to (T14.setTop (mkF m 16 #[.val (.ref a), .val (.ref b)] [(.int (own_isn b x1 x2 x3))])) (fun t k => st14 t k) ?_
      by_cases c15 : (own_isn b x1 x2 x3) = (0 : Int32)
      · -- c15 yes
        refine own_to (T14.setTop (mkF m 23 #[.val (.ref a), .val (.ref b)] [])) (fun t k => XS.ifYes X14.here hx rfl (pc0 := 16) (pc' := 23) rfl (hb hby d3_16) rfl ((if0 _ _).trans (teq c15).1) (by decide) (by decide) k) ?_
        refine own_to (T14.setTop (mkF m 24 #[.val (.ref a), .val (.ref b)] [(.int (0 : Int32))])) (fun t k => XT.iconstV X14.here hx rfl (0 : Int32) (hb hby d3_23) (by decide) k) ?_
        exact own_retZ X14 hx hret hk (i' := (0 : Int32)) (hb hby d3_24) (by decide) (by decide) (by decide) ⟨by rw [own_cmp, if_neg c11, if_neg c13, if_pos c15], N14, e14⟩
      · -- c15 no
        refine own_to (T14.setTop (mkF m 19 #[.val (.ref a), .val (.ref b)] [])) (fun t k => XS.ifNo X14.here hx rfl (hb hby d3_16) rfl ((if0 _ _).trans (feq c15).1) k) ?_
        refine own_to (T14.setTop (mkF m 20 #[.val (.ref a), .val (.ref b)] [(.int (1 : Int32))])) (fun t k => XT.iconstV X14.here hx rfl (1 : Int32) (hb hby d3_19) (by decide) k) ?_
        refine own_to (T14.setTop (mkF m 24 #[.val (.ref a), .val (.ref b)] [(.int (1 : Int32))])) (fun t k => XS.goto X14.here hx rfl (pc0 := 20) (pc' := 24) rfl (hb hby d3_20) (by decide) (by decide) k) ?_
        exact own_retZ X14 hx hret hk (i' := (1 : Int32)) (hb hby d3_24) (by decide) (by decide) (by decide) ⟨by rw [own_cmp, if_neg c11, if_neg c13, if_neg c15], N14, e14⟩
theorem ef_0 (m : MethodId) (x0 : Int32) (x1 : Int32) : entryFrame m #[(.int x0), (.int x1)] maxLocals = mkF m 0 #[.val (.int x0), .val (.int x1), .unset, .unset, .unset, .unset, .unset] [] := by first | (simp [entryFrame, mkF, argsToLocals, Value.category, maxLocals]; done) | rfl
def Q0 (Z : State) (u1 u2 : Int32) (x0 x1 x2 x3 x4 x5 : Addr) (h0 : Heap) (n0 : Nat) (v : Option Value) (h : Heap) (L : List Loc) : Prop := v = some (.int 1) ∧ Fr n0 L
set_option maxRecDepth 65536 in
set_option maxHeartbeats 40000000 in
theorem rm0 (l : Launch) (Z : State) (a0 : Array Value) (hw : ∀ d ∈ tables_1, d.before a0 Z = true) (u1 u2 : Int32) (x0 x1 x2 x3 x4 x5 : Addr) (h0 : Heap) (n0 : Nat) (Z0 : n0 ≤ h0.size) (S0 : Sta Z h0 "com/example/graticule/graticule/feature/AttributeType" "STRING" "Lcom/example/graticule/graticule/feature/AttributeType;" (.ref x0)) (S1 : Sta Z h0 "com/example/graticule/graticule/feature/AttributeType" "INTEGER" "Lcom/example/graticule/graticule/feature/AttributeType;" (.ref x1)) (S2 : Sta Z h0 "com/example/graticule/graticule/feature/AttributeType" "LONG" "Lcom/example/graticule/graticule/feature/AttributeType;" (.ref x2)) (S3 : Sta Z h0 "com/example/graticule/graticule/feature/AttributeType" "DOUBLE" "Lcom/example/graticule/graticule/feature/AttributeType;" (.ref x3)) (S4 : Sta Z h0 "com/example/graticule/graticule/feature/AttributeType" "BOOLEAN" "Lcom/example/graticule/graticule/feature/AttributeType;" (.ref x4)) (S5 : Sta Z h0 "com/example/graticule/graticule/feature/AttributeType" "DATE" "Lcom/example/graticule/graticule/feature/AttributeType;" (.ref x5)) (n01 : x0 ≠ x1) (n02 : x0 ≠ x2) (n03 : x0 ≠ x3) (n04 : x0 ≠ x4) (n05 : x0 ≠ x5) (n12 : x1 ≠ x2) (n13 : x1 ≠ x3) (n14 : x1 ≠ x4) (n15 : x1 ≠ x5) (n23 : x2 ≠ x3) (n24 : x2 ≠ x4) (n25 : x2 ≠ x5) (n34 : x3 ≠ x4) (n35 : x3 ≠ x5) (n45 : x4 ≠ x5) :
    own_Ct l Z x code maxLocals ret room_1 #[(.int u1), (.int u2)] h0 (Q0 Z u1 u2 x0 x1 x2 x3 x4 x5 h0 n0) := by
  refine own_body pn_0 ?_
  intro p e s m below meth cd s₁ hx hZ hby hml hown hnm hret hk X0 e0
  have N0 := Fr.nil n0
  refine own_to (s₁.setTop (mkF m 0 #[.val (.int u1), .val (.int u2), .unset, .unset, .unset, .unset, .unset] [])) (fun t k => castTop (ef_0 m u1 u2) k) ?_
  refine own_to (s₁.setTop (mkF m 1 #[.val (.int u1), .val (.int u2), .unset, .unset, .unset, .unset, .unset] [(.int u1)])) (fun t k => XS.iloadN X0.here hx rfl (hb hby at_0) rfl k) ?_
  refine own_to (s₁.setTop (mkF m 3 #[.val (.int u1), .val (.int u2), .unset, .unset, .unset, .unset, .unset] [(.int (2147483647 : Int32)), (.int u1)])) (fun t k => X0.ldcI hx hown (mvT hZ (hw _ (List.mem_of_getElem? (i := 0) rfl))) rfl (hb hby at_1) k) ?_
  refine own_to (s₁.setTop (mkF m 4 #[.val (.int u1), .val (.int u2), .unset, .unset, .unset, .unset, .unset] [(.int (u1 &&& (2147483647 : Int32)))])) (fun t k => XS.iand X0.here hx rfl (hb hby at_3) rfl k) ?_
  refine own_to (s₁.setTop (mkF m 6 #[.val (.int u1), .val (.int u2), .unset, .unset, .unset, .unset, .unset] [(.int (6 : Int32)), (.int (u1 &&& (2147483647 : Int32)))])) (fun t k => XT.bipushV X0.here hx rfl (6 : Int32) (hb hby at_4) (by decide) k) ?_
  refine own_to (s₁.setTop (mkF m 7 #[.val (.int u1), .val (.int u2), .unset, .unset, .unset, .unset, .unset] [(.int ((u1 &&& (2147483647 : Int32)) % (6 : Int32)))])) (fun t k => iremM X0 hx rfl (hb hby at_6) rfl (by decide) k) ?_
  refine own_to (s₁.setTop (mkF m 8 #[.val (.int u1), .val (.int u2), .val (.int ((u1 &&& (2147483647 : Int32)) % (6 : Int32))), .unset, .unset, .unset, .unset] [])) (fun t k => XS.istoreN X0.here hx rfl (hb hby at_7) rfl (l' := #[.val (.int u1), .val (.int u2), .val (.int ((u1 &&& (2147483647 : Int32)) % (6 : Int32))), .unset, .unset, .unset, .unset]) rfl k) ?_
  refine own_to (s₁.setTop (mkF m 9 #[.val (.int u1), .val (.int u2), .val (.int ((u1 &&& (2147483647 : Int32)) % (6 : Int32))), .unset, .unset, .unset, .unset] [(.int u2)])) (fun t k => XS.iloadN X0.here hx rfl (hb hby at_8) rfl k) ?_
  refine own_to (s₁.setTop (mkF m 11 #[.val (.int u1), .val (.int u2), .val (.int ((u1 &&& (2147483647 : Int32)) % (6 : Int32))), .unset, .unset, .unset, .unset] [(.int (2147483647 : Int32)), (.int u2)])) (fun t k => X0.ldcI hx hown (mvT hZ (hw _ (List.mem_of_getElem? (i := 0) rfl))) rfl (hb hby at_9) k) ?_
  refine own_to (s₁.setTop (mkF m 12 #[.val (.int u1), .val (.int u2), .val (.int ((u1 &&& (2147483647 : Int32)) % (6 : Int32))), .unset, .unset, .unset, .unset] [(.int (u2 &&& (2147483647 : Int32)))])) (fun t k => XS.iand X0.here hx rfl (hb hby at_11) rfl k) ?_
  refine own_to (s₁.setTop (mkF m 14 #[.val (.int u1), .val (.int u2), .val (.int ((u1 &&& (2147483647 : Int32)) % (6 : Int32))), .unset, .unset, .unset, .unset] [(.int (6 : Int32)), (.int (u2 &&& (2147483647 : Int32)))])) (fun t k => XT.bipushV X0.here hx rfl (6 : Int32) (hb hby at_12) (by decide) k) ?_
  refine own_to (s₁.setTop (mkF m 15 #[.val (.int u1), .val (.int u2), .val (.int ((u1 &&& (2147483647 : Int32)) % (6 : Int32))), .unset, .unset, .unset, .unset] [(.int ((u2 &&& (2147483647 : Int32)) % (6 : Int32)))])) (fun t k => iremM X0 hx rfl (hb hby at_14) rfl (by decide) k) ?_
  refine own_to (s₁.setTop (mkF m 16 #[.val (.int u1), .val (.int u2), .val (.int ((u1 &&& (2147483647 : Int32)) % (6 : Int32))), .val (.int ((u2 &&& (2147483647 : Int32)) % (6 : Int32))), .unset, .unset, .unset] [])) (fun t k => XS.istoreN X0.here hx rfl (hb hby at_15) rfl (l' := #[.val (.int u1), .val (.int u2), .val (.int ((u1 &&& (2147483647 : Int32)) % (6 : Int32))), .val (.int ((u2 &&& (2147483647 : Int32)) % (6 : Int32))), .unset, .unset, .unset]) rfl k) ?_
  refine own_to (s₁.setTop (mkF m 17 #[.val (.int u1), .val (.int u2), .val (.int ((u1 &&& (2147483647 : Int32)) % (6 : Int32))), .val (.int ((u2 &&& (2147483647 : Int32)) % (6 : Int32))), .unset, .unset, .unset] [(.int ((u1 &&& (2147483647 : Int32)) % (6 : Int32)))])) (fun t k => XS.iloadN X0.here hx rfl (hb hby at_16) rfl k) ?_
  obtain ⟨v11, T11, L11, X11, hQ11, st11⟩ := own_callS X0 hx hZ hown (hw _ (List.mem_of_getElem? (i := 1) rfl)) (hw _ (List.mem_of_getElem? (i := 2) rfl)) (hw _ (List.mem_of_getElem? (i := 4) rfl)) (hw _ (List.mem_of_getElem? (i := 3) rfl)) (by decide) e0 (argsL := [(.int ((u1 &&& (2147483647 : Int32)) % (6 : Int32)))]) (rest := []) (rm1 l Z a0 hw ((u1 &&& (2147483647 : Int32)) % (6 : Int32)) x0 x1 x2 x3 x4 x5 h0 n0 Z0 S0 S1 S2 S3 S4 S5) (by decide) (W := 0) (by decide) (by decide) (by decide) pd_1 rfl (pc := 17) (Ls := #[.val (.int u1), .val (.int u2), .val (.int ((u1 &&& (2147483647 : Int32)) % (6 : Int32))), .val (.int ((u2 &&& (2147483647 : Int32)) % (6 : Int32))), .unset, .unset, .unset]) (by rw [hml]; rfl) (Nat.le_of_eq rfl) (hb hby at_17)
  obtain ⟨rfl, M11, e11⟩ := hQ11
  have N11 := Fr.app N0 M11
  refine own_to (T11.setTop (mkF m 20 #[.val (.int u1), .val (.int u2), .val (.int ((u1 &&& (2147483647 : Int32)) % (6 : Int32))), .val (.int ((u2 &&& (2147483647 : Int32)) % (6 : Int32))), .unset, .unset, .unset] [(.ref (own_ty ((u1 &&& (2147483647 : Int32)) % (6 : Int32)) x0 x1 x2 x3 x4 x5))])) (fun t k => st11 t k) ?_
  refine own_to (T11.setTop (mkF m 22 #[.val (.int u1), .val (.int u2), .val (.int ((u1 &&& (2147483647 : Int32)) % (6 : Int32))), .val (.int ((u2 &&& (2147483647 : Int32)) % (6 : Int32))), .val (.ref (own_ty ((u1 &&& (2147483647 : Int32)) % (6 : Int32)) x0 x1 x2 x3 x4 x5)), .unset, .unset] [])) (fun t k => XS.astore X11.here hx rfl (hb hby at_20) rfl rfl (l' := #[.val (.int u1), .val (.int u2), .val (.int ((u1 &&& (2147483647 : Int32)) % (6 : Int32))), .val (.int ((u2 &&& (2147483647 : Int32)) % (6 : Int32))), .val (.ref (own_ty ((u1 &&& (2147483647 : Int32)) % (6 : Int32)) x0 x1 x2 x3 x4 x5)), .unset, .unset]) rfl k) ?_
  refine own_to (T11.setTop (mkF m 23 #[.val (.int u1), .val (.int u2), .val (.int ((u1 &&& (2147483647 : Int32)) % (6 : Int32))), .val (.int ((u2 &&& (2147483647 : Int32)) % (6 : Int32))), .val (.ref (own_ty ((u1 &&& (2147483647 : Int32)) % (6 : Int32)) x0 x1 x2 x3 x4 x5)), .unset, .unset] [(.int ((u2 &&& (2147483647 : Int32)) % (6 : Int32)))])) (fun t k => XS.iloadN X11.here hx rfl (hb hby at_22) rfl k) ?_
  obtain ⟨v12, T12, L12, X12, hQ12, st12⟩ := own_callS X11 hx hZ hown (hw _ (List.mem_of_getElem? (i := 1) rfl)) (hw _ (List.mem_of_getElem? (i := 2) rfl)) (hw _ (List.mem_of_getElem? (i := 4) rfl)) (hw _ (List.mem_of_getElem? (i := 3) rfl)) (by decide) e11 (argsL := [(.int ((u2 &&& (2147483647 : Int32)) % (6 : Int32)))]) (rest := []) (rm1 l Z a0 hw ((u2 &&& (2147483647 : Int32)) % (6 : Int32)) x0 x1 x2 x3 x4 x5 h0 n0 Z0 S0 S1 S2 S3 S4 S5) (by decide) (W := 0) (by decide) (by decide) (by decide) pd_1 rfl (pc := 23) (Ls := #[.val (.int u1), .val (.int u2), .val (.int ((u1 &&& (2147483647 : Int32)) % (6 : Int32))), .val (.int ((u2 &&& (2147483647 : Int32)) % (6 : Int32))), .val (.ref (own_ty ((u1 &&& (2147483647 : Int32)) % (6 : Int32)) x0 x1 x2 x3 x4 x5)), .unset, .unset]) (by rw [hml]; rfl) (Nat.le_of_eq rfl) (hb hby at_23)
  obtain ⟨rfl, M12, e12⟩ := hQ12
  have N12 := Fr.app N11 M12
  refine own_to (T12.setTop (mkF m 26 #[.val (.int u1), .val (.int u2), .val (.int ((u1 &&& (2147483647 : Int32)) % (6 : Int32))), .val (.int ((u2 &&& (2147483647 : Int32)) % (6 : Int32))), .val (.ref (own_ty ((u1 &&& (2147483647 : Int32)) % (6 : Int32)) x0 x1 x2 x3 x4 x5)), .unset, .unset] [(.ref (own_ty ((u2 &&& (2147483647 : Int32)) % (6 : Int32)) x0 x1 x2 x3 x4 x5))])) (fun t k => st12 t k) ?_
  refine own_to (T12.setTop (mkF m 28 #[.val (.int u1), .val (.int u2), .val (.int ((u1 &&& (2147483647 : Int32)) % (6 : Int32))), .val (.int ((u2 &&& (2147483647 : Int32)) % (6 : Int32))), .val (.ref (own_ty ((u1 &&& (2147483647 : Int32)) % (6 : Int32)) x0 x1 x2 x3 x4 x5)), .val (.ref (own_ty ((u2 &&& (2147483647 : Int32)) % (6 : Int32)) x0 x1 x2 x3 x4 x5)), .unset] [])) (fun t k => XS.astore X12.here hx rfl (hb hby at_26) rfl rfl (l' := #[.val (.int u1), .val (.int u2), .val (.int ((u1 &&& (2147483647 : Int32)) % (6 : Int32))), .val (.int ((u2 &&& (2147483647 : Int32)) % (6 : Int32))), .val (.ref (own_ty ((u1 &&& (2147483647 : Int32)) % (6 : Int32)) x0 x1 x2 x3 x4 x5)), .val (.ref (own_ty ((u2 &&& (2147483647 : Int32)) % (6 : Int32)) x0 x1 x2 x3 x4 x5)), .unset]) rfl k) ?_
  refine own_to (T12.setTop (mkF m 29 #[.val (.int u1), .val (.int u2), .val (.int ((u1 &&& (2147483647 : Int32)) % (6 : Int32))), .val (.int ((u2 &&& (2147483647 : Int32)) % (6 : Int32))), .val (.ref (own_ty ((u1 &&& (2147483647 : Int32)) % (6 : Int32)) x0 x1 x2 x3 x4 x5)), .val (.ref (own_ty ((u2 &&& (2147483647 : Int32)) % (6 : Int32)) x0 x1 x2 x3 x4 x5)), .unset] [(.int ((u1 &&& (2147483647 : Int32)) % (6 : Int32)))])) (fun t k => XS.iloadN X12.here hx rfl (hb hby at_28) rfl k) ?_
  obtain ⟨v13, T13, L13, X13, hQ13, st13⟩ := own_callS X12 hx hZ hown (hw _ (List.mem_of_getElem? (i := 10) rfl)) (hw _ (List.mem_of_getElem? (i := 11) rfl)) (hw _ (List.mem_of_getElem? (i := 12) rfl)) (hw _ (List.mem_of_getElem? (i := 3) rfl)) (by decide) e12 (argsL := [(.int ((u1 &&& (2147483647 : Int32)) % (6 : Int32)))]) (rest := []) (rm2 l Z a0 hw ((u1 &&& (2147483647 : Int32)) % (6 : Int32)) h0 n0 Z0) (by decide) (W := 0) (by decide) (by decide) (by decide) pd_2 rfl (pc := 29) (Ls := #[.val (.int u1), .val (.int u2), .val (.int ((u1 &&& (2147483647 : Int32)) % (6 : Int32))), .val (.int ((u2 &&& (2147483647 : Int32)) % (6 : Int32))), .val (.ref (own_ty ((u1 &&& (2147483647 : Int32)) % (6 : Int32)) x0 x1 x2 x3 x4 x5)), .val (.ref (own_ty ((u2 &&& (2147483647 : Int32)) % (6 : Int32)) x0 x1 x2 x3 x4 x5)), .unset]) (by rw [hml]; rfl) (Nat.le_of_eq rfl) (hb hby at_29)
  obtain ⟨rfl, M13, e13⟩ := hQ13
  have N13 := Fr.app N12 M13
  refine own_to (T13.setTop (mkF m 32 #[.val (.int u1), .val (.int u2), .val (.int ((u1 &&& (2147483647 : Int32)) % (6 : Int32))), .val (.int ((u2 &&& (2147483647 : Int32)) % (6 : Int32))), .val (.ref (own_ty ((u1 &&& (2147483647 : Int32)) % (6 : Int32)) x0 x1 x2 x3 x4 x5)), .val (.ref (own_ty ((u2 &&& (2147483647 : Int32)) % (6 : Int32)) x0 x1 x2 x3 x4 x5)), .unset] [(.int (own_kd ((u1 &&& (2147483647 : Int32)) % (6 : Int32))))])) (fun t k => st13 t k) ?_
  refine own_to (T13.setTop (mkF m 33 #[.val (.int u1), .val (.int u2), .val (.int ((u1 &&& (2147483647 : Int32)) % (6 : Int32))), .val (.int ((u2 &&& (2147483647 : Int32)) % (6 : Int32))), .val (.ref (own_ty ((u1 &&& (2147483647 : Int32)) % (6 : Int32)) x0 x1 x2 x3 x4 x5)), .val (.ref (own_ty ((u2 &&& (2147483647 : Int32)) % (6 : Int32)) x0 x1 x2 x3 x4 x5)), .unset] [(.int ((u2 &&& (2147483647 : Int32)) % (6 : Int32))), (.int (own_kd ((u1 &&& (2147483647 : Int32)) % (6 : Int32))))])) (fun t k => XS.iloadN X13.here hx rfl (hb hby at_32) rfl k) ?_
  obtain ⟨v14, T14, L14, X14, hQ14, st14⟩ := own_callS X13 hx hZ hown (hw _ (List.mem_of_getElem? (i := 10) rfl)) (hw _ (List.mem_of_getElem? (i := 11) rfl)) (hw _ (List.mem_of_getElem? (i := 12) rfl)) (hw _ (List.mem_of_getElem? (i := 3) rfl)) (by decide) e13 (argsL := [(.int ((u2 &&& (2147483647 : Int32)) % (6 : Int32)))]) (rest := [(.int (own_kd ((u1 &&& (2147483647 : Int32)) % (6 : Int32))))]) (rm2 l Z a0 hw ((u2 &&& (2147483647 : Int32)) % (6 : Int32)) h0 n0 Z0) (by decide) (W := 1) (by decide) (by decide) (by decide) pd_2 rfl (pc := 33) (Ls := #[.val (.int u1), .val (.int u2), .val (.int ((u1 &&& (2147483647 : Int32)) % (6 : Int32))), .val (.int ((u2 &&& (2147483647 : Int32)) % (6 : Int32))), .val (.ref (own_ty ((u1 &&& (2147483647 : Int32)) % (6 : Int32)) x0 x1 x2 x3 x4 x5)), .val (.ref (own_ty ((u2 &&& (2147483647 : Int32)) % (6 : Int32)) x0 x1 x2 x3 x4 x5)), .unset]) (by rw [hml]; rfl) (Nat.le_of_eq rfl) (hb hby at_33)
  obtain ⟨rfl, M14, e14⟩ := hQ14
  have N14 := Fr.app N13 M14
  refine own_to (T14.setTop (mkF m 36 #[.val (.int u1), .val (.int u2), .val (.int ((u1 &&& (2147483647 : Int32)) % (6 : Int32))), .val (.int ((u2 &&& (2147483647 : Int32)) % (6 : Int32))), .val (.ref (own_ty ((u1 &&& (2147483647 : Int32)) % (6 : Int32)) x0 x1 x2 x3 x4 x5)), .val (.ref (own_ty ((u2 &&& (2147483647 : Int32)) % (6 : Int32)) x0 x1 x2 x3 x4 x5)), .unset] [(.int (own_kd ((u2 &&& (2147483647 : Int32)) % (6 : Int32)))), (.int (own_kd ((u1 &&& (2147483647 : Int32)) % (6 : Int32))))])) (fun t k => st14 t k) ?_
  by_cases c15 : (own_kd ((u1 &&& (2147483647 : Int32)) % (6 : Int32))) = (own_kd ((u2 &&& (2147483647 : Int32)) % (6 : Int32)))
  · -- c15 yes
    refine own_to (T14.setTop (mkF m 39 #[.val (.int u1), .val (.int u2), .val (.int ((u1 &&& (2147483647 : Int32)) % (6 : Int32))), .val (.int ((u2 &&& (2147483647 : Int32)) % (6 : Int32))), .val (.ref (own_ty ((u1 &&& (2147483647 : Int32)) % (6 : Int32)) x0 x1 x2 x3 x4 x5)), .val (.ref (own_ty ((u2 &&& (2147483647 : Int32)) % (6 : Int32)) x0 x1 x2 x3 x4 x5)), .unset] [])) (fun t k => XS.icmpNo X14.here hx rfl (hb hby at_36) rfl (teq c15).2 k) ?_
    refine own_to (T14.setTop (mkF m 40 #[.val (.int u1), .val (.int u2), .val (.int ((u1 &&& (2147483647 : Int32)) % (6 : Int32))), .val (.int ((u2 &&& (2147483647 : Int32)) % (6 : Int32))), .val (.ref (own_ty ((u1 &&& (2147483647 : Int32)) % (6 : Int32)) x0 x1 x2 x3 x4 x5)), .val (.ref (own_ty ((u2 &&& (2147483647 : Int32)) % (6 : Int32)) x0 x1 x2 x3 x4 x5)), .unset] [(.int (1 : Int32))])) (fun t k => XT.iconstV X14.here hx rfl (1 : Int32) (hb hby at_39) (by decide) k) ?_
    refine own_to (T14.setTop (mkF m 44 #[.val (.int u1), .val (.int u2), .val (.int ((u1 &&& (2147483647 : Int32)) % (6 : Int32))), .val (.int ((u2 &&& (2147483647 : Int32)) % (6 : Int32))), .val (.ref (own_ty ((u1 &&& (2147483647 : Int32)) % (6 : Int32)) x0 x1 x2 x3 x4 x5)), .val (.ref (own_ty ((u2 &&& (2147483647 : Int32)) % (6 : Int32)) x0 x1 x2 x3 x4 x5)), .unset] [(.int (1 : Int32))])) (fun t k => XS.goto X14.here hx rfl (pc0 := 40) (pc' := 44) rfl (hb hby at_40) (by decide) (by decide) k) ?_
    refine own_to (T14.setTop (mkF m 46 #[.val (.int u1), .val (.int u2), .val (.int ((u1 &&& (2147483647 : Int32)) % (6 : Int32))), .val (.int ((u2 &&& (2147483647 : Int32)) % (6 : Int32))), .val (.ref (own_ty ((u1 &&& (2147483647 : Int32)) % (6 : Int32)) x0 x1 x2 x3 x4 x5)), .val (.ref (own_ty ((u2 &&& (2147483647 : Int32)) % (6 : Int32)) x0 x1 x2 x3 x4 x5)), .val (.int (1 : Int32))] [])) (fun t k => XS.istore X14.here hx rfl (hb hby at_44) rfl (l' := #[.val (.int u1), .val (.int u2), .val (.int ((u1 &&& (2147483647 : Int32)) % (6 : Int32))), .val (.int ((u2 &&& (2147483647 : Int32)) % (6 : Int32))), .val (.ref (own_ty ((u1 &&& (2147483647 : Int32)) % (6 : Int32)) x0 x1 x2 x3 x4 x5)), .val (.ref (own_ty ((u2 &&& (2147483647 : Int32)) % (6 : Int32)) x0 x1 x2 x3 x4 x5)), .val (.int (1 : Int32))]) rfl k) ?_
    refine own_to (T14.setTop (mkF m 48 #[.val (.int u1), .val (.int u2), .val (.int ((u1 &&& (2147483647 : Int32)) % (6 : Int32))), .val (.int ((u2 &&& (2147483647 : Int32)) % (6 : Int32))), .val (.ref (own_ty ((u1 &&& (2147483647 : Int32)) % (6 : Int32)) x0 x1 x2 x3 x4 x5)), .val (.ref (own_ty ((u2 &&& (2147483647 : Int32)) % (6 : Int32)) x0 x1 x2 x3 x4 x5)), .val (.int (1 : Int32))] [(.ref (own_ty ((u1 &&& (2147483647 : Int32)) % (6 : Int32)) x0 x1 x2 x3 x4 x5))])) (fun t k => XS.aload X14.here hx rfl (hb hby at_46) rfl rfl k) ?_
    refine own_to (T14.setTop (mkF m 50 #[.val (.int u1), .val (.int u2), .val (.int ((u1 &&& (2147483647 : Int32)) % (6 : Int32))), .val (.int ((u2 &&& (2147483647 : Int32)) % (6 : Int32))), .val (.ref (own_ty ((u1 &&& (2147483647 : Int32)) % (6 : Int32)) x0 x1 x2 x3 x4 x5)), .val (.ref (own_ty ((u2 &&& (2147483647 : Int32)) % (6 : Int32)) x0 x1 x2 x3 x4 x5)), .val (.int (1 : Int32))] [(.ref (own_ty ((u2 &&& (2147483647 : Int32)) % (6 : Int32)) x0 x1 x2 x3 x4 x5)), (.ref (own_ty ((u1 &&& (2147483647 : Int32)) % (6 : Int32)) x0 x1 x2 x3 x4 x5))])) (fun t k => XS.aload X14.here hx rfl (hb hby at_48) rfl rfl k) ?_
    obtain ⟨v16, T16, L16, X16, hQ16, st16⟩ := own_callS X14 hx hZ hown (hw _ (List.mem_of_getElem? (i := 13) rfl)) (hw _ (List.mem_of_getElem? (i := 14) rfl)) (hw _ (List.mem_of_getElem? (i := 16) rfl)) (hw _ (List.mem_of_getElem? (i := 15) rfl)) (by decide) e14 (argsL := [(.ref (own_ty ((u1 &&& (2147483647 : Int32)) % (6 : Int32)) x0 x1 x2 x3 x4 x5)), (.ref (own_ty ((u2 &&& (2147483647 : Int32)) % (6 : Int32)) x0 x1 x2 x3 x4 x5))]) (rest := []) (rm3 l Z a0 hw (own_ty ((u1 &&& (2147483647 : Int32)) % (6 : Int32)) x0 x1 x2 x3 x4 x5) (own_ty ((u2 &&& (2147483647 : Int32)) % (6 : Int32)) x0 x1 x2 x3 x4 x5) x1 x2 x3 h0 n0 Z0 S1 S2 S3) (by decide) (W := 0) (by decide) (by decide) (by decide) pd_3 rfl (pc := 50) (Ls := #[.val (.int u1), .val (.int u2), .val (.int ((u1 &&& (2147483647 : Int32)) % (6 : Int32))), .val (.int ((u2 &&& (2147483647 : Int32)) % (6 : Int32))), .val (.ref (own_ty ((u1 &&& (2147483647 : Int32)) % (6 : Int32)) x0 x1 x2 x3 x4 x5)), .val (.ref (own_ty ((u2 &&& (2147483647 : Int32)) % (6 : Int32)) x0 x1 x2 x3 x4 x5)), .val (.int (1 : Int32))]) (by rw [hml]; rfl) (Nat.le_of_eq rfl) (hb hby at_50)
    obtain ⟨rfl, M16, e16⟩ := hQ16
    have N16 := Fr.app N14 M16
    refine own_to (T16.setTop (mkF m 53 #[.val (.int u1), .val (.int u2), .val (.int ((u1 &&& (2147483647 : Int32)) % (6 : Int32))), .val (.int ((u2 &&& (2147483647 : Int32)) % (6 : Int32))), .val (.ref (own_ty ((u1 &&& (2147483647 : Int32)) % (6 : Int32)) x0 x1 x2 x3 x4 x5)), .val (.ref (own_ty ((u2 &&& (2147483647 : Int32)) % (6 : Int32)) x0 x1 x2 x3 x4 x5)), .val (.int (1 : Int32))] [(.int (own_cmp (own_ty ((u1 &&& (2147483647 : Int32)) % (6 : Int32)) x0 x1 x2 x3 x4 x5) (own_ty ((u2 &&& (2147483647 : Int32)) % (6 : Int32)) x0 x1 x2 x3 x4 x5) x1 x2 x3))])) (fun t k => st16 t k) ?_
    refine own_to (T16.setTop (mkF m 55 #[.val (.int u1), .val (.int u2), .val (.int ((u1 &&& (2147483647 : Int32)) % (6 : Int32))), .val (.int ((u2 &&& (2147483647 : Int32)) % (6 : Int32))), .val (.ref (own_ty ((u1 &&& (2147483647 : Int32)) % (6 : Int32)) x0 x1 x2 x3 x4 x5)), .val (.ref (own_ty ((u2 &&& (2147483647 : Int32)) % (6 : Int32)) x0 x1 x2 x3 x4 x5)), .val (.int (1 : Int32))] [(.int (1 : Int32)), (.int (own_cmp (own_ty ((u1 &&& (2147483647 : Int32)) % (6 : Int32)) x0 x1 x2 x3 x4 x5) (own_ty ((u2 &&& (2147483647 : Int32)) % (6 : Int32)) x0 x1 x2 x3 x4 x5) x1 x2 x3))])) (fun t k => XS.iload X16.here hx rfl (hb hby at_53) rfl k) ?_
    refine own_to (T16.setTop (mkF m 58 #[.val (.int u1), .val (.int u2), .val (.int ((u1 &&& (2147483647 : Int32)) % (6 : Int32))), .val (.int ((u2 &&& (2147483647 : Int32)) % (6 : Int32))), .val (.ref (own_ty ((u1 &&& (2147483647 : Int32)) % (6 : Int32)) x0 x1 x2 x3 x4 x5)), .val (.ref (own_ty ((u2 &&& (2147483647 : Int32)) % (6 : Int32)) x0 x1 x2 x3 x4 x5)), .val (.int (1 : Int32))] [])) (fun t k => XS.icmpNo X16.here hx rfl (hb hby at_55) rfl (teq ((own_plain _ _ x0 x1 x2 x3 x4 x5 n01 n02 n03 n04 n05 n12 n13 n14 n15 n23 n24 n25 n34 n35 n45 (own_six _) (own_six _)).trans (if_pos c15))).2 k) ?_
    refine own_to (T16.setTop (mkF m 59 #[.val (.int u1), .val (.int u2), .val (.int ((u1 &&& (2147483647 : Int32)) % (6 : Int32))), .val (.int ((u2 &&& (2147483647 : Int32)) % (6 : Int32))), .val (.ref (own_ty ((u1 &&& (2147483647 : Int32)) % (6 : Int32)) x0 x1 x2 x3 x4 x5)), .val (.ref (own_ty ((u2 &&& (2147483647 : Int32)) % (6 : Int32)) x0 x1 x2 x3 x4 x5)), .val (.int (1 : Int32))] [(.int (1 : Int32))])) (fun t k => XT.iconstV X16.here hx rfl (1 : Int32) (hb hby at_58) (by decide) k) ?_
    refine own_to (T16.setTop (mkF m 63 #[.val (.int u1), .val (.int u2), .val (.int ((u1 &&& (2147483647 : Int32)) % (6 : Int32))), .val (.int ((u2 &&& (2147483647 : Int32)) % (6 : Int32))), .val (.ref (own_ty ((u1 &&& (2147483647 : Int32)) % (6 : Int32)) x0 x1 x2 x3 x4 x5)), .val (.ref (own_ty ((u2 &&& (2147483647 : Int32)) % (6 : Int32)) x0 x1 x2 x3 x4 x5)), .val (.int (1 : Int32))] [(.int (1 : Int32))])) (fun t k => XS.goto X16.here hx rfl (pc0 := 59) (pc' := 63) rfl (hb hby at_59) (by decide) (by decide) k) ?_
    exact own_retZ X16 hx hret hk (i' := (1 : Int32)) (hb hby at_63) (by decide) (by decide) (by decide) ⟨rfl, N16⟩
  · -- c15 no
    refine own_to (T14.setTop (mkF m 43 #[.val (.int u1), .val (.int u2), .val (.int ((u1 &&& (2147483647 : Int32)) % (6 : Int32))), .val (.int ((u2 &&& (2147483647 : Int32)) % (6 : Int32))), .val (.ref (own_ty ((u1 &&& (2147483647 : Int32)) % (6 : Int32)) x0 x1 x2 x3 x4 x5)), .val (.ref (own_ty ((u2 &&& (2147483647 : Int32)) % (6 : Int32)) x0 x1 x2 x3 x4 x5)), .unset] [])) (fun t k => XS.icmpYes X14.here hx rfl (pc0 := 36) (pc' := 43) rfl (hb hby at_36) rfl (feq c15).2 (by decide) (by decide) k) ?_
    refine own_to (T14.setTop (mkF m 44 #[.val (.int u1), .val (.int u2), .val (.int ((u1 &&& (2147483647 : Int32)) % (6 : Int32))), .val (.int ((u2 &&& (2147483647 : Int32)) % (6 : Int32))), .val (.ref (own_ty ((u1 &&& (2147483647 : Int32)) % (6 : Int32)) x0 x1 x2 x3 x4 x5)), .val (.ref (own_ty ((u2 &&& (2147483647 : Int32)) % (6 : Int32)) x0 x1 x2 x3 x4 x5)), .unset] [(.int (0 : Int32))])) (fun t k => XT.iconstV X14.here hx rfl (0 : Int32) (hb hby at_43) (by decide) k) ?_
    refine own_to (T14.setTop (mkF m 46 #[.val (.int u1), .val (.int u2), .val (.int ((u1 &&& (2147483647 : Int32)) % (6 : Int32))), .val (.int ((u2 &&& (2147483647 : Int32)) % (6 : Int32))), .val (.ref (own_ty ((u1 &&& (2147483647 : Int32)) % (6 : Int32)) x0 x1 x2 x3 x4 x5)), .val (.ref (own_ty ((u2 &&& (2147483647 : Int32)) % (6 : Int32)) x0 x1 x2 x3 x4 x5)), .val (.int (0 : Int32))] [])) (fun t k => XS.istore X14.here hx rfl (hb hby at_44) rfl (l' := #[.val (.int u1), .val (.int u2), .val (.int ((u1 &&& (2147483647 : Int32)) % (6 : Int32))), .val (.int ((u2 &&& (2147483647 : Int32)) % (6 : Int32))), .val (.ref (own_ty ((u1 &&& (2147483647 : Int32)) % (6 : Int32)) x0 x1 x2 x3 x4 x5)), .val (.ref (own_ty ((u2 &&& (2147483647 : Int32)) % (6 : Int32)) x0 x1 x2 x3 x4 x5)), .val (.int (0 : Int32))]) rfl k) ?_
    refine own_to (T14.setTop (mkF m 48 #[.val (.int u1), .val (.int u2), .val (.int ((u1 &&& (2147483647 : Int32)) % (6 : Int32))), .val (.int ((u2 &&& (2147483647 : Int32)) % (6 : Int32))), .val (.ref (own_ty ((u1 &&& (2147483647 : Int32)) % (6 : Int32)) x0 x1 x2 x3 x4 x5)), .val (.ref (own_ty ((u2 &&& (2147483647 : Int32)) % (6 : Int32)) x0 x1 x2 x3 x4 x5)), .val (.int (0 : Int32))] [(.ref (own_ty ((u1 &&& (2147483647 : Int32)) % (6 : Int32)) x0 x1 x2 x3 x4 x5))])) (fun t k => XS.aload X14.here hx rfl (hb hby at_46) rfl rfl k) ?_
    refine own_to (T14.setTop (mkF m 50 #[.val (.int u1), .val (.int u2), .val (.int ((u1 &&& (2147483647 : Int32)) % (6 : Int32))), .val (.int ((u2 &&& (2147483647 : Int32)) % (6 : Int32))), .val (.ref (own_ty ((u1 &&& (2147483647 : Int32)) % (6 : Int32)) x0 x1 x2 x3 x4 x5)), .val (.ref (own_ty ((u2 &&& (2147483647 : Int32)) % (6 : Int32)) x0 x1 x2 x3 x4 x5)), .val (.int (0 : Int32))] [(.ref (own_ty ((u2 &&& (2147483647 : Int32)) % (6 : Int32)) x0 x1 x2 x3 x4 x5)), (.ref (own_ty ((u1 &&& (2147483647 : Int32)) % (6 : Int32)) x0 x1 x2 x3 x4 x5))])) (fun t k => XS.aload X14.here hx rfl (hb hby at_48) rfl rfl k) ?_
    obtain ⟨v17, T17, L17, X17, hQ17, st17⟩ := own_callS X14 hx hZ hown (hw _ (List.mem_of_getElem? (i := 13) rfl)) (hw _ (List.mem_of_getElem? (i := 14) rfl)) (hw _ (List.mem_of_getElem? (i := 16) rfl)) (hw _ (List.mem_of_getElem? (i := 15) rfl)) (by decide) e14 (argsL := [(.ref (own_ty ((u1 &&& (2147483647 : Int32)) % (6 : Int32)) x0 x1 x2 x3 x4 x5)), (.ref (own_ty ((u2 &&& (2147483647 : Int32)) % (6 : Int32)) x0 x1 x2 x3 x4 x5))]) (rest := []) (rm3 l Z a0 hw (own_ty ((u1 &&& (2147483647 : Int32)) % (6 : Int32)) x0 x1 x2 x3 x4 x5) (own_ty ((u2 &&& (2147483647 : Int32)) % (6 : Int32)) x0 x1 x2 x3 x4 x5) x1 x2 x3 h0 n0 Z0 S1 S2 S3) (by decide) (W := 0) (by decide) (by decide) (by decide) pd_3 rfl (pc := 50) (Ls := #[.val (.int u1), .val (.int u2), .val (.int ((u1 &&& (2147483647 : Int32)) % (6 : Int32))), .val (.int ((u2 &&& (2147483647 : Int32)) % (6 : Int32))), .val (.ref (own_ty ((u1 &&& (2147483647 : Int32)) % (6 : Int32)) x0 x1 x2 x3 x4 x5)), .val (.ref (own_ty ((u2 &&& (2147483647 : Int32)) % (6 : Int32)) x0 x1 x2 x3 x4 x5)), .val (.int (0 : Int32))]) (by rw [hml]; rfl) (Nat.le_of_eq rfl) (hb hby at_50)
    obtain ⟨rfl, M17, e17⟩ := hQ17
    have N17 := Fr.app N14 M17
    refine own_to (T17.setTop (mkF m 53 #[.val (.int u1), .val (.int u2), .val (.int ((u1 &&& (2147483647 : Int32)) % (6 : Int32))), .val (.int ((u2 &&& (2147483647 : Int32)) % (6 : Int32))), .val (.ref (own_ty ((u1 &&& (2147483647 : Int32)) % (6 : Int32)) x0 x1 x2 x3 x4 x5)), .val (.ref (own_ty ((u2 &&& (2147483647 : Int32)) % (6 : Int32)) x0 x1 x2 x3 x4 x5)), .val (.int (0 : Int32))] [(.int (own_cmp (own_ty ((u1 &&& (2147483647 : Int32)) % (6 : Int32)) x0 x1 x2 x3 x4 x5) (own_ty ((u2 &&& (2147483647 : Int32)) % (6 : Int32)) x0 x1 x2 x3 x4 x5) x1 x2 x3))])) (fun t k => st17 t k) ?_
    refine own_to (T17.setTop (mkF m 55 #[.val (.int u1), .val (.int u2), .val (.int ((u1 &&& (2147483647 : Int32)) % (6 : Int32))), .val (.int ((u2 &&& (2147483647 : Int32)) % (6 : Int32))), .val (.ref (own_ty ((u1 &&& (2147483647 : Int32)) % (6 : Int32)) x0 x1 x2 x3 x4 x5)), .val (.ref (own_ty ((u2 &&& (2147483647 : Int32)) % (6 : Int32)) x0 x1 x2 x3 x4 x5)), .val (.int (0 : Int32))] [(.int (0 : Int32)), (.int (own_cmp (own_ty ((u1 &&& (2147483647 : Int32)) % (6 : Int32)) x0 x1 x2 x3 x4 x5) (own_ty ((u2 &&& (2147483647 : Int32)) % (6 : Int32)) x0 x1 x2 x3 x4 x5) x1 x2 x3))])) (fun t k => XS.iload X17.here hx rfl (hb hby at_53) rfl k) ?_
    refine own_to (T17.setTop (mkF m 58 #[.val (.int u1), .val (.int u2), .val (.int ((u1 &&& (2147483647 : Int32)) % (6 : Int32))), .val (.int ((u2 &&& (2147483647 : Int32)) % (6 : Int32))), .val (.ref (own_ty ((u1 &&& (2147483647 : Int32)) % (6 : Int32)) x0 x1 x2 x3 x4 x5)), .val (.ref (own_ty ((u2 &&& (2147483647 : Int32)) % (6 : Int32)) x0 x1 x2 x3 x4 x5)), .val (.int (0 : Int32))] [])) (fun t k => XS.icmpNo X17.here hx rfl (hb hby at_55) rfl (teq ((own_plain _ _ x0 x1 x2 x3 x4 x5 n01 n02 n03 n04 n05 n12 n13 n14 n15 n23 n24 n25 n34 n35 n45 (own_six _) (own_six _)).trans (if_neg c15))).2 k) ?_
    refine own_to (T17.setTop (mkF m 59 #[.val (.int u1), .val (.int u2), .val (.int ((u1 &&& (2147483647 : Int32)) % (6 : Int32))), .val (.int ((u2 &&& (2147483647 : Int32)) % (6 : Int32))), .val (.ref (own_ty ((u1 &&& (2147483647 : Int32)) % (6 : Int32)) x0 x1 x2 x3 x4 x5)), .val (.ref (own_ty ((u2 &&& (2147483647 : Int32)) % (6 : Int32)) x0 x1 x2 x3 x4 x5)), .val (.int (0 : Int32))] [(.int (1 : Int32))])) (fun t k => XT.iconstV X17.here hx rfl (1 : Int32) (hb hby at_58) (by decide) k) ?_
    refine own_to (T17.setTop (mkF m 63 #[.val (.int u1), .val (.int u2), .val (.int ((u1 &&& (2147483647 : Int32)) % (6 : Int32))), .val (.int ((u2 &&& (2147483647 : Int32)) % (6 : Int32))), .val (.ref (own_ty ((u1 &&& (2147483647 : Int32)) % (6 : Int32)) x0 x1 x2 x3 x4 x5)), .val (.ref (own_ty ((u2 &&& (2147483647 : Int32)) % (6 : Int32)) x0 x1 x2 x3 x4 x5)), .val (.int (0 : Int32))] [(.int (1 : Int32))])) (fun t k => XS.goto X17.here hx rfl (pc0 := 59) (pc' := 63) rfl (hb hby at_59) (by decide) (by decide) k) ?_
    exact own_retZ X17 hx hret hk (i' := (1 : Int32)) (hb hby at_63) (by decide) (by decide) (by decide) ⟨rfl, N17⟩
theorem own_fldI {args : Array Value} {Z : State} {t : Term} {C n d : String} {k : Int32} {a : Addr} (h : (Jvm.Cond.eq (Term.field t C n d) (Term.int k)).value args Z none Z [] = some true) (ht : t.eval args Z none [] Z = some (.ref a)) : Fld Z Z.heap a C n d (.int k) :=
  Fld.start ((fld_at ht).symm.trans (eqv_i (Term.int_eval k) h))
set_option maxRecDepth 65536 in
set_option maxHeartbeats 40000000 in
theorem comes_1 {Post : Tables → Env → Array Value → State → Outcome → State → Prop} (hpost : ∀ tb e args s v u, (limb_1_1.after args s (.returned v) u = true ∧ limb_1_2.after args s (.returned v) u = true ∧ True) → FrameEnd s (.returned v) u (Jvm.fieldLocs frame_1_writes args s ++ Jvm.arrayLocs frame_1_arrays args s ++ Jvm.staticLocs frame_1_statics s) 0 0 → Post tb e args s (.returned v) u) :
    ArmFor flags0 classFile x code maxLocals ret World_1 tables_1 room_1 Calls_1 rest_1 Pre_1 Post := by
  intro l hfl _ _ p e ha hc hk s m args below hf hA hF happ hP
  obtain ⟨hcalls, hrest, hpre⟩ := hP
  obtain ⟨-, -, -, hnamed, -, -, -, hat⟩ := (Spec.applies_iff hf).mp happ
  obtain ⟨hg, hn⟩ := and_e (Cond.before_iff.mp (show (Jvm.Cond.and given_1 narrow_1).before args s = true from hpre))
  obtain ⟨g0, k0⟩ := and_e hg
  obtain ⟨w0, w1, rfl⟩ : ∃ w0 w1 : Value, args = #[w0, w1] := by
    have hs : args.size = 2 := by simpa [Cond.value, given_1] using g0
    obtain ⟨L⟩ := args
    match L, hs with
    | [w0, w1], _ => exact ⟨w0, w1, rfl⟩
  have hw := fun d (hd : d ∈ tables_1) => atoms_spec (ws := Jvm.Cond.code x code maxLocals ret :: tables_1) hat d (List.mem_cons_of_mem _ hd)
  have hfit : Fit s := fun {y c} hc i hi => by
    obtain ⟨ha, rfl⟩ := Array.getElem?_eq_some_iff.mp hc
    have q := List.all_eq_true.mp ((Array.all_eq_true_iff_forall_mem.mp hF) _ (Array.getElem_mem ha)) i (List.mem_range.mpr hi)
    simpa [Array.getElem?_eq_getElem hi] using q
  obtain ⟨g1, k1⟩ := and_e k0
  obtain ⟨i0, ei0⟩ := is_v g1
  obtain rfl : w0 = (.int i0) := Option.some.inj ei0
  obtain ⟨i1, ei1⟩ := is_v k1
  obtain rfl : w1 = (.int i1) := Option.some.inj ei1
  obtain ⟨q0, q0r⟩ := and_e hn
  obtain ⟨x0, ev0⟩ := exa_v q0
  have S0 := Sta.start ev0 (Or.inr ⟨(hw _ (List.mem_of_getElem? (i := 6) rfl)), (hw _ (List.mem_of_getElem? (i := 7) rfl))⟩)
  obtain ⟨q1, q1r⟩ := and_e q0r
  obtain ⟨x3, ev3⟩ := exa_v q1
  have S3 := Sta.start ev3 (Or.inr ⟨(hw _ (List.mem_of_getElem? (i := 6) rfl)), (hw _ (List.mem_of_getElem? (i := 9) rfl))⟩)
  obtain ⟨q2, q2r⟩ := and_e q1r
  have F0 := own_fldI q2 ev0
  obtain ⟨q3, q3r⟩ := and_e q2r
  have F3 := own_fldI q3 ev3
  obtain ⟨q4, q4r⟩ := and_e q3r
  obtain ⟨x1, ev1⟩ := exa_v q4
  have S1 := Sta.start ev1 (Or.inr ⟨(hw _ (List.mem_of_getElem? (i := 6) rfl)), (hw _ (List.mem_of_getElem? (i := 21) rfl))⟩)
  obtain ⟨q5, q5r⟩ := and_e q4r
  have F1 := own_fldI q5 ev1
  obtain ⟨q6, q6r⟩ := and_e q5r
  obtain ⟨x2, ev2⟩ := exa_v q6
  have S2 := Sta.start ev2 (Or.inr ⟨(hw _ (List.mem_of_getElem? (i := 6) rfl)), (hw _ (List.mem_of_getElem? (i := 23) rfl))⟩)
  obtain ⟨q7, q7r⟩ := and_e q6r
  have F2 := own_fldI q7 ev2
  obtain ⟨q8, q8r⟩ := and_e q7r
  obtain ⟨x5, ev5⟩ := exa_v q8
  have S5 := Sta.start ev5 (Or.inr ⟨(hw _ (List.mem_of_getElem? (i := 6) rfl)), (hw _ (List.mem_of_getElem? (i := 28) rfl))⟩)
  obtain ⟨q9, q9r⟩ := and_e q8r
  have F5 := own_fldI q9 ev5
  obtain ⟨q10, q10r⟩ := and_e q9r
  obtain ⟨x4, ev4⟩ := exa_v q10
  have S4 := Sta.start ev4 (Or.inr ⟨(hw _ (List.mem_of_getElem? (i := 6) rfl)), (hw _ (List.mem_of_getElem? (i := 30) rfl))⟩)
  have q11 := q10r
  have F4 := own_fldI q11 ev4
  have n01 : x0 ≠ x1 := F0.ne F1 (by decide)
  have n02 : x0 ≠ x2 := F0.ne F2 (by decide)
  have n03 : x0 ≠ x3 := F0.ne F3 (by decide)
  have n04 : x0 ≠ x4 := F0.ne F4 (by decide)
  have n05 : x0 ≠ x5 := F0.ne F5 (by decide)
  have n12 : x1 ≠ x2 := F1.ne F2 (by decide)
  have n13 : x1 ≠ x3 := F1.ne F3 (by decide)
  have n14 : x1 ≠ x4 := F1.ne F4 (by decide)
  have n15 : x1 ≠ x5 := F1.ne F5 (by decide)
  have n23 : x2 ≠ x3 := F2.ne F3 (by decide)
  have n24 : x2 ≠ x4 := F2.ne F4 (by decide)
  have n25 : x2 ≠ x5 := F2.ne F5 (by decide)
  have n34 : x3 ≠ x4 := F3.ne F4 (by decide)
  have n35 : x3 ≠ x5 := F3.ne F5 (by decide)
  have n45 : x4 ≠ x5 := F4.ne F5 (by decide)
  obtain ⟨n, o, h1, h2, h3, _, L, rfl, ⟨rfl, N⟩, hq⟩ := rm0 l s _ hw i0 i1 x0 x1 x2 x3 x4 x5 s.heap s.heap.size (Nat.le_refl _) S0 S1 S2 S3 S4 S5 n01 n02 n03 n04 n05 n12 n13 n14 n15 n23 n24 n25 n34 n35 n45 tables_1 p e ha hc hk s m _ below hf ((Spec.applies_iff_loose hf).mp happ).1 ⟨rfl, State.Warmed39.refl s, rfl⟩ trivial
  refine ⟨n, _, h1, h2, h3, hpost _ _ _ _ _ _ ⟨Cond.after_iff.mpr rfl, Cond.after_iff.mpr (eq_i res_at (Term.int_eval (1)) rfl), trivial⟩ ⟨hq.1, hq.2.1, (hq.2.2.sift fun y hy => Or.inr (N y hy)).mono (by decide) (by decide)⟩⟩
theorem main_1_1 : Claimed_1_1 := comes_1 fun _ _ _ _ _ _ h hF => ⟨h.1, hF⟩
theorem main_1_2 : Claimed_1_2 := comes_1 fun _ _ _ _ _ _ h hF => ⟨h.2.1, hF⟩
end Jvm.Pilot.@@N@@
namespace Jvm.Pilot.@@N@@
open Jvm Jvm.ClassFile Sem Op Lib Jvm.Free Jvm.Stand Jvm.Pilot.@@N@@.Jvm.D
/-! MADE BY PROGRAM (witnessworld.py) out of the Statement's table words and the real class files: 13 classes; the members and pool entries that the words name. The judged class is class 1, her method 1. -/
namespace start1
open Jvm.ClassFile
def u (s : String) : CpInfo := .utf8 (stringToUtf16 s)
/-- a pool by its gaps: so many unusable entries, then the entry; so many at the end -/
def gap : Nat → List CpInfo → List CpInfo
  | 0, r => r
  | n + 1, r => .unusable :: gap n r
def poolList (es : List (Nat × CpInfo)) (last : Nat) : List CpInfo := es.foldr (fun e r => gap e.1 (e.2 :: r)) (gap last [])
def pool (es : List (Nat × CpInfo)) (last : Nat) : Array CpInfo := ⟨poolList es last⟩
def fileOf (pool : Array CpInfo) (this : Nat) (attrs : Array Attribute := #[]) (ms : Array MethodInfo := #[]) (fl : Nat := 33) (sup : Nat := 0) (ifs : Array Nat := #[]) (fds : Array FieldInfo := #[]) : ClassFile where
  minorVersion := 0
  majorVersion := 65
  constantPool := pool
  accessFlags := fl
  thisClass := this
  superClass := sup
  interfaces := ifs
  fields := fds
  methods := ms
  attributes := attrs
def plain (name : String) (sup : Option ClassId) : Class where
  name := name
  kind := .ordinary
  loader := none
  accessFlags := 33
  super := sup
  interfaces := #[]
  cf := none
  fields := #[]
  methods := #[]
  instanceTypes := #[]
  staticTypes := #[]
  resolved := #[]
  callSites := []
  init := .initialized
  statics := none
  mirror := none

def pool0 : Array CpInfo := pool [(5, u "<init>"), (0, u "()V"), (1, .class_ 10), (1, u "java/lang/Object")] 113

def k0m0 : Method := { name := "<init>", desc := "()V", sig := { parameters := [], returnType := none }, accessFlags := 1, code := none }
/-- java/lang/Object -/
def k0 : Class := { plain "java/lang/Object" none with
  accessFlags := 33
  interfaces := #[]
  cf := some (fileOf pool0 8 #[] #[{ accessFlags := 1, nameIndex := 5, descriptorIndex := 6, attributes := #[] }] 33 0 #[] #[])
  fields := #[]
  methods := #[k0m0]
  instanceTypes := #[]
  staticTypes := #[]
  resolved := Array.replicate 124 none
  statics := none }

def pool1 : Array CpInfo := pool [(2, .class_ 4), (1, u "java/lang/Object"), (0, u "<init>"), (0, u "()V"), (0, .integer 2147483647), (0, .methodref 9 10), (0, .class_ 11), (0, .nameAndType 12 13), (0, u "com/example/graticule/graticule/fes/ValuesComparablePinLaw"), (0, u "type"), (0, u "(I)Lcom/example/graticule/graticule/feature/AttributeType;"), (0, .methodref 9 15), (0, .nameAndType 16 17), (0, u "kind"), (0, u "(I)I"), (0, .methodref 19 20), (0, .class_ 21), (0, .nameAndType 22 23), (0, u "com/example/graticule/graticule/fes/Values"), (0, u "comparable"), (0, u "(Lcom/example/graticule/graticule/feature/AttributeType;Lcom/example/graticule/graticule/feature/AttributeType;)Z"), (0, .fieldref 25 26), (0, .class_ 27), (0, .nameAndType 28 29), (0, u "com/example/graticule/graticule/feature/AttributeType"), (0, u "STRING"), (0, u "Lcom/example/graticule/graticule/feature/AttributeType;"), (0, .fieldref 25 31), (0, .nameAndType 32 29), (0, u "INTEGER"), (0, .fieldref 25 34), (0, .nameAndType 35 29), (0, u "LONG"), (0, .fieldref 25 37), (0, .nameAndType 38 29), (0, u "DOUBLE"), (0, .fieldref 25 40), (0, .nameAndType 41 29), (0, u "BOOLEAN"), (0, .fieldref 25 43), (0, .nameAndType 44 29), (0, u "DATE"), (2, u "law"), (0, u "(II)Z")] 3

def k1m0 : Method := { name := "<init>", desc := "()V", sig := { parameters := [], returnType := none }, accessFlags := 2, code := none }
def k1c1 : Code := { maxStack := 2, maxLocals := 7, code := code, exceptionTable := #[], attributes := #[] }
def k1m1 : Method := { name := "law", desc := "(II)Z", sig := { parameters := [.int, .int], returnType := some .boolean }, accessFlags := 9, code := some k1c1 }
def k1c2 : Code := { maxStack := 2, maxLocals := 1, code := method_3_code, exceptionTable := #[], attributes := #[] }
def k1m2 : Method := { name := "type", desc := "(I)Lcom/example/graticule/graticule/feature/AttributeType;", sig := { parameters := [.int], returnType := some (.object "com/example/graticule/graticule/feature/AttributeType") }, accessFlags := 10, code := some k1c2 }
def k1c3 : Code := { maxStack := 2, maxLocals := 1, code := method_4_code, exceptionTable := #[], attributes := #[] }
def k1m3 : Method := { name := "kind", desc := "(I)I", sig := { parameters := [.int], returnType := some .int }, accessFlags := 10, code := some k1c3 }
/-- com/example/graticule/graticule/fes/ValuesComparablePinLaw -/
def k1 : Class := { plain "com/example/graticule/graticule/fes/ValuesComparablePinLaw" (some 0) with
  accessFlags := 49
  interfaces := #[]
  cf := some (fileOf pool1 9 #[] #[{ accessFlags := 2, nameIndex := 5, descriptorIndex := 6, attributes := #[] }, { accessFlags := 9, nameIndex := 47, descriptorIndex := 48, attributes := #[] }, { accessFlags := 10, nameIndex := 12, descriptorIndex := 13, attributes := #[] }, { accessFlags := 10, nameIndex := 16, descriptorIndex := 17, attributes := #[] }] 49 2 #[] #[])
  fields := #[]
  methods := #[k1m0, k1m1, k1m2, k1m3]
  instanceTypes := #[]
  staticTypes := #[]
  resolved := Array.replicate 52 none
  statics := none }

def pool2 : Array CpInfo := pool [(1, .class_ 2), (0, u "java/lang/constant/Constable"), (0, .class_ 4), (0, u "java/lang/Object")] 6

/-- java/lang/constant/Constable -/
def k2 : Class := { plain "java/lang/constant/Constable" (some 0) with
  accessFlags := 1537
  interfaces := #[]
  cf := some (fileOf pool2 1 #[] #[] 1537 3 #[] #[])
  fields := #[]
  methods := #[]
  instanceTypes := #[]
  staticTypes := #[]
  resolved := Array.replicate 11 none
  statics := none }

def pool3 : Array CpInfo := pool [(1, .class_ 2), (0, u "java/lang/Comparable"), (0, .class_ 4), (0, u "java/lang/Object")] 7

/-- java/lang/Comparable -/
def k3 : Class := { plain "java/lang/Comparable" (some 0) with
  accessFlags := 1537
  interfaces := #[]
  cf := some (fileOf pool3 1 #[] #[] 1537 3 #[] #[])
  fields := #[]
  methods := #[]
  instanceTypes := #[]
  staticTypes := #[]
  resolved := Array.replicate 12 none
  statics := none }

def pool4 : Array CpInfo := pool [(1, .class_ 2), (0, u "java/io/Serializable"), (0, .class_ 4), (0, u "java/lang/Object")] 2

/-- java/io/Serializable -/
def k4 : Class := { plain "java/io/Serializable" (some 0) with
  accessFlags := 1537
  interfaces := #[]
  cf := some (fileOf pool4 1 #[] #[] 1537 3 #[] #[])
  fields := #[]
  methods := #[]
  instanceTypes := #[]
  staticTypes := #[]
  resolved := Array.replicate 7 none
  statics := none }

def pool5 : Array CpInfo := pool [(2, .class_ 4), (1, u "java/lang/Enum"), (0, u "name"), (0, u "Ljava/lang/String;"), (2, u "ordinal"), (0, u "I"), (1, .class_ 14), (1, u "java/lang/Object"), (4, u "hash"), (86, .class_ 108), (1, u "java/lang/Enum$EnumDesc"), (2, .class_ 112), (0, u "java/lang/constant/Constable"), (0, .class_ 114), (0, u "java/lang/Comparable"), (0, .class_ 116), (0, u "java/io/Serializable")] 87

/-- java/lang/Enum -/
def k5 : Class := { plain "java/lang/Enum" (some 0) with
  accessFlags := 1057
  interfaces := #[2, 3, 4]
  cf := some (fileOf pool5 2 #[.nestMembers #[106]] #[] 1057 12 #[111, 113, 115] #[{ accessFlags := 18, nameIndex := 5, descriptorIndex := 6, attributes := #[] }, { accessFlags := 18, nameIndex := 9, descriptorIndex := 10, attributes := #[] }, { accessFlags := 2, nameIndex := 19, descriptorIndex := 10, attributes := #[] }])
  fields := #[{ name := "name", type := (.object "java/lang/String"), accessFlags := 18, slot := 0, constantValue := 0 }, { name := "ordinal", type := .int, accessFlags := 18, slot := 1, constantValue := 0 }, { name := "hash", type := .int, accessFlags := 2, slot := 2, constantValue := 0 }]
  methods := #[]
  instanceTypes := #[(.object "java/lang/String"), .int, .int]
  staticTypes := #[]
  resolved := Array.replicate 204 none
  statics := none }

def pool6 : Array CpInfo := pool [(1, .class_ 2), (0, u "com/example/graticule/graticule/feature/AttributeType"), (2, u "STRING"), (0, u "Lcom/example/graticule/graticule/feature/AttributeType;"), (2, u "INTEGER"), (2, u "LONG"), (2, u "DOUBLE"), (2, u "BOOLEAN"), (2, u "DATE"), (2, u "$VALUES"), (0, u "[Lcom/example/graticule/graticule/feature/AttributeType;"), (6, .class_ 34), (1, u "java/lang/Enum")] 28

/-- com/example/graticule/graticule/feature/AttributeType -/
def k6 : Class := { plain "com/example/graticule/graticule/feature/AttributeType" (some 5) with
  accessFlags := 16433
  interfaces := #[]
  cf := some (fileOf pool6 1 #[] #[] 16433 32 #[] #[{ accessFlags := 16409, nameIndex := 5, descriptorIndex := 6, attributes := #[] }, { accessFlags := 16409, nameIndex := 9, descriptorIndex := 6, attributes := #[] }, { accessFlags := 16409, nameIndex := 12, descriptorIndex := 6, attributes := #[] }, { accessFlags := 16409, nameIndex := 15, descriptorIndex := 6, attributes := #[] }, { accessFlags := 16409, nameIndex := 18, descriptorIndex := 6, attributes := #[] }, { accessFlags := 16409, nameIndex := 21, descriptorIndex := 6, attributes := #[] }, { accessFlags := 4122, nameIndex := 24, descriptorIndex := 25, attributes := #[] }])
  fields := #[{ name := "STRING", type := (.object "com/example/graticule/graticule/feature/AttributeType"), accessFlags := 16409, slot := 0, constantValue := 0 }, { name := "INTEGER", type := (.object "com/example/graticule/graticule/feature/AttributeType"), accessFlags := 16409, slot := 1, constantValue := 0 }, { name := "LONG", type := (.object "com/example/graticule/graticule/feature/AttributeType"), accessFlags := 16409, slot := 2, constantValue := 0 }, { name := "DOUBLE", type := (.object "com/example/graticule/graticule/feature/AttributeType"), accessFlags := 16409, slot := 3, constantValue := 0 }, { name := "BOOLEAN", type := (.object "com/example/graticule/graticule/feature/AttributeType"), accessFlags := 16409, slot := 4, constantValue := 0 }, { name := "DATE", type := (.object "com/example/graticule/graticule/feature/AttributeType"), accessFlags := 16409, slot := 5, constantValue := 0 }, { name := "$VALUES", type := (.array (.object "com/example/graticule/graticule/feature/AttributeType")), accessFlags := 4122, slot := 6, constantValue := 0 }]
  methods := #[]
  instanceTypes := #[(.object "java/lang/String"), .int, .int]
  staticTypes := #[(.object "com/example/graticule/graticule/feature/AttributeType"), (.object "com/example/graticule/graticule/feature/AttributeType"), (.object "com/example/graticule/graticule/feature/AttributeType"), (.object "com/example/graticule/graticule/feature/AttributeType"), (.object "com/example/graticule/graticule/feature/AttributeType"), (.object "com/example/graticule/graticule/feature/AttributeType"), (.array (.object "com/example/graticule/graticule/feature/AttributeType"))]
  resolved := Array.replicate 63 none
  statics := some 0 }

def pool7 : Array CpInfo := pool [(2, .class_ 4), (1, u "java/lang/Object"), (0, u "<init>"), (0, u "()V"), (0, .methodref 8 9), (0, .class_ 10), (0, .nameAndType 11 12), (0, u "com/example/graticule/graticule/fes/Values"), (0, u "isNumber"), (0, u "(Lcom/example/graticule/graticule/feature/AttributeType;)Z"), (0, .fieldref 14 15), (0, .class_ 16), (0, .nameAndType 17 18), (0, u "com/example/graticule/graticule/feature/AttributeType"), (0, u "INTEGER"), (0, u "Lcom/example/graticule/graticule/feature/AttributeType;"), (0, .fieldref 14 20), (0, .nameAndType 21 18), (0, u "LONG"), (0, .fieldref 14 23), (0, .nameAndType 24 18), (0, u "DOUBLE"), (7, .class_ 34), (1, u "com/example/graticule/graticule/fes/Values$1"), (65, u "Ljava/util/regex/Pattern;"), (200, u "PRESENT"), (0, u "I"), (2, u "MISSING"), (3, u "comparable"), (0, u "(Lcom/example/graticule/graticule/feature/AttributeType;Lcom/example/graticule/graticule/feature/AttributeType;)Z")] 34

def k7m0 : Method := { name := "<init>", desc := "()V", sig := { parameters := [], returnType := none }, accessFlags := 2, code := none }
def k7c1 : Code := { maxStack := 2, maxLocals := 2, code := prog_9_method_2_code, exceptionTable := #[], attributes := #[] }
def k7m1 : Method := { name := "comparable", desc := "(Lcom/example/graticule/graticule/feature/AttributeType;Lcom/example/graticule/graticule/feature/AttributeType;)Z", sig := { parameters := [(.object "com/example/graticule/graticule/feature/AttributeType"), (.object "com/example/graticule/graticule/feature/AttributeType")], returnType := some .boolean }, accessFlags := 8, code := some k7c1 }
def k7c2 : Code := { maxStack := 2, maxLocals := 1, code := prog_9_method_3_code, exceptionTable := #[], attributes := #[] }
def k7m2 : Method := { name := "isNumber", desc := "(Lcom/example/graticule/graticule/feature/AttributeType;)Z", sig := { parameters := [(.object "com/example/graticule/graticule/feature/AttributeType")], returnType := some .boolean }, accessFlags := 10, code := some k7c2 }
/-- com/example/graticule/graticule/fes/Values -/
def k7 : Class := { plain "com/example/graticule/graticule/fes/Values" (some 0) with
  accessFlags := 48
  interfaces := #[]
  cf := some (fileOf pool7 8 #[.nestMembers #[32]] #[{ accessFlags := 2, nameIndex := 5, descriptorIndex := 6, attributes := #[] }, { accessFlags := 8, nameIndex := 309, descriptorIndex := 310, attributes := #[] }, { accessFlags := 10, nameIndex := 11, descriptorIndex := 12, attributes := #[] }] 48 2 #[] #[{ accessFlags := 26, nameIndex := 17, descriptorIndex := 100, attributes := #[] }, { accessFlags := 26, nameIndex := 301, descriptorIndex := 302, attributes := #[] }, { accessFlags := 26, nameIndex := 305, descriptorIndex := 302, attributes := #[] }])
  fields := #[{ name := "INTEGER", type := (.object "java/util/regex/Pattern"), accessFlags := 26, slot := 0, constantValue := 0 }, { name := "PRESENT", type := .int, accessFlags := 26, slot := 1, constantValue := 0 }, { name := "MISSING", type := .int, accessFlags := 26, slot := 2, constantValue := 0 }]
  methods := #[k7m0, k7m1, k7m2]
  instanceTypes := #[]
  staticTypes := #[(.object "java/util/regex/Pattern"), .int, .int]
  resolved := Array.replicate 345 none
  statics := none }

def pool8 : Array CpInfo := pool [(1, u "java/lang/Cloneable"), (0, .class_ 1), (0, u "java/lang/Object"), (0, .class_ 3)] 3

/-- java/lang/Cloneable -/
def k8 : Class := { plain "java/lang/Cloneable" (some 0) with
  accessFlags := 1537
  interfaces := #[]
  cf := some (fileOf pool8 2 #[] #[] 1537 4 #[] #[])
  fields := #[]
  methods := #[]
  instanceTypes := #[]
  staticTypes := #[]
  resolved := Array.replicate 8 none
  statics := none }

/-- the primitive byte -/
def k9 : Class := { plain "byte" none with kind := .primitive 'B', accessFlags := 0x411 }
/-- [B -/
def k10 : Class := { plain "[B" (some 0) with kind := .array 9 .byte, interfaces := #[8, 4], accessFlags := 1041 }

/-- the primitive int -/
def k11 : Class := { plain "int" none with kind := .primitive 'I', accessFlags := 0x411 }
/-- [I -/
def k12 : Class := { plain "[I" (some 0) with kind := .array 11 .int, interfaces := #[8, 4], accessFlags := 1041 }

def heap : Heap := #[{ cls := 6, slots := #[.ref 1, .ref 2, .ref 3, .ref 4, .ref 5, .ref 6, .null], vm := .statics 6 },
  { cls := 6, slots := #[.null, .int 0, .int 0], vm := .none },
  { cls := 6, slots := #[.null, .int 1, .int 0], vm := .none },
  { cls := 6, slots := #[.null, .int 2, .int 0], vm := .none },
  { cls := 6, slots := #[.null, .int 3, .int 0], vm := .none },
  { cls := 6, slots := #[.null, .int 4, .int 0], vm := .none },
  { cls := 6, slots := #[.null, .int 5, .int 0], vm := .none }]
def classes : Array Class := #[k0, k1, k2, k3, k4, k5, k6, k7, k8, k9, k10, k11, k12]
def interned : List (Array UInt16 × Addr) := []
def slotsUsed : Nat := 25
def theMethod : MethodId := ⟨1, 1⟩
def args0 : Array Value := #[.int 5, .int 7]
def aboutOver (below : List Frame) : State where
  vm := { classes := classes, interned := interned.toArray }
  heap := heap
  slotsUsed := slotsUsed
  threads := #[{ frames := .invoking theMethod args0 :: below }]
def below0 : List Frame := [.native { method := ⟨0, 0⟩, args := #[] }]
def about1 : State := aboutOver below0
def p0 : Program := .bare "" "" ""
def e0 : Env := launch0.env 0 0 0
theorem w_frames : about1.frames = Frame.invoking theMethod args0 :: below0 := rfl
set_option maxRecDepth 65536 in
theorem w_args : argsFit about1.vm theMethod args0 = true := by decide +kernel
set_option maxRecDepth 65536 in
theorem w_heap : heapFits about1 = true := by decide +kernel
set_option maxRecDepth 65536 in
theorem w_runnable : about1.curStatus? = some .runnable := by decide +kernel
set_option maxRecDepth 65536 in
theorem w_alone : about1.alone = true := by decide +kernel
set_option maxRecDepth 65536 in
theorem w_named : about1.methodNamed? x = some theMethod := by decide +kernel
set_option maxRecDepth 65536 in
theorem w_hears : about1.hears theMethod below0 = true := by decide +kernel
set_option maxRecDepth 65536 in
theorem w_ripe : about1.ripe theMethod args0 below0 = true := by decide +kernel
theorem w_running : about1.status = .running := rfl
set_option maxRecDepth 65536 in
theorem w_room : about1.hasRoom e0.platform room_1 = true :=
  launch0.hasRoom_least _ room_1 (by decide +kernel) (by decide +kernel) (by decide +kernel) (by decide +kernel) (by decide +kernel) (by decide +kernel)
theorem allAtoms_all (ts : List Jvm.Cond) (a : Array Jvm.Value) (st : Jvm.State) : (allAtoms ts).before a st = ts.all (fun c => c.before a st) := by
  induction ts with
  | nil => rfl
  | cons c t ih =>
    show (Jvm.Cond.and c (allAtoms t)).before a st = _
    rw [Jvm.Cond.before_and, ih, List.all_cons]
def words1 : List Jvm.Cond := Jvm.Cond.code x code maxLocals ret :: tables_1
/-- a 'code' word, met by the world's own term for the bytes: nothing is compared byte by byte -/
theorem code_word {y : MethodName} {bytes : ByteArray} {mx : Nat} {rt : Option FieldType} {a : Array Value} {s : State} {m : MethodId} {meth : Method} {c : Code} (h1 : s.methodNamed? y = some m) (h2 : s.vm.method? m = some meth) (h3 : meth.code = some c) (h4 : c.code = bytes)
    (h5 : (c.maxLocals == mx && c.exceptionTable.isEmpty && decide (c.maxStack ≤ mostOperands) && decide (meth.sig.returnType = rt) && !meth.locks && decide (parseMethodDescriptor y.desc = some meth.sig)) = true) : (Jvm.Cond.code y bytes mx rt).before a s = true := by
  simp only [Bool.and_eq_true, beq_iff_eq, Bool.not_eq_true', decide_eq_true_eq] at h5
  obtain ⟨⟨⟨⟨⟨g1, g2⟩, g3⟩, g4⟩, g5⟩, g6⟩ := h5
  simp [Cond.before, Cond.holds, Cond.value, h1, h2, h3, h4, g1, g2, g3, g4, g5, g6]
def isCode : Jvm.Cond → Bool
  | .code _ _ _ _ => true
  | _ => false
theorem all_split {L : List Jvm.Cond} {P : Jvm.Cond → Bool} (h1 : L.all (fun c => isCode c || P c) = true) (h2 : ∀ c ∈ L.filter isCode, P c = true) : L.all P = true := by
  refine List.all_eq_true.mpr fun c hc => ?_
  have h := List.all_eq_true.mp h1 c hc
  rcases Bool.eq_false_or_eq_true (isCode c) with hi | hi
  · exact h2 c (List.mem_filter.mpr ⟨hc, hi⟩)
  · simpa [hi] using h
set_option maxRecDepth 65536 in
theorem w_c0 : (Jvm.Cond.code x code maxLocals ret).before args0 about1 = true := code_word (m := ⟨1, 1⟩) (meth := k1m1) (c := k1c1) (by decide +kernel) rfl rfl rfl (by decide +kernel)
set_option maxRecDepth 65536 in
theorem w_c1 : (Jvm.Cond.code ({ cls := "com/example/graticule/graticule/fes/ValuesComparablePinLaw", name := "type", desc := "(I)Lcom/example/graticule/graticule/feature/AttributeType;" } : Jvm.MethodName) method_3_code (1 : Nat) (Option.some (Jvm.ClassFile.FieldType.object "com/example/graticule/graticule/feature/AttributeType"))).before args0 about1 = true := code_word (m := ⟨1, 2⟩) (meth := k1m2) (c := k1c2) (by decide +kernel) rfl rfl rfl (by decide +kernel)
set_option maxRecDepth 65536 in
theorem w_c2 : (Jvm.Cond.code ({ cls := "com/example/graticule/graticule/fes/ValuesComparablePinLaw", name := "kind", desc := "(I)I" } : Jvm.MethodName) method_4_code (1 : Nat) (Option.some Jvm.ClassFile.FieldType.int)).before args0 about1 = true := code_word (m := ⟨1, 3⟩) (meth := k1m3) (c := k1c3) (by decide +kernel) rfl rfl rfl (by decide +kernel)
set_option maxRecDepth 65536 in
theorem w_c3 : (Jvm.Cond.code ({ cls := "com/example/graticule/graticule/fes/Values", name := "comparable", desc := "(Lcom/example/graticule/graticule/feature/AttributeType;Lcom/example/graticule/graticule/feature/AttributeType;)Z" } : Jvm.MethodName) prog_9_method_2_code (2 : Nat) (Option.some Jvm.ClassFile.FieldType.boolean)).before args0 about1 = true := code_word (m := ⟨7, 1⟩) (meth := k7m1) (c := k7c1) (by decide +kernel) rfl rfl rfl (by decide +kernel)
set_option maxRecDepth 65536 in
theorem w_c4 : (Jvm.Cond.code ({ cls := "com/example/graticule/graticule/fes/Values", name := "isNumber", desc := "(Lcom/example/graticule/graticule/feature/AttributeType;)Z" } : Jvm.MethodName) prog_9_method_3_code (1 : Nat) (Option.some Jvm.ClassFile.FieldType.boolean)).before args0 about1 = true := code_word (m := ⟨7, 2⟩) (meth := k7m2) (c := k7c2) (by decide +kernel) rfl rfl rfl (by decide +kernel)
def codes1 : List Jvm.Cond := [Jvm.Cond.code x code maxLocals ret, Jvm.Cond.code ({ cls := "com/example/graticule/graticule/fes/ValuesComparablePinLaw", name := "type", desc := "(I)Lcom/example/graticule/graticule/feature/AttributeType;" } : Jvm.MethodName) method_3_code (1 : Nat) (Option.some (Jvm.ClassFile.FieldType.object "com/example/graticule/graticule/feature/AttributeType")), Jvm.Cond.code ({ cls := "com/example/graticule/graticule/fes/ValuesComparablePinLaw", name := "kind", desc := "(I)I" } : Jvm.MethodName) method_4_code (1 : Nat) (Option.some Jvm.ClassFile.FieldType.int), Jvm.Cond.code ({ cls := "com/example/graticule/graticule/fes/Values", name := "comparable", desc := "(Lcom/example/graticule/graticule/feature/AttributeType;Lcom/example/graticule/graticule/feature/AttributeType;)Z" } : Jvm.MethodName) prog_9_method_2_code (2 : Nat) (Option.some Jvm.ClassFile.FieldType.boolean), Jvm.Cond.code ({ cls := "com/example/graticule/graticule/fes/Values", name := "isNumber", desc := "(Lcom/example/graticule/graticule/feature/AttributeType;)Z" } : Jvm.MethodName) prog_9_method_3_code (1 : Nat) (Option.some Jvm.ClassFile.FieldType.boolean)]
set_option maxRecDepth 65536 in
theorem codes_eq : words1.filter isCode = codes1 := rfl
theorem w_codes : ∀ c ∈ words1.filter isCode, c.before args0 about1 = true := by
  rw [codes_eq]
  intro c hc
  simp only [codes1, List.mem_cons, List.not_mem_nil, or_false] at hc
  rcases hc with rfl | rfl | rfl | rfl | rfl
  · exact w_c0
  · exact w_c1
  · exact w_c2
  · exact w_c3
  · exact w_c4
set_option maxRecDepth 65536 in
theorem w_t1 : (words1.take 24).all (fun c => isCode c || c.before args0 about1) = true := by decide +kernel
set_option maxRecDepth 65536 in
theorem w_t2 : (words1.drop 24).all (fun c => isCode c || c.before args0 about1) = true := by decide +kernel
theorem w_tables : (allAtoms (Jvm.Cond.code x code maxLocals ret :: tables_1)).before args0 about1 = true := by
  rw [allAtoms_all]
  show words1.all (fun c => c.before args0 about1) = true
  refine all_split ?_ w_codes
  rw [← List.take_append_drop 24 words1, List.all_append, w_t1, w_t2]
  rfl
set_option maxRecDepth 65536 in
theorem w_case : (Jvm.Cond.and given_1 narrow_1).before args0 about1 = true := by decide +kernel
theorem w_applies : (headSpec (Jvm.Cond.code x code maxLocals ret :: tables_1) room_1).applies x e0.platform about1 = true :=
  (Spec.applies_iff w_frames).mpr ⟨w_running, w_runnable, w_alone, w_named, w_hears, w_ripe, w_room, w_tables⟩
theorem atStart : AtStart classFile x code maxLocals ret World_1 tables_1 room_1 Calls_1 rest_1 Pre_1 launch0 p0 e0 about1 theMethod args0 below0 :=
  ⟨lists_1, trivial, launch0.admits_env _ _ _, launch0.least_env, fairChoices_fair.cas, fairChoices_fair.clock, w_frames, w_args, w_heap, w_applies, trivial, trivial, w_case⟩
end start1
theorem witness_1 : WitnessClaimed_1 := ⟨start1.p0, start1.e0, start1.about1, start1.theMethod, start1.args0, start1.below0, start1.atStart⟩
end Jvm.Pilot.@@N@@
