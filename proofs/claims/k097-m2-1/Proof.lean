import JvmDerived
import JvmDerived.Pilot.@@N@@Statement
import JvmDerived.Pilot.@@N@@Code
set_option linter.unusedVariables false
set_option linter.unusedSimpArgs false
namespace Jvm.Pilot.@@N@@
open Jvm Jvm.ClassFile Sem Op Lib Jvm.Free Jvm.Stand Jvm.LawKit Jvm.RoadKit Bundle Jvm.Pilot.@@N@@.Jvm.D
/-! The shared layer of these proofs (own text): a contract of one body (own_Ct), how a walk goes on and ends (own_Fin), one lemma a kind of call and of return. -/
section OwnLayer
variable {p : Program} {l : Launch} {e : Env} {R rm : Room} {s Z : State} {m : MethodId} {args as' a0 : Array Value} {below : List Frame} {meth : Method} {c : Code} {T : State} {locs : List Loc} {cells slots : Nat} {h : Heap}
  {Q : Option Value → Heap → List Loc → Prop} {y z : MethodName} {bytes : ByteArray} {maxL : Nat} {ret : Option FieldType} {own C : String} {index : Nat}
def own_Ct (l : Launch) (Z : State) (y : MethodName) (bytes : ByteArray) (maxL : Nat) (ret : Option FieldType) (rm : Room) (as' : Array Value) (h0 : Heap) (Q : Option Value → Heap → List Loc → Prop) : Prop :=
  ∀ ws : List Jvm.Cond, MetFree l y (head1 (Jvm.Cond.code y bytes maxL ret :: ws) rm) (fun a U => a = as' ∧ Z.Warmed39 U.vm ∧ U.heap = h0) (fun _ _ _ _ _ => True) (fun _ U o U' => ∃ v L, o = .returned v ∧ Q v U'.heap L ∧ FrameEnd U o U' L rm.cells rm.slots)
def own_Fin (p : Program) (e : Env) (s : State) (below : List Frame) (R : Room) (Q : Option Value → Heap → List Loc → Prop) (A : State) : Prop :=
  ∃ n o, Steps p.tables e below A n ∧ n.status = .running ∧ Ended n below o ∧ ∃ v L, o = .returned v ∧ Q v n.heap L ∧ FrameEnd s o n L R.cells R.slots
theorem own_to {A : State} (B : State) (st : ∀ t, Steps p.tables e below B t → Steps p.tables e below A t) (k : own_Fin p e s below R Q B) : own_Fin p e s below R Q A := by
  obtain ⟨n, o, h1, r⟩ := k
  exact ⟨n, o, st _ h1, r⟩
theorem own_body {h0 : Heap} (hp : plainFor y = true)
    (k : ∀ p e s m below meth c s₁, p.tables.exec = Jvm.exec → Z.Warmed39 s.vm → c.code = bytes → c.maxLocals = maxL → s.vm.findClass y.cls = some m.cls → meth.name = y.name → meth.sig.returnType = ret → meth.locks = false →
      Stand p l e rm s m as' below meth c s₁ [] 0 0 → s₁.heap = h0 → own_Fin p e s below rm Q (s₁.setTop (entryFrame m as' maxL))) : own_Ct l Z y bytes maxL ret rm as' h0 Q := by
  intro ws
  refine MetFree.of_bodySF hp hisR ?_
  intro p e s m args below meth c s₁ Bd hml0 hP hK
  obtain ⟨ha, hZ, hh⟩ := hP
  subst ha
  obtain ⟨n, o, h1, h2, h3, h4⟩ := k p e s m below meth c s₁ Bd.exec hZ Bd.bytes hml0 (findClass_of_methodNamed Bd.named) (name_of_methodNamed Bd.named Bd.method).1 Bd.returns Bd.notSynchronized (Stand.of_body Bd) (by rw [← hh, Bd.state]; rfl)
  exact ⟨n, o, h1, h2, h3, h4⟩
theorem own_retI (X : Stand p l e R s m args below meth c T locs cells slots) (hx : p.tables.exec = Jvm.exec) (hret : meth.sig.returnType = some .int) (hk : meth.locks = false) {pc : Nat} {Ls : Array Slot} {i : Int32} {rest : List Value}
    (hd : decode c.code pc = .ok (.ireturn, 1)) (hc : cells ≤ R.cells) (hs : slots ≤ R.slots) (hq : Q (some (.int i)) T.heap locs) : own_Fin p e s below R Q (T.setTop (mkF m pc Ls (.int i :: rest))) := by
  obtain ⟨fs, hr, hrun, hended, hW, hsame⟩ := X.leave (v := some (.int i)) (fun h => by rw [hret] at h; cases h) hk
  exact ⟨_, _, retOut X hx hret rfl (Or.inl ⟨rfl, Or.inl rfl, _, rfl⟩) hd hr, hrun, hended, _, _, rfl, hq, ⟨_, rfl⟩, hW, hsame.mono hc hs⟩
theorem own_retZ (X : Stand p l e R s m args below meth c T locs cells slots) (hx : p.tables.exec = Jvm.exec) (hret : meth.sig.returnType = some .boolean) (hk : meth.locks = false) {pc : Nat} {Ls : Array Slot} {i i' : Int32} {rest : List Value}
    (hd : decode c.code pc = .ok (.ireturn, 1)) (hc : cells ≤ R.cells) (hs : slots ≤ R.slots) (hi : nar .boolean i = i') (hq : Q (some (.int i')) T.heap locs) : own_Fin p e s below R Q (T.setTop (mkF m pc Ls (.int i :: rest))) := by
  subst hi
  obtain ⟨fs, hr, hrun, hended, hW, hsame⟩ := X.leave (v := some (.int (nar .boolean i))) (fun h => by rw [hret] at h; cases h) hk
  exact ⟨_, _, retN X hx (t := .boolean) hret (by simp) hd hr, hrun, hended, _, _, rfl, hq, ⟨_, rfl⟩, hW, hsame.mono hc hs⟩
theorem own_retJ (X : Stand p l e R s m args below meth c T locs cells slots) (hx : p.tables.exec = Jvm.exec) (hret : meth.sig.returnType = some .long) (hk : meth.locks = false) {pc : Nat} {Ls : Array Slot} {i : Int64} {rest : List Value}
    (hd : decode c.code pc = .ok (.lreturn, 1)) (hc : cells ≤ R.cells) (hs : slots ≤ R.slots) (hq : Q (some (.long i)) T.heap locs) : own_Fin p e s below R Q (T.setTop (mkF m pc Ls (.long i :: rest))) := by
  obtain ⟨fs, hr, hrun, hended, hW, hsame⟩ := X.leave (v := some (.long i)) (fun h => by rw [hret] at h; cases h) hk
  exact ⟨_, _, retOut X hx hret rfl (Or.inr (Or.inl ⟨rfl, rfl, _, rfl⟩)) hd hr, hrun, hended, _, _, rfl, hq, ⟨_, rfl⟩, hW, hsame.mono hc hs⟩
theorem own_retA (X : Stand p l e R s m args below meth c T locs cells slots) (hx : p.tables.exec = Jvm.exec) {t : FieldType} (hret : meth.sig.returnType = some t) (ht : t.isReference = true) (hk : meth.locks = false) {pc : Nat} {Ls : Array Slot} {v : Value} (hv : v.isRef = true) (hn : narrow t v = v) {rest : List Value}
    (hd : decode c.code pc = .ok (.areturn, 1)) (hc : cells ≤ R.cells) (hs : slots ≤ R.slots) (hq : Q (some v) T.heap locs) : own_Fin p e s below R Q (T.setTop (mkF m pc Ls (v :: rest))) := by
  obtain ⟨fs, hr, hrun, hended, hW, hsame⟩ := X.leave (v := some v) (fun h => by rw [hret] at h; cases h) hk
  exact ⟨_, _, retOut X hx hret hn (Or.inr (Or.inr (Or.inr (Or.inr ⟨rfl, ht, hv⟩)))) hd hr, hrun, hended, _, _, rfl, hq, ⟨_, rfl⟩, hW, hsame.mono hc hs⟩
theorem own_retV (X : Stand p l e R s m args below meth c T locs cells slots) (hx : p.tables.exec = Jvm.exec) (hret : meth.sig.returnType = none) (hk : meth.locks = false) {pc : Nat} {Ls : Array Slot}
    (hd : decode c.code pc = .ok (.return_, 1)) (hc : cells ≤ R.cells) (hs : slots ≤ R.slots) (hq : Q none T.heap locs) : own_Fin p e s below R Q (T.setTop (mkF m pc Ls [])) := by
  obtain ⟨fs, hr, hrun, hended, hW, hsame⟩ := X.leave (v := none) (fun _ => rfl) hk
  exact ⟨_, _, X.returnOut hx hret hd hr, hrun, hended, _, _, rfl, hq, ⟨_, rfl⟩, hW, hsame.mono hc hs⟩
theorem own_callV (X : Stand p l e R s m args below meth c T locs cells slots) (hx : p.tables.exec = Jvm.exec) (hZ : Z.Warmed39 s.vm) (hown : s.vm.findClass own = some m.cls) (w1 : (Cond.methodLink own index y).before a0 Z = true) (w2 : (Cond.declares y).before a0 Z = true)
    (w3 : (Cond.selects C y z).before a0 Z = true) (nf : NotFace s y) (w4 : (Cond.instanceMethod z).before a0 Z = true) (w5 : (Cond.code z bytes maxL ret).before a0 Z = true) (w6 : (Cond.initialized z.cls).before a0 Z = true) (hy : y.cls ≠ "java/lang/invoke/MethodHandle" ∧ y.cls ≠ "java/lang/invoke/VarHandle")
    (eT : T.heap = h) {b : Addr} (E : Exa Z h b C) {argsL rest : List Value} (ct : own_Ct l Z z bytes maxL ret rm (.ref b :: argsL).toArray h Q) (hf : rm.frames + 1 ≤ R.frames) {W : Nat} (hl : W + (maxL + 11) + rm.locals ≤ R.locals) (hc : cells + rm.cells ≤ R.cells) (hs : slots + rm.slots ≤ R.slots)
    {ps : List FieldType} {r : Option FieldType} (hpd : parseMethodDescriptor y.desc = some ⟨ps, r⟩) (hll : argsL.length = ps.length) {pc : Nat} {Ls : Array Slot} (hsz : Ls.size = c.maxLocals) (hW : (rest.map fun v => v.category).sum ≤ W) (hd : decode c.code pc = .ok (.invokevirtual index, 3)) :
    ∃ v T' L, Stand p l e R s m args below meth c T' (locs ++ L) (cells + rm.cells) (slots + rm.slots) ∧ Q v T'.heap L ∧ ∀ t, Steps p.tables e below (T'.setTop (mkF m (pc + 3) Ls (v.toList ++ rest))) t → Steps p.tables e below (T.setTop (mkF m pc Ls (argsL.reverse ++ .ref b :: rest))) t := by
  obtain ⟨cB, kB, q1, q2, q3⟩ := isOf hZ eT E
  obtain ⟨v, _, ⟨T', L', k', n'⟩, -, X', ⟨L, hQ, l1, y1, z1⟩, st⟩ := X.virtualBack hx (y := y) (z := z) hown (mvT hZ w1) (mvT hZ w2) nf (mvT hZ w3) (mvT hZ w4) hy (backOf (W := W) (ct []) hZ w5 w6 hf hl) q1 q3
    (g := mkF m pc Ls (argsL.reverse ++ .ref b :: rest)) rfl hsz (Steps.refl _) (argsL := argsL) (rest := rest) (lenOf hpd hll) rfl (by show 2 * 0 + _ ≤ _; rw [Nat.mul_zero, Nat.zero_add]; exact hW) hd (fun _ _ => ⟨rfl, eT, hc, hs⟩)
  dsimp only [Pt.U, Pt.locs, Pt.cells, Pt.slots] at X' l1 y1 z1 st hQ
  subst l1 y1 z1
  exact ⟨v, T', L, X', hQ, fun t k => st.trans k⟩
theorem own_callS (X : Stand p l e R s m args below meth c T locs cells slots) (hx : p.tables.exec = Jvm.exec) (hZ : Z.Warmed39 s.vm) (hown : s.vm.findClass own = some m.cls) (w1 : (Cond.methodLink own index y).before a0 Z = true) (w2 : (Cond.static y).before a0 Z = true)
    (w5 : (Cond.code y bytes maxL ret).before a0 Z = true) (w6 : (Cond.initialized y.cls).before a0 Z = true) (hy : y.cls ≠ "java/lang/invoke/MethodHandle" ∧ y.cls ≠ "java/lang/invoke/VarHandle")
    (eT : T.heap = h) {argsL rest : List Value} (ct : own_Ct l Z y bytes maxL ret rm argsL.toArray h Q) (hf : rm.frames + 1 ≤ R.frames) {W : Nat} (hl : W + (maxL + 11) + rm.locals ≤ R.locals) (hc : cells + rm.cells ≤ R.cells) (hs : slots + rm.slots ≤ R.slots)
    {ps : List FieldType} {r : Option FieldType} (hpd : parseMethodDescriptor y.desc = some ⟨ps, r⟩) (hll : argsL.length = ps.length) {pc : Nat} {Ls : Array Slot} (hsz : Ls.size = c.maxLocals) (hW : (rest.map fun v => v.category).sum ≤ W) (hd : decode c.code pc = .ok (.invokestatic index, 3)) :
    ∃ v T' L, Stand p l e R s m args below meth c T' (locs ++ L) (cells + rm.cells) (slots + rm.slots) ∧ Q v T'.heap L ∧ ∀ t, Steps p.tables e below (T'.setTop (mkF m (pc + 3) Ls (v.toList ++ rest))) t → Steps p.tables e below (T.setTop (mkF m pc Ls (argsL.reverse ++ rest))) t := by
  obtain ⟨v, _, ⟨T', L', k', n'⟩, -, X', ⟨L, hQ, l1, y1, z1⟩, st⟩ := Jvm.LawKit.callS X hx (y := y) hown (mvT hZ w1) (mvT hZ w2) (mvT hZ w6) (mvT hZ w5) hy (backOf (W := W) (ct []) hZ w5 w6 hf hl)
    (g := mkF m pc Ls (argsL.reverse ++ rest)) rfl hsz (argsL := argsL) (rest := rest) (lenOf hpd hll) rfl (by show 2 * 0 + _ ≤ _; rw [Nat.mul_zero, Nat.zero_add]; exact hW) hd (fun _ _ => ⟨rfl, eT, hc, hs⟩)
  dsimp only [Pt.U, Pt.locs, Pt.cells, Pt.slots] at X' l1 y1 z1 st hQ
  subst l1 y1 z1
  exact ⟨v, T', L, X', hQ, fun t k => st t k⟩
theorem own_callN (X : Stand p l e R s m args below meth c T locs cells slots) (hx : p.tables.exec = Jvm.exec) (hZ : Z.Warmed39 s.vm) (hown : s.vm.findClass own = some m.cls) (hn : y.name = "<init>") (w1 : (Cond.methodLink own index y).before a0 Z = true) (w2 : (Cond.instanceMethod y).before a0 Z = true)
    (w5 : (Cond.code y bytes maxL none).before a0 Z = true) (w6 : (Cond.initialized y.cls).before a0 Z = true) (hy : y.cls ≠ "java/lang/invoke/MethodHandle" ∧ y.cls ≠ "java/lang/invoke/VarHandle")
    (eT : T.heap = h) {b : Addr} {argsL rest : List Value} (ct : own_Ct l Z y bytes maxL none rm (.ref b :: argsL).toArray h Q) (hf : rm.frames + 1 ≤ R.frames) {W : Nat} (hl : W + (maxL + 11) + rm.locals ≤ R.locals) (hc : cells + rm.cells ≤ R.cells) (hs : slots + rm.slots ≤ R.slots)
    {ps : List FieldType} {r : Option FieldType} (hpd : parseMethodDescriptor y.desc = some ⟨ps, r⟩) (hll : argsL.length = ps.length) {pc : Nat} {Ls : Array Slot} (hsz : Ls.size = c.maxLocals) (hW : (rest.map fun v => v.category).sum ≤ W) (hd : decode c.code pc = .ok (.invokespecial index, 3)) :
    ∃ v T' L, Stand p l e R s m args below meth c T' (locs ++ L) (cells + rm.cells) (slots + rm.slots) ∧ Q v T'.heap L ∧ ∀ t, Steps p.tables e below (T'.setTop (mkF m (pc + 3) Ls (v.toList ++ rest))) t → Steps p.tables e below (T.setTop (mkF m pc Ls (argsL.reverse ++ .ref b :: rest))) t := by
  obtain ⟨v, _, ⟨T', L', k', n'⟩, -, X', ⟨L, hQ, l1, y1, z1⟩, st⟩ := X.specialBack hx (y := y) hn hown (mvT hZ w1) (mvT hZ w2) (mvT hZ w5) hy (backOf (W := W) (ct []) hZ w5 w6 hf hl)
    (g := mkF m pc Ls (argsL.reverse ++ .ref b :: rest)) rfl hsz (Steps.refl _) (a := b) (argsL := argsL) (rest := rest) (lenOf hpd hll) rfl (by show 2 * 0 + _ ≤ _; rw [Nat.mul_zero, Nat.zero_add]; exact hW) hd (fun _ _ => ⟨rfl, eT, hc, hs⟩)
  dsimp only [Pt.U, Pt.locs, Pt.cells, Pt.slots] at X' l1 y1 z1 st hQ
  subst l1 y1 z1
  exact ⟨v, T', L, X', hQ, fun t k => st.trans k⟩
theorem own_staK {h' : Heap} {ws : List Addr} {n d : String} {v : Value} (F : Sta Z h C n d v) (K : Keep h h' ws) (hws : ∀ x ∈ ws, ∀ cl : Cell, h[x]? = some cl → cl.vm.isStatics = false) : Sta Z h' C n d v := by
  obtain ⟨cf, i, k, f, st, cell, h1, h2, h3, h4, h5, h6, h7⟩ := F
  refine ⟨cf, i, k, f, st, cell, h1, h2, h3, h4, K.2.1 st cell h5 (fun q => ?_), h6, h7⟩
  rw [hws st q cell h5] at h6; cases h6
theorem own_exaS {a : Addr} (E : Exa Z h a C) : ∀ cl : Cell, h[a]? = some cl → cl.vm.isStatics = false := by
  obtain ⟨cell, k, h1, -, -, h4, -⟩ := E
  intro cl q
  cases h1.symm.trans q
  exact h4
theorem own_len {t : Term} {n : Int32} {cl : Cell} {a : Addr} (hl : (Term.length t).eval args Z none [] Z = some (.int n)) (et : t.eval args Z none [] Z = some (.ref a)) (ea : Z.arrayAt? a = some cl) : cl.slots.size < 2 ^ 31 ∧ cl.slots.size.toInt32 = n := by
  simp only [Term.eval, Option.bind_eq_bind, et, Option.bind_some, ea] at hl
  by_cases q : cl.slots.size < 2 ^ 31
  · simp [q] at hl; exact ⟨q, hl⟩
  · simp [q] at hl
theorem own_subE {i j : Term} {x w : Int32} {idx : List Nat} (hi : i.eval args Z none idx Z = some (.int x)) (hj : j.eval args Z none idx Z = some (.int w)) : (Term.sub i j).eval args Z none idx Z = some (.int (x - w)) := by simp [Term.eval, hi, hj]
end OwnLayer
theorem d1_0 : decode prog_22_method_1_code 0 = .ok (.aload_n 0, 1) := by decide +kernel
theorem d1_1 : decode prog_22_method_1_code 1 = .ok (.invokespecial 1, 3) := by decide +kernel
theorem d1_4 : decode prog_22_method_1_code 4 = .ok (.aload_n 0, 1) := by decide +kernel
theorem d1_5 : decode prog_22_method_1_code 5 = .ok (.iload_n 1, 1) := by decide +kernel
theorem d1_6 : decode prog_22_method_1_code 6 = .ok (.putfield 7, 3) := by decide +kernel
theorem d1_9 : decode prog_22_method_1_code 9 = .ok (.aload_n 0, 1) := by decide +kernel
theorem d1_10 : decode prog_22_method_1_code 10 = .ok (.iload_n 2, 1) := by decide +kernel
theorem d1_11 : decode prog_22_method_1_code 11 = .ok (.putfield 13, 3) := by decide +kernel
theorem d1_14 : decode prog_22_method_1_code 14 = .ok (.return_, 1) := by decide +kernel
theorem pn_1 : plainFor (⟨"com/example/sosia/sosia/model/Match", "<init>", "(II)V"⟩ : MethodName) = true := by first | exact plainFor_of_name (by first | (simp [plainName, overriddenIn]; done) | decide +kernel) | decide +kernel
theorem pd_1 : parseMethodDescriptor "(II)V" = some ⟨[.int, .int], none⟩ := by decide +kernel
theorem d3_0 : decode jdk_33_method_22_code 0 = .ok (.iload_n 0, 1) := by decide +kernel
theorem d3_1 : decode jdk_33_method_22_code 1 = .ok (.bipush (-128), 2) := by decide +kernel
theorem d3_3 : decode jdk_33_method_22_code 3 = .ok (.if_icmp .lt 20, 3) := by decide +kernel
theorem d3_6 : decode jdk_33_method_22_code 6 = .ok (.iload_n 0, 1) := by decide +kernel
theorem d3_7 : decode jdk_33_method_22_code 7 = .ok (.getstatic 191, 3) := by decide +kernel
theorem d3_10 : decode jdk_33_method_22_code 10 = .ok (.if_icmp .gt 13, 3) := by decide +kernel
theorem d3_13 : decode jdk_33_method_22_code 13 = .ok (.getstatic 195, 3) := by decide +kernel
theorem d3_16 : decode jdk_33_method_22_code 16 = .ok (.iload_n 0, 1) := by decide +kernel
theorem d3_17 : decode jdk_33_method_22_code 17 = .ok (.sipush 128, 3) := by decide +kernel
theorem d3_20 : decode jdk_33_method_22_code 20 = .ok (.iadd, 1) := by decide +kernel
theorem d3_21 : decode jdk_33_method_22_code 21 = .ok (.aaload, 1) := by decide +kernel
theorem d3_22 : decode jdk_33_method_22_code 22 = .ok (.areturn, 1) := by decide +kernel
theorem d3_23 : decode jdk_33_method_22_code 23 = .ok (.new 1, 3) := by decide +kernel
theorem d3_26 : decode jdk_33_method_22_code 26 = .ok (.dup, 1) := by decide +kernel
theorem d3_27 : decode jdk_33_method_22_code 27 = .ok (.iload_n 0, 1) := by decide +kernel
theorem d3_28 : decode jdk_33_method_22_code 28 = .ok (.invokespecial 199, 3) := by decide +kernel
theorem d3_31 : decode jdk_33_method_22_code 31 = .ok (.areturn, 1) := by decide +kernel
theorem pn_3 : plainFor (⟨"java/lang/Integer", "valueOf", "(I)Ljava/lang/Integer;"⟩ : MethodName) = true := by first | exact plainFor_of_name (by first | (simp [plainName, overriddenIn]; done) | decide +kernel) | decide +kernel
theorem pd_3 : parseMethodDescriptor "(I)Ljava/lang/Integer;" = some ⟨[.int], some (.object "java/lang/Integer")⟩ := by decide +kernel
theorem d4_0 : decode prog_22_method_5_code 0 = .ok (.aload_n 1, 1) := by decide +kernel
theorem d4_1 : decode prog_22_method_5_code 1 = .ok (.instanceof 8, 3) := by decide +kernel
theorem d4_4 : decode prog_22_method_5_code 4 = .ok (.ifCond .eq 34, 3) := by decide +kernel
theorem d4_7 : decode prog_22_method_5_code 7 = .ok (.aload_n 1, 1) := by decide +kernel
theorem d4_8 : decode prog_22_method_5_code 8 = .ok (.checkcast 8, 3) := by decide +kernel
theorem d4_11 : decode prog_22_method_5_code 11 = .ok (.astore_n 2, 1) := by decide +kernel
theorem d4_12 : decode prog_22_method_5_code 12 = .ok (.aload_n 2, 1) := by decide +kernel
theorem d4_13 : decode prog_22_method_5_code 13 = .ok (.getfield 7, 3) := by decide +kernel
theorem d4_16 : decode prog_22_method_5_code 16 = .ok (.aload_n 0, 1) := by decide +kernel
theorem d4_17 : decode prog_22_method_5_code 17 = .ok (.getfield 7, 3) := by decide +kernel
theorem d4_20 : decode prog_22_method_5_code 20 = .ok (.if_icmp .ne 18, 3) := by decide +kernel
theorem d4_23 : decode prog_22_method_5_code 23 = .ok (.aload_n 2, 1) := by decide +kernel
theorem d4_24 : decode prog_22_method_5_code 24 = .ok (.getfield 13, 3) := by decide +kernel
theorem d4_27 : decode prog_22_method_5_code 27 = .ok (.aload_n 0, 1) := by decide +kernel
theorem d4_28 : decode prog_22_method_5_code 28 = .ok (.getfield 13, 3) := by decide +kernel
theorem d4_31 : decode prog_22_method_5_code 31 = .ok (.if_icmp .ne 7, 3) := by decide +kernel
theorem d4_34 : decode prog_22_method_5_code 34 = .ok (.iconst 1, 1) := by decide +kernel
theorem d4_35 : decode prog_22_method_5_code 35 = .ok (.goto 4, 3) := by decide +kernel
theorem d4_38 : decode prog_22_method_5_code 38 = .ok (.iconst 0, 1) := by decide +kernel
theorem d4_39 : decode prog_22_method_5_code 39 = .ok (.ireturn, 1) := by decide +kernel
theorem pn_4 : plainFor (⟨"com/example/sosia/sosia/model/Match", "equals", "(Ljava/lang/Object;)Z"⟩ : MethodName) = true := by first | exact plainFor_of_name (by first | (simp [plainName, overriddenIn]; done) | decide +kernel) | decide +kernel
theorem pd_4 : parseMethodDescriptor "(Ljava/lang/Object;)Z" = some ⟨[(.object "java/lang/Object")], some .boolean⟩ := by decide +kernel
theorem d5_0 : decode jdk_33_method_23_code 0 = .ok (.aload_n 0, 1) := by decide +kernel
theorem d5_1 : decode jdk_33_method_23_code 1 = .ok (.invokespecial 202, 3) := by decide +kernel
theorem d5_4 : decode jdk_33_method_23_code 4 = .ok (.aload_n 0, 1) := by decide +kernel
theorem d5_5 : decode jdk_33_method_23_code 5 = .ok (.iload_n 1, 1) := by decide +kernel
theorem d5_6 : decode jdk_33_method_23_code 6 = .ok (.putfield 205, 3) := by decide +kernel
theorem d5_9 : decode jdk_33_method_23_code 9 = .ok (.return_, 1) := by decide +kernel
theorem pn_5 : plainFor (⟨"java/lang/Integer", "<init>", "(I)V"⟩ : MethodName) = true := by first | exact plainFor_of_name (by first | (simp [plainName, overriddenIn]; done) | decide +kernel) | decide +kernel
theorem pd_5 : parseMethodDescriptor "(I)V" = some ⟨[.int], none⟩ := by decide +kernel
theorem d6_0 : decode jdk_18_method_1_code 0 = .ok (.aload_n 0, 1) := by decide +kernel
theorem d6_1 : decode jdk_18_method_1_code 1 = .ok (.invokespecial 1, 3) := by decide +kernel
theorem d6_4 : decode jdk_18_method_1_code 4 = .ok (.return_, 1) := by decide +kernel
theorem pn_6 : plainFor (⟨"java/lang/Number", "<init>", "()V"⟩ : MethodName) = true := by first | exact plainFor_of_name (by first | (simp [plainName, overriddenIn]; done) | decide +kernel) | decide +kernel
theorem pd_6 : parseMethodDescriptor "()V" = some ⟨[], none⟩ := by decide +kernel
theorem pn_0 : plainFor (⟨"com/example/sosia/sosia/model/MatchEqualsPinLaw", "law", "(IIIII)Z"⟩ : MethodName) = true := by first | exact plainFor_of_name (by first | (simp [plainName, overriddenIn]; done) | decide +kernel) | decide +kernel
theorem pd_0 : parseMethodDescriptor "(IIIII)Z" = some ⟨[.int, .int, .int, .int, .int], some .boolean⟩ := by decide +kernel
theorem ef_1 (m : MethodId) (x0 : Addr) (x1 : Int32) (x2 : Int32) : entryFrame m #[(.ref x0), (.int x1), (.int x2)] 3 = mkF m 0 #[.val (.ref x0), .val (.int x1), .val (.int x2)] [] := by first | (simp [entryFrame, mkF, argsToLocals, Value.category]; done) | rfl
def Q1 (Z : State) (a : Addr) (x y : Int32) (h0 : Heap) (n0 : Nat) (v : Option Value) (h : Heap) (L : List Loc) : Prop := v = none ∧ Fr n0 L ∧ Keep h0 h [a] ∧ Fld Z h a "com/example/sosia/sosia/model/Match" "entry" "I" (.int x) ∧ Fld Z h a "com/example/sosia/sosia/model/Match" "distance" "I" (.int y)
set_option maxRecDepth 65536 in
set_option maxHeartbeats 40000000 in
theorem rm1 (l : Launch) (Z : State) (a0 : Array Value) (hw : ∀ d ∈ tables_1, d.before a0 Z = true) (a : Addr) (x y : Int32) (h0 : Heap) (n0 : Nat) (Z0 : n0 ≤ h0.size) (g : n0 ≤ a) (E : Exa Z h0 a "com/example/sosia/sosia/model/Match") (F0 : Fld Z h0 a "com/example/sosia/sosia/model/Match" "entry" "I" (.int (0 : Int32))) (F1 : Fld Z h0 a "com/example/sosia/sosia/model/Match" "distance" "I" (.int (0 : Int32))) :
    own_Ct l Z (⟨"com/example/sosia/sosia/model/Match", "<init>", "(II)V"⟩ : MethodName) prog_22_method_1_code 3 none ({ frames := 1, cells := 0, slots := 0, locals := 12 } : Room) #[(.ref a), (.int x), (.int y)] h0 (Q1 Z a x y h0 n0) := by
  refine own_body pn_1 ?_
  intro p e s m below meth cd s₁ hx hZ hby hml hown hnm hret hk X0 e0
  have N0 := Fr.nil n0
  refine own_to (s₁.setTop (mkF m 0 #[.val (.ref a), .val (.int x), .val (.int y)] [])) (fun t k => castTop (ef_1 m a x y) k) ?_
  have K11 : Keep h0 h0 [a] := Keep.refl _ _
  refine own_to (s₁.setTop (mkF m 1 #[.val (.ref a), .val (.int x), .val (.int y)] [(.ref a)])) (fun t k => XS.aloadN X0.here hx rfl (hb hby d1_0) rfl rfl k) ?_
  obtain ⟨T12, X12, e12, st12⟩ := initO X0 hx hZ hown (hw _ (List.mem_of_getElem? (i := 6) rfl)) (hw _ (List.mem_of_getElem? (i := 7) rfl)) (hw _ (List.mem_of_getElem? (i := 8) rfl)) e0 (g := (mkF m 1 #[.val (.ref a), .val (.int x), .val (.int y)] [(.ref a)])) rfl (by rw [hml]; rfl) rfl (hb hby d1_1) (by decide) (W := 0) (by show 2 * 0 + _ ≤ _; exact Nat.le_of_eq rfl) (by decide)
  refine own_to (T12.setTop (mkF m 4 #[.val (.ref a), .val (.int x), .val (.int y)] [])) (fun t k => st12 t k) ?_
  refine own_to (T12.setTop (mkF m 5 #[.val (.ref a), .val (.int x), .val (.int y)] [(.ref a)])) (fun t k => XS.aloadN X12.here hx rfl (hb hby d1_4) rfl rfl k) ?_
  refine own_to (T12.setTop (mkF m 6 #[.val (.ref a), .val (.int x), .val (.int y)] [(.int x), (.ref a)])) (fun t k => XS.iloadN X12.here hx rfl (hb hby d1_5) rfl k) ?_
  obtain ⟨T13, h13, X13, e13, W13, st13⟩ := putF X12 hx hZ hown (host := "") (Or.inl (hw _ (List.mem_of_getElem? (i := 9) rfl))) Via.refl e12 F0 E (Or.inr ⟨(hw _ (List.mem_of_getElem? (i := 10) rfl)), rfl, hnm⟩) (hw _ (List.mem_of_getElem? (i := 1) rfl)) (ty := .int) (by decide) rfl rfl (g := (mkF m 6 #[.val (.ref a), .val (.int x), .val (.int y)] [(.int x), (.ref a)])) rfl rfl (hb hby d1_6)
  have N13 := Fr.snoc X13 N0 g
  have F14 := E.wr W13
  have F15 := F0.same W13
  have F16 := F1.other W13 (Or.inr (slot_ne (Or.inr (hw _ (List.mem_of_getElem? (i := 12) rfl))) (Or.inr (hw _ (List.mem_of_getElem? (i := 10) rfl))) (by decide) (by rfl) (by rfl)))
  have Z17 : n0 ≤ h13.size := by rw [W13.size]; exact Z0
  have K18 : Keep h0 h13 [a] := K11.wr W13 (Or.inl (List.mem_of_getElem? (i := 0) rfl))
  refine own_to (T13.setTop (mkF m 9 #[.val (.ref a), .val (.int x), .val (.int y)] [])) (fun t k => st13 t k) ?_
  refine own_to (T13.setTop (mkF m 10 #[.val (.ref a), .val (.int x), .val (.int y)] [(.ref a)])) (fun t k => XS.aloadN X13.here hx rfl (hb hby d1_9) rfl rfl k) ?_
  refine own_to (T13.setTop (mkF m 11 #[.val (.ref a), .val (.int x), .val (.int y)] [(.int y), (.ref a)])) (fun t k => XS.iloadN X13.here hx rfl (hb hby d1_10) rfl k) ?_
  obtain ⟨T19, h19, X19, e19, W19, st19⟩ := putF X13 hx hZ hown (host := "") (Or.inl (hw _ (List.mem_of_getElem? (i := 11) rfl))) Via.refl e13 F16 F14 (Or.inr ⟨(hw _ (List.mem_of_getElem? (i := 12) rfl)), rfl, hnm⟩) (hw _ (List.mem_of_getElem? (i := 1) rfl)) (ty := .int) (by decide) rfl rfl (g := (mkF m 11 #[.val (.ref a), .val (.int x), .val (.int y)] [(.int y), (.ref a)])) rfl rfl (hb hby d1_11)
  have N19 := Fr.snoc X19 N13 g
  have F20 := F14.wr W19
  have F21 := F15.other W19 (Or.inr (slot_ne (Or.inr (hw _ (List.mem_of_getElem? (i := 10) rfl))) (Or.inr (hw _ (List.mem_of_getElem? (i := 12) rfl))) (by decide) (by rfl) (by rfl)))
  have F22 := F16.same W19
  have Z23 : n0 ≤ h19.size := by rw [W19.size]; exact Z17
  have K24 : Keep h0 h19 [a] := K18.wr W19 (Or.inl (List.mem_of_getElem? (i := 0) rfl))
  refine own_to (T19.setTop (mkF m 14 #[.val (.ref a), .val (.int x), .val (.int y)] [])) (fun t k => st19 t k) ?_
  exact own_retV X19 hx hret hk (hb hby d1_14) (by decide) (by decide) ⟨rfl, N19, (by rw [e19]; exact K24), (by rw [e19]; exact F21), (by rw [e19]; exact F22)⟩
theorem ef_6 (m : MethodId) (x0 : Addr) : entryFrame m #[(.ref x0)] 1 = mkF m 0 #[.val (.ref x0)] [] := by first | (simp [entryFrame, mkF, argsToLocals, Value.category]; done) | rfl
def Q6 (Z : State) (a : Addr) (h0 : Heap) (n0 : Nat) (v : Option Value) (h : Heap) (L : List Loc) : Prop := v = none ∧ Fr n0 L ∧ h = h0
set_option maxRecDepth 65536 in
set_option maxHeartbeats 40000000 in
theorem rm6 (l : Launch) (Z : State) (a0 : Array Value) (hw : ∀ d ∈ tables_1, d.before a0 Z = true) (a : Addr) (h0 : Heap) (n0 : Nat) (Z0 : n0 ≤ h0.size)  :
    own_Ct l Z (⟨"java/lang/Number", "<init>", "()V"⟩ : MethodName) jdk_18_method_1_code 1 none ({ frames := 1, cells := 0, slots := 0, locals := 12 } : Room) #[(.ref a)] h0 (Q6 Z a h0 n0) := by
  refine own_body pn_6 ?_
  intro p e s m below meth cd s₁ hx hZ hby hml hown hnm hret hk X0 e0
  have N0 := Fr.nil n0
  refine own_to (s₁.setTop (mkF m 0 #[.val (.ref a)] [])) (fun t k => castTop (ef_6 m a) k) ?_
  refine own_to (s₁.setTop (mkF m 1 #[.val (.ref a)] [(.ref a)])) (fun t k => XS.aloadN X0.here hx rfl (hb hby d6_0) rfl rfl k) ?_
  obtain ⟨T11, X11, e11, st11⟩ := initO X0 hx hZ hown (hw _ (List.mem_of_getElem? (i := 42) rfl)) (hw _ (List.mem_of_getElem? (i := 7) rfl)) (hw _ (List.mem_of_getElem? (i := 8) rfl)) e0 (g := (mkF m 1 #[.val (.ref a)] [(.ref a)])) rfl (by rw [hml]; rfl) rfl (hb hby d6_1) (by decide) (W := 0) (by show 2 * 0 + _ ≤ _; exact Nat.le_of_eq rfl) (by decide)
  refine own_to (T11.setTop (mkF m 4 #[.val (.ref a)] [])) (fun t k => st11 t k) ?_
  exact own_retV X11 hx hret hk (hb hby d6_4) (by decide) (by decide) ⟨rfl, N0, e11⟩
theorem ef_5 (m : MethodId) (x0 : Addr) (x1 : Int32) : entryFrame m #[(.ref x0), (.int x1)] 2 = mkF m 0 #[.val (.ref x0), .val (.int x1)] [] := by first | (simp [entryFrame, mkF, argsToLocals, Value.category]; done) | rfl
def Q5 (Z : State) (a : Addr) (x : Int32) (h0 : Heap) (n0 : Nat) (v : Option Value) (h : Heap) (L : List Loc) : Prop := v = none ∧ Fr n0 L ∧ Keep h0 h [a]
set_option maxRecDepth 65536 in
set_option maxHeartbeats 40000000 in
theorem rm5 (l : Launch) (Z : State) (a0 : Array Value) (hw : ∀ d ∈ tables_1, d.before a0 Z = true) (a : Addr) (x : Int32) (h0 : Heap) (n0 : Nat) (Z0 : n0 ≤ h0.size) (g : n0 ≤ a) (E : Exa Z h0 a "java/lang/Integer") (F0 : Fld Z h0 a "java/lang/Integer" "value" "I" (.int (0 : Int32))) :
    own_Ct l Z (⟨"java/lang/Integer", "<init>", "(I)V"⟩ : MethodName) jdk_33_method_23_code 2 none ({ frames := 2, cells := 0, slots := 0, locals := 24 } : Room) #[(.ref a), (.int x)] h0 (Q5 Z a x h0 n0) := by
  refine own_body pn_5 ?_
  intro p e s m below meth cd s₁ hx hZ hby hml hown hnm hret hk X0 e0
  have N0 := Fr.nil n0
  refine own_to (s₁.setTop (mkF m 0 #[.val (.ref a), .val (.int x)] [])) (fun t k => castTop (ef_5 m a x) k) ?_
  have K11 : Keep h0 h0 [a] := Keep.refl _ _
  refine own_to (s₁.setTop (mkF m 1 #[.val (.ref a), .val (.int x)] [(.ref a)])) (fun t k => XS.aloadN X0.here hx rfl (hb hby d5_0) rfl rfl k) ?_
  obtain ⟨v12, T12, L12, X12, hQ12, st12⟩ := own_callN X0 hx hZ hown rfl (hw _ (List.mem_of_getElem? (i := 36) rfl)) (hw _ (List.mem_of_getElem? (i := 37) rfl)) (hw _ (List.mem_of_getElem? (i := 41) rfl)) (hw _ (List.mem_of_getElem? (i := 40) rfl)) (by decide) e0 (b := a) (argsL := []) (rest := []) (rm6 l Z a0 hw a h0 n0 Z0) (by decide) (W := 0) (by decide) (by decide) (by decide) pd_6 rfl (pc := 1) (Ls := #[.val (.ref a), .val (.int x)]) (by rw [hml]; rfl) (Nat.le_of_eq rfl) (hb hby d5_1)
  obtain ⟨rfl, M12, e12⟩ := hQ12
  have N12 := Fr.app N0 M12
  refine own_to (T12.setTop (mkF m 4 #[.val (.ref a), .val (.int x)] [])) (fun t k => st12 t k) ?_
  refine own_to (T12.setTop (mkF m 5 #[.val (.ref a), .val (.int x)] [(.ref a)])) (fun t k => XS.aloadN X12.here hx rfl (hb hby d5_4) rfl rfl k) ?_
  refine own_to (T12.setTop (mkF m 6 #[.val (.ref a), .val (.int x)] [(.int x), (.ref a)])) (fun t k => XS.iloadN X12.here hx rfl (hb hby d5_5) rfl k) ?_
  obtain ⟨T13, h13, X13, e13, W13, st13⟩ := putF X12 hx hZ hown (host := "") (Or.inl (hw _ (List.mem_of_getElem? (i := 43) rfl))) Via.refl e12 F0 E (Or.inr ⟨(hw _ (List.mem_of_getElem? (i := 44) rfl)), rfl, hnm⟩) (hw _ (List.mem_of_getElem? (i := 31) rfl)) (ty := .int) (by decide) rfl rfl (g := (mkF m 6 #[.val (.ref a), .val (.int x)] [(.int x), (.ref a)])) rfl rfl (hb hby d5_6)
  have N13 := Fr.snoc X13 N12 g
  have F14 := E.wr W13
  have F15 := F0.same W13
  have Z16 : n0 ≤ h13.size := by rw [W13.size]; exact Z0
  have K17 : Keep h0 h13 [a] := K11.wr W13 (Or.inl (List.mem_of_getElem? (i := 0) rfl))
  refine own_to (T13.setTop (mkF m 9 #[.val (.ref a), .val (.int x)] [])) (fun t k => st13 t k) ?_
  exact own_retV X13 hx hret hk (hb hby d5_9) (by decide) (by decide) ⟨rfl, N13, (by rw [e13]; exact K17)⟩
theorem ef_3 (m : MethodId) (x0 : Int32) : entryFrame m #[(.int x0)] 1 = mkF m 0 #[.val (.int x0)] [] := by first | (simp [entryFrame, mkF, argsToLocals, Value.category]; done) | rfl
theorem own_box {x : Int32} (h1 : ¬ x < (-128 : Int32)) (h2 : ¬ (127 : Int32) < x) {n : Nat} (hn : n = (256 : Int32).toNatClampNeg) : ¬ (x + (128 : Int32) < 0 ∨ n ≤ (x + (128 : Int32)).toNatClampNeg) := by
  have e0 : (0 : Int32).toInt = 0 := rfl
  have e1 : (128 : Int32).toInt = 128 := rfl
  have e2 : (-128 : Int32).toInt = -128 := rfl
  have e3 : (127 : Int32).toInt = 127 := rfl
  have e4 : (256 : Int32).toNatClampNeg = 256 := rfl
  rw [Int32.lt_iff_toInt_lt] at h1 h2
  have q := c_iadd x 128
  have r := rng32 (x + 128)
  have : (x + 128).toInt = x.toInt + 128 := by omega
  rw [Int32.lt_iff_toInt_lt]
  simp only [Int32.toNatClampNeg]
  omega
def Q3 (Z : State) (x : Int32) (ca : Addr) (cc : Cell) (h0 : Heap) (n0 : Nat) (v : Option Value) (h : Heap) (L : List Loc) : Prop := ∃ b : Addr, v = some (.ref b) ∧ Fr n0 L ∧ Keep h0 h [] ∧ Exa Z h b "java/lang/Integer"
set_option maxRecDepth 65536 in
set_option maxHeartbeats 40000000 in
theorem rm3 (l : Launch) (Z : State) (a0 : Array Value) (hw : ∀ d ∈ tables_1, d.before a0 Z = true) (x : Int32) (ca : Addr) (cc : Cell) (h0 : Heap) (n0 : Nat) (Z0 : n0 ≤ h0.size) (O0 : Old Z n0 h0) (S1 : Sta Z Z.heap "java/lang/Integer$IntegerCache" "high" "I" (.int (127 : Int32))) (S2 : Sta Z Z.heap "java/lang/Integer$IntegerCache" "cache" "[Ljava/lang/Integer;" (.ref ca)) (B : Bxs Z ca cc "java/lang/Integer" "I" 256 (fun j => .int (j - 128))) :
    own_Ct l Z (⟨"java/lang/Integer", "valueOf", "(I)Ljava/lang/Integer;"⟩ : MethodName) jdk_33_method_22_code 1 (some (.object "java/lang/Integer")) ({ frames := 3, cells := 1, slots := 1, locals := 38 } : Room) #[(.int x)] h0 (Q3 Z x ca cc h0 n0) := by
  refine own_body pn_3 ?_
  intro p e s m below meth cd s₁ hx hZ hby hml hown hnm hret hk X0 e0
  have N0 := Fr.nil n0
  refine own_to (s₁.setTop (mkF m 0 #[.val (.int x)] [])) (fun t k => castTop (ef_3 m x) k) ?_
  have K11 : Keep h0 h0 [] := Keep.refl _ _
  refine own_to (s₁.setTop (mkF m 1 #[.val (.int x)] [(.int x)])) (fun t k => XS.iloadN X0.here hx rfl (hb hby d3_0) rfl k) ?_
  refine own_to (s₁.setTop (mkF m 3 #[.val (.int x)] [(.int (-128 : Int32)), (.int x)])) (fun t k => XT.bipushV X0.here hx rfl (-128 : Int32) (hb hby d3_1) (by decide) k) ?_
  by_cases c12 : x < (-128 : Int32)
  · -- c12 yes
    refine own_to (s₁.setTop (mkF m 23 #[.val (.int x)] [])) (fun t k => XS.icmpYes X0.here hx rfl (pc0 := 3) (pc' := 23) rfl (hb hby d3_3) rfl (tlt c12).1 (by decide) (by decide) k) ?_
    obtain ⟨T13, h13, X13, e13, E13, A13, D13, -, st13⟩ := newO X0 hx hZ hown (hw _ (List.mem_of_getElem? (i := 30) rfl)) (hw _ (List.mem_of_getElem? (i := 31) rfl)) (hw _ (List.mem_of_getElem? (i := 15) rfl)) e0 (g := (mkF m 23 #[.val (.int x)] [])) rfl (hb hby d3_23) (by decide) (by decide)
    obtain ⟨a13, g13⟩ : ∃ z, z = h0.size := ⟨_, rfl⟩
    rw [← g13] at A13 D13 st13
    have Z13 : n0 ≤ h13.size := Nat.le_trans Z0 E13.1
    have ge13 : n0 ≤ a13 := Nat.le_trans Z0 (Nat.le_of_eq g13.symm)
    have F14 := (S1.ext O0.2).ext E13
    have F15 := (S2.ext O0.2).ext E13
    have kg13 : h0.size ≤ a13 := Nat.le_trans K11.1 (Nat.le_of_eq g13.symm)
    have K16 := K11.ext E13
    have F17 : Fld Z h13 a13 "java/lang/Integer" "value" "I" (.int (0 : Int32)) := D13 (Or.inr (hw _ (List.mem_of_getElem? (i := 44) rfl))) (ty := .int) (by decide)
    refine own_to (T13.setTop (mkF m 26 #[.val (.int x)] [(.ref a13)])) (fun t k => st13 t k) ?_
    refine own_to (T13.setTop (mkF m 27 #[.val (.int x)] [(.ref a13), (.ref a13)])) (fun t k => XS.dup X13.here hx rfl (hb hby d3_26) rfl rfl k) ?_
    refine own_to (T13.setTop (mkF m 28 #[.val (.int x)] [(.int x), (.ref a13), (.ref a13)])) (fun t k => XS.iloadN X13.here hx rfl (hb hby d3_27) rfl k) ?_
    obtain ⟨v18, T18, L18, X18, hQ18, st18⟩ := own_callN X13 hx hZ hown rfl (hw _ (List.mem_of_getElem? (i := 32) rfl)) (hw _ (List.mem_of_getElem? (i := 33) rfl)) (hw _ (List.mem_of_getElem? (i := 35) rfl)) (hw _ (List.mem_of_getElem? (i := 15) rfl)) (by decide) e13 (b := a13) (argsL := [(.int x)]) (rest := [(.ref a13)]) (rm5 l Z a0 hw a13 x h13 n0 Z13 ge13 A13 F17) (by decide) (W := 1) (by decide) (by decide) (by decide) pd_5 rfl (pc := 28) (Ls := #[.val (.int x)]) (by rw [hml]; rfl) (Nat.le_of_eq rfl) (hb hby d3_28)
    obtain ⟨h18, e18⟩ : ∃ z, T18.heap = z := ⟨_, rfl⟩
    rw [e18] at hQ18
    obtain ⟨rfl, M18, K18⟩ := hQ18
    have N18 := Fr.app N0 M18
    have F19 := A13.keep K18
    have K21 : Keep h0 h18 [] := K16.trans K18 (allS (Or.inr kg13) all0)
    refine own_to (T18.setTop (mkF m 31 #[.val (.int x)] [(.ref a13)])) (fun t k => st18 t k) ?_
    exact own_retA X18 hx hret rfl hk rfl rfl (hb hby d3_31) (by decide) (by decide) ⟨_, rfl, N18, (by rw [e18]; exact K21), (by rw [e18]; exact F19)⟩
  · -- c12 no
    refine own_to (s₁.setTop (mkF m 6 #[.val (.int x)] [])) (fun t k => XS.icmpNo X0.here hx rfl (hb hby d3_3) rfl (flt c12).1 k) ?_
    refine own_to (s₁.setTop (mkF m 7 #[.val (.int x)] [(.int x)])) (fun t k => XS.iloadN X0.here hx rfl (hb hby d3_6) rfl k) ?_
    obtain ⟨T22, X22, e22, st22⟩ := getS (host := "") X0 hx hZ hown (hw _ (List.mem_of_getElem? (i := 17) rfl)) Via.refl e0 (S1.ext O0.2) (g := (mkF m 7 #[.val (.int x)] [(.int x)])) rfl (hb hby d3_7)
    refine own_to (T22.setTop (mkF m 10 #[.val (.int x)] [(.int (127 : Int32)), (.int x)])) (fun t k => st22 t k) ?_
    by_cases c23 : (127 : Int32) < x
    · -- c23 yes
      refine own_to (T22.setTop (mkF m 23 #[.val (.int x)] [])) (fun t k => XS.icmpYes X22.here hx rfl (pc0 := 10) (pc' := 23) rfl (hb hby d3_10) rfl (tlt c23).2.2.1 (by decide) (by decide) k) ?_
      obtain ⟨T24, h24, X24, e24, E24, A24, D24, -, st24⟩ := newO X22 hx hZ hown (hw _ (List.mem_of_getElem? (i := 30) rfl)) (hw _ (List.mem_of_getElem? (i := 31) rfl)) (hw _ (List.mem_of_getElem? (i := 15) rfl)) e22 (g := (mkF m 23 #[.val (.int x)] [])) rfl (hb hby d3_23) (by decide) (by decide)
      obtain ⟨a24, g24⟩ : ∃ z, z = h0.size := ⟨_, rfl⟩
      rw [← g24] at A24 D24 st24
      have Z24 : n0 ≤ h24.size := Nat.le_trans Z0 E24.1
      have ge24 : n0 ≤ a24 := Nat.le_trans Z0 (Nat.le_of_eq g24.symm)
      have F25 := (S1.ext O0.2).ext E24
      have F26 := (S2.ext O0.2).ext E24
      have kg24 : h0.size ≤ a24 := Nat.le_trans K11.1 (Nat.le_of_eq g24.symm)
      have K27 := K11.ext E24
      have F28 : Fld Z h24 a24 "java/lang/Integer" "value" "I" (.int (0 : Int32)) := D24 (Or.inr (hw _ (List.mem_of_getElem? (i := 44) rfl))) (ty := .int) (by decide)
      refine own_to (T24.setTop (mkF m 26 #[.val (.int x)] [(.ref a24)])) (fun t k => st24 t k) ?_
      refine own_to (T24.setTop (mkF m 27 #[.val (.int x)] [(.ref a24), (.ref a24)])) (fun t k => XS.dup X24.here hx rfl (hb hby d3_26) rfl rfl k) ?_
      refine own_to (T24.setTop (mkF m 28 #[.val (.int x)] [(.int x), (.ref a24), (.ref a24)])) (fun t k => XS.iloadN X24.here hx rfl (hb hby d3_27) rfl k) ?_
      obtain ⟨v29, T29, L29, X29, hQ29, st29⟩ := own_callN X24 hx hZ hown rfl (hw _ (List.mem_of_getElem? (i := 32) rfl)) (hw _ (List.mem_of_getElem? (i := 33) rfl)) (hw _ (List.mem_of_getElem? (i := 35) rfl)) (hw _ (List.mem_of_getElem? (i := 15) rfl)) (by decide) e24 (b := a24) (argsL := [(.int x)]) (rest := [(.ref a24)]) (rm5 l Z a0 hw a24 x h24 n0 Z24 ge24 A24 F28) (by decide) (W := 1) (by decide) (by decide) (by decide) pd_5 rfl (pc := 28) (Ls := #[.val (.int x)]) (by rw [hml]; rfl) (Nat.le_of_eq rfl) (hb hby d3_28)
      obtain ⟨h29, e29⟩ : ∃ z, T29.heap = z := ⟨_, rfl⟩
      rw [e29] at hQ29
      obtain ⟨rfl, M29, K29⟩ := hQ29
      have N29 := Fr.app N0 M29
      have F30 := A24.keep K29
      have K32 : Keep h0 h29 [] := K27.trans K29 (allS (Or.inr kg24) all0)
      refine own_to (T29.setTop (mkF m 31 #[.val (.int x)] [(.ref a24)])) (fun t k => st29 t k) ?_
      exact own_retA X29 hx hret rfl hk rfl rfl (hb hby d3_31) (by decide) (by decide) ⟨_, rfl, N29, (by rw [e29]; exact K32), (by rw [e29]; exact F30)⟩
    · -- c23 no
      refine own_to (T22.setTop (mkF m 13 #[.val (.int x)] [])) (fun t k => XS.icmpNo X22.here hx rfl (hb hby d3_10) rfl (flt c23).2.2.1 k) ?_
      obtain ⟨T33, X33, e33, st33⟩ := getS (host := "") X22 hx hZ hown (hw _ (List.mem_of_getElem? (i := 19) rfl)) Via.refl e22 (S2.ext O0.2) (g := (mkF m 13 #[.val (.int x)] [])) rfl (hb hby d3_13)
      refine own_to (T33.setTop (mkF m 16 #[.val (.int x)] [(.ref ca)])) (fun t k => st33 t k) ?_
      refine own_to (T33.setTop (mkF m 17 #[.val (.int x)] [(.int x), (.ref ca)])) (fun t k => XS.iloadN X33.here hx rfl (hb hby d3_16) rfl k) ?_
      refine own_to (T33.setTop (mkF m 20 #[.val (.int x)] [(.int (128 : Int32)), (.int x), (.ref ca)])) (fun t k => XT.sipushV X33.here hx rfl (128 : Int32) (hb hby d3_17) (by decide) k) ?_
      refine own_to (T33.setTop (mkF m 21 #[.val (.int x)] [(.int (x + (128 : Int32))), (.ref ca)])) (fun t k => XS.iadd X33.here hx rfl (hb hby d3_20) rfl k) ?_
      have hin := own_box c12 c23 B.2.1
      obtain ⟨bx, hb1, hb2, -⟩ := B.2.2.2 _ hin
      have Ac := (B.ext O0.2).1
      refine own_to (T33.setTop (mkF m 22 #[.val (.int x)] [(.ref bx)])) (fun t k => X33.aaload hx (j := (x + (128 : Int32))) (v := (.ref bx)) (by rw [e33]; exact Ac.1) (State.isArrayOf_alike hZ.alike Ac.2.1) rfl Ac.2.2 hin hb1 (g := (mkF m 21 #[.val (.int x)] [(.int (x + (128 : Int32))), (.ref ca)])) rfl rfl (hb hby d3_21) t k) ?_
      exact own_retA X33 hx hret rfl hk rfl rfl (hb hby d3_22) (by decide) (by decide) ⟨_, rfl, N0, (by rw [e33]; exact K11), (by rw [e33]; exact (hb2.ext O0.2))⟩
def own_eq (x y x2 y2 : Int32) : Int32 := if x2 = x then (if y2 = y then 1 else 0) else 0
def QEm (Z : State) (a b : Addr) (x y x2 y2 : Int32) (h0 : Heap) (n0 : Nat) (v : Option Value) (h : Heap) (L : List Loc) : Prop := v = some (.int (own_eq x y x2 y2)) ∧ Fr n0 L ∧ h = h0
set_option maxRecDepth 65536 in
set_option maxHeartbeats 40000000 in
theorem rmEm (l : Launch) (Z : State) (a0 : Array Value) (hw : ∀ d ∈ tables_1, d.before a0 Z = true) (a b : Addr) (x y x2 y2 : Int32) (h0 : Heap) (n0 : Nat) (Z0 : n0 ≤ h0.size) (E : Exa Z h0 b "com/example/sosia/sosia/model/Match") (F0 : Fld Z h0 a "com/example/sosia/sosia/model/Match" "entry" "I" (.int x)) (F1 : Fld Z h0 a "com/example/sosia/sosia/model/Match" "distance" "I" (.int y)) (G0 : Fld Z h0 b "com/example/sosia/sosia/model/Match" "entry" "I" (.int x2)) (G1 : Fld Z h0 b "com/example/sosia/sosia/model/Match" "distance" "I" (.int y2)) :
    own_Ct l Z (⟨"com/example/sosia/sosia/model/Match", "equals", "(Ljava/lang/Object;)Z"⟩ : MethodName) prog_22_method_5_code 3 (some .boolean) ({ frames := 0, cells := 0, slots := 0, locals := 0 } : Room) #[(.ref a), (.ref b)] h0 (QEm Z a b x y x2 y2 h0 n0) := by
  refine own_body pn_4 ?_
  intro p e s m below meth cd s₁ hx hZ hby hml hown hnm hret hk X0 e0
  have N0 := Fr.nil n0
  refine own_to (s₁.setTop (mkF m 0 #[.val (.ref a), .val (.ref b), .unset] [])) (fun t k => castTop (by first | (simp [entryFrame, mkF, argsToLocals, Value.category]; done) | rfl) k) ?_
  refine own_to (s₁.setTop (mkF m 1 #[.val (.ref a), .val (.ref b), .unset] [(.ref b)])) (fun t k => XS.aloadN X0.here hx rfl (hb hby d4_0) rfl rfl k) ?_
  obtain ⟨T11, X11, e11, st11⟩ := instY X0 hx hZ hown (hw _ (List.mem_of_getElem? (i := 25) rfl)) e0 (Ins.self E) (g := (mkF m 1 #[.val (.ref a), .val (.ref b), .unset] [(.ref b)])) rfl rfl (hb hby d4_1)
  refine own_to (T11.setTop (mkF m 4 #[.val (.ref a), .val (.ref b), .unset] [(.int (1 : Int32))])) (fun t k => st11 t k) ?_
  refine own_to (T11.setTop (mkF m 7 #[.val (.ref a), .val (.ref b), .unset] [])) (fun t k => XS.ifNo X11.here hx rfl (hb hby d4_4) rfl ((if0 _ _).trans (feq (by decide)).1) k) ?_
  refine own_to (T11.setTop (mkF m 8 #[.val (.ref a), .val (.ref b), .unset] [(.ref b)])) (fun t k => XS.aloadN X11.here hx rfl (hb hby d4_7) rfl rfl k) ?_
  obtain ⟨T12, X12, e12, st12⟩ := castY X11 hx hZ hown (hw _ (List.mem_of_getElem? (i := 25) rfl)) e11 (Ins.self E) (g := (mkF m 8 #[.val (.ref a), .val (.ref b), .unset] [(.ref b)])) rfl rfl (hb hby d4_8)
  refine own_to (T12.setTop (mkF m 11 #[.val (.ref a), .val (.ref b), .unset] [(.ref b)])) (fun t k => st12 t k) ?_
  refine own_to (T12.setTop (mkF m 12 #[.val (.ref a), .val (.ref b), .val (.ref b)] [])) (fun t k => XS.astoreN X12.here hx rfl (hb hby d4_11) rfl rfl (l' := #[.val (.ref a), .val (.ref b), .val (.ref b)]) rfl k) ?_
  refine own_to (T12.setTop (mkF m 13 #[.val (.ref a), .val (.ref b), .val (.ref b)] [(.ref b)])) (fun t k => XS.aloadN X12.here hx rfl (hb hby d4_12) rfl rfl k) ?_
  obtain ⟨T13, X13, e13, st13⟩ := getF X12 hx hZ hown (host := "") (Or.inl (hw _ (List.mem_of_getElem? (i := 9) rfl))) Via.refl e12 G0 (g := (mkF m 13 #[.val (.ref a), .val (.ref b), .val (.ref b)] [(.ref b)])) rfl rfl (hb hby d4_13)
  refine own_to (T13.setTop (mkF m 16 #[.val (.ref a), .val (.ref b), .val (.ref b)] [(.int x2)])) (fun t k => st13 t k) ?_
  refine own_to (T13.setTop (mkF m 17 #[.val (.ref a), .val (.ref b), .val (.ref b)] [(.ref a), (.int x2)])) (fun t k => XS.aloadN X13.here hx rfl (hb hby d4_16) rfl rfl k) ?_
  obtain ⟨T14, X14, e14, st14⟩ := getF X13 hx hZ hown (host := "") (Or.inl (hw _ (List.mem_of_getElem? (i := 9) rfl))) Via.refl e13 F0 (g := (mkF m 17 #[.val (.ref a), .val (.ref b), .val (.ref b)] [(.ref a), (.int x2)])) rfl rfl (hb hby d4_17)
  refine own_to (T14.setTop (mkF m 20 #[.val (.ref a), .val (.ref b), .val (.ref b)] [(.int x), (.int x2)])) (fun t k => st14 t k) ?_
  by_cases c15 : x2 = x
  · -- c15 yes
    refine own_to (T14.setTop (mkF m 23 #[.val (.ref a), .val (.ref b), .val (.ref b)] [])) (fun t k => XS.icmpNo X14.here hx rfl (hb hby d4_20) rfl (teq c15).2 k) ?_
    refine own_to (T14.setTop (mkF m 24 #[.val (.ref a), .val (.ref b), .val (.ref b)] [(.ref b)])) (fun t k => XS.aloadN X14.here hx rfl (hb hby d4_23) rfl rfl k) ?_
    obtain ⟨T16, X16, e16, st16⟩ := getF X14 hx hZ hown (host := "") (Or.inl (hw _ (List.mem_of_getElem? (i := 11) rfl))) Via.refl e14 G1 (g := (mkF m 24 #[.val (.ref a), .val (.ref b), .val (.ref b)] [(.ref b)])) rfl rfl (hb hby d4_24)
    refine own_to (T16.setTop (mkF m 27 #[.val (.ref a), .val (.ref b), .val (.ref b)] [(.int y2)])) (fun t k => st16 t k) ?_
    refine own_to (T16.setTop (mkF m 28 #[.val (.ref a), .val (.ref b), .val (.ref b)] [(.ref a), (.int y2)])) (fun t k => XS.aloadN X16.here hx rfl (hb hby d4_27) rfl rfl k) ?_
    obtain ⟨T17, X17, e17, st17⟩ := getF X16 hx hZ hown (host := "") (Or.inl (hw _ (List.mem_of_getElem? (i := 11) rfl))) Via.refl e16 F1 (g := (mkF m 28 #[.val (.ref a), .val (.ref b), .val (.ref b)] [(.ref a), (.int y2)])) rfl rfl (hb hby d4_28)
    refine own_to (T17.setTop (mkF m 31 #[.val (.ref a), .val (.ref b), .val (.ref b)] [(.int y), (.int y2)])) (fun t k => st17 t k) ?_
    by_cases c18 : y2 = y
    · -- c18 yes
      refine own_to (T17.setTop (mkF m 34 #[.val (.ref a), .val (.ref b), .val (.ref b)] [])) (fun t k => XS.icmpNo X17.here hx rfl (hb hby d4_31) rfl (teq c18).2 k) ?_
      refine own_to (T17.setTop (mkF m 35 #[.val (.ref a), .val (.ref b), .val (.ref b)] [(.int (1 : Int32))])) (fun t k => XT.iconstV X17.here hx rfl (1 : Int32) (hb hby d4_34) (by decide) k) ?_
      refine own_to (T17.setTop (mkF m 39 #[.val (.ref a), .val (.ref b), .val (.ref b)] [(.int (1 : Int32))])) (fun t k => XS.goto X17.here hx rfl (pc0 := 35) (pc' := 39) rfl (hb hby d4_35) (by decide) (by decide) k) ?_
      exact own_retZ X17 hx hret hk (i' := (1 : Int32)) (hb hby d4_39) (by decide) (by decide) (by decide) ⟨by rw [own_eq, if_pos c15, if_pos c18], N0, e17⟩
    · -- c18 no
      refine own_to (T17.setTop (mkF m 38 #[.val (.ref a), .val (.ref b), .val (.ref b)] [])) (fun t k => XS.icmpYes X17.here hx rfl (pc0 := 31) (pc' := 38) rfl (hb hby d4_31) rfl (feq c18).2 (by decide) (by decide) k) ?_
      refine own_to (T17.setTop (mkF m 39 #[.val (.ref a), .val (.ref b), .val (.ref b)] [(.int (0 : Int32))])) (fun t k => XT.iconstV X17.here hx rfl (0 : Int32) (hb hby d4_38) (by decide) k) ?_
      exact own_retZ X17 hx hret hk (i' := (0 : Int32)) (hb hby d4_39) (by decide) (by decide) (by decide) ⟨by rw [own_eq, if_pos c15, if_neg c18], N0, e17⟩
  · -- c15 no
    refine own_to (T14.setTop (mkF m 38 #[.val (.ref a), .val (.ref b), .val (.ref b)] [])) (fun t k => XS.icmpYes X14.here hx rfl (pc0 := 20) (pc' := 38) rfl (hb hby d4_20) rfl (feq c15).2 (by decide) (by decide) k) ?_
    refine own_to (T14.setTop (mkF m 39 #[.val (.ref a), .val (.ref b), .val (.ref b)] [(.int (0 : Int32))])) (fun t k => XT.iconstV X14.here hx rfl (0 : Int32) (hb hby d4_38) (by decide) k) ?_
    exact own_retZ X14 hx hret hk (i' := (0 : Int32)) (hb hby d4_39) (by decide) (by decide) (by decide) ⟨by rw [own_eq, if_neg c15], N0, e14⟩
def QEn (Z : State) (a : Addr) (h0 : Heap) (n0 : Nat) (v : Option Value) (h : Heap) (L : List Loc) : Prop := v = some (.int 0) ∧ Fr n0 L ∧ h = h0
set_option maxRecDepth 65536 in
set_option maxHeartbeats 40000000 in
theorem rmEn (l : Launch) (Z : State) (a0 : Array Value) (hw : ∀ d ∈ tables_1, d.before a0 Z = true) (a : Addr) (h0 : Heap) (n0 : Nat) (Z0 : n0 ≤ h0.size)  :
    own_Ct l Z (⟨"com/example/sosia/sosia/model/Match", "equals", "(Ljava/lang/Object;)Z"⟩ : MethodName) prog_22_method_5_code 3 (some .boolean) ({ frames := 0, cells := 0, slots := 0, locals := 0 } : Room) #[(.ref a), .null] h0 (QEn Z a h0 n0) := by
  refine own_body pn_4 ?_
  intro p e s m below meth cd s₁ hx hZ hby hml hown hnm hret hk X0 e0
  have N0 := Fr.nil n0
  refine own_to (s₁.setTop (mkF m 0 #[.val (.ref a), .val .null, .unset] [])) (fun t k => castTop (by first | (simp [entryFrame, mkF, argsToLocals, Value.category]; done) | rfl) k) ?_
  refine own_to (s₁.setTop (mkF m 1 #[.val (.ref a), .val .null, .unset] [.null])) (fun t k => XS.aloadN X0.here hx rfl (hb hby d4_0) rfl rfl k) ?_
  refine own_to (s₁.setTop (mkF m 4 #[.val (.ref a), .val .null, .unset] [(.int (0 : Int32))])) (fun t k => Stand.instanceofNull X0 hx (g := (mkF m 1 #[.val (.ref a), .val .null, .unset] [.null])) rfl rfl (hb hby d4_1) t k) ?_
  refine own_to (s₁.setTop (mkF m 38 #[.val (.ref a), .val .null, .unset] [])) (fun t k => XS.ifYes X0.here hx rfl (pc0 := 4) (pc' := 38) rfl (hb hby d4_4) rfl ((if0 _ _).trans (teq rfl).1) (by decide) (by decide) k) ?_
  refine own_to (s₁.setTop (mkF m 39 #[.val (.ref a), .val .null, .unset] [(.int (0 : Int32))])) (fun t k => XT.iconstV X0.here hx rfl (0 : Int32) (hb hby d4_38) (by decide) k) ?_
  exact own_retZ X0 hx hret hk (i' := (0 : Int32)) (hb hby d4_39) (by decide) (by decide) (by decide) ⟨rfl, N0, e0⟩
theorem own_notA {a0 : Array Value} {Z : State} {n : Nat} {K : String} (wI : (Cond.superclass "java/lang/Integer" "java/lang/Number").before a0 Z = true) (wN : (Cond.superclass "java/lang/Number" "java/lang/Object").before a0 Z = true) (wO : (Cond.noSuperclass "java/lang/Object").before a0 Z = true) (wk : (Cond.instantiable K n).before a0 Z = true)
    (h1 : "java/lang/Object" ≠ K) (h2 : "java/lang/Number" ≠ K) (h3 : "java/lang/Integer" ≠ K) : ∃ c t, Z.vm.findClass "java/lang/Integer" = some c ∧ Z.vm.findClass K = some t ∧ Z.vm.assignable c t = false := by
  obtain ⟨t, kt, g1, g2, g3, g4, -, -⟩ := Cond.instantiable_spec wk
  have n0 : NS Z "java/lang/Object" K := by
    obtain ⟨c, k, q1, q2, q3, -, -⟩ := Cond.noSuperclass_spec wO
    have ne := ids_ne q1 g1 h1
    refine ⟨c, t, q1, g1, fun fuel => ?_⟩
    cases fuel with
    | zero => rfl
    | succ f => simp [Vm.isSubclassAux, ne, q2, q3]
  obtain ⟨c, t', q0, q0', n3⟩ := NS.step wI (NS.step wN n0 h2) h3
  cases g1.symm.trans q0'
  obtain ⟨p, k, kp, q1, q2, q3, q4, q5, -, q7⟩ := Cond.superclass_spec q0 wI
  have ne := ids_ne q0 g1 h3
  have g5 : kt.isInterface = false := by
    cases hi : kt.isInterface with
    | false => rfl
    | true => rw [hi] at g4; simp at g4
  refine ⟨c, t, q0, g1, ?_⟩
  show Z.vm.assignableAux (255 + 1) c t = false
  simp [Vm.assignableAux, ne, q2, g2, q5, g3, g5, Vm.isSubclass, n3]
def QEi (Z : State) (a b : Addr) (h0 : Heap) (n0 : Nat) (v : Option Value) (h : Heap) (L : List Loc) : Prop := v = some (.int 0) ∧ Fr n0 L ∧ h = h0
set_option maxRecDepth 65536 in
set_option maxHeartbeats 40000000 in
theorem rmEi (l : Launch) (Z : State) (a0 : Array Value) (hw : ∀ d ∈ tables_1, d.before a0 Z = true) (a b : Addr) (h0 : Heap) (n0 : Nat) (Z0 : n0 ≤ h0.size) (E : Exa Z h0 b "java/lang/Integer") :
    own_Ct l Z (⟨"com/example/sosia/sosia/model/Match", "equals", "(Ljava/lang/Object;)Z"⟩ : MethodName) prog_22_method_5_code 3 (some .boolean) ({ frames := 0, cells := 0, slots := 0, locals := 0 } : Room) #[(.ref a), (.ref b)] h0 (QEi Z a b h0 n0) := by
  refine own_body pn_4 ?_
  intro p e s m below meth cd s₁ hx hZ hby hml hown hnm hret hk X0 e0
  have N0 := Fr.nil n0
  refine own_to (s₁.setTop (mkF m 0 #[.val (.ref a), .val (.ref b), .unset] [])) (fun t k => castTop (by first | (simp [entryFrame, mkF, argsToLocals, Value.category]; done) | rfl) k) ?_
  refine own_to (s₁.setTop (mkF m 1 #[.val (.ref a), .val (.ref b), .unset] [(.ref b)])) (fun t k => XS.aloadN X0.here hx rfl (hb hby d4_0) rfl rfl k) ?_
  obtain ⟨T11, X11, e11, st11⟩ := instNo X0 hx hZ hown (hw _ (List.mem_of_getElem? (i := 25) rfl)) e0 E (own_notA (hw _ (List.mem_of_getElem? (i := 27) rfl)) (hw _ (List.mem_of_getElem? (i := 28) rfl)) (hw _ (List.mem_of_getElem? (i := 29) rfl)) (hw _ (List.mem_of_getElem? (i := 1) rfl)) (by decide) (by decide) (by decide)) (g := (mkF m 1 #[.val (.ref a), .val (.ref b), .unset] [(.ref b)])) rfl rfl (hb hby d4_1)
  refine own_to (T11.setTop (mkF m 4 #[.val (.ref a), .val (.ref b), .unset] [(.int (0 : Int32))])) (fun t k => st11 t k) ?_
  refine own_to (T11.setTop (mkF m 38 #[.val (.ref a), .val (.ref b), .unset] [])) (fun t k => XS.ifYes X11.here hx rfl (pc0 := 4) (pc' := 38) rfl (hb hby d4_4) rfl ((if0 _ _).trans (teq rfl).1) (by decide) (by decide) k) ?_
  refine own_to (T11.setTop (mkF m 39 #[.val (.ref a), .val (.ref b), .unset] [(.int (0 : Int32))])) (fun t k => XT.iconstV X11.here hx rfl (0 : Int32) (hb hby d4_38) (by decide) k) ?_
  exact own_retZ X11 hx hret hk (i' := (0 : Int32)) (hb hby d4_39) (by decide) (by decide) (by decide) ⟨rfl, N0, e11⟩
theorem ef_0 (m : MethodId) (x0 : Int32) (x1 : Int32) (x2 : Int32) (x3 : Int32) (x4 : Int32) : entryFrame m #[(.int x0), (.int x1), (.int x2), (.int x3), (.int x4)] maxLocals = mkF m 0 #[.val (.int x0), .val (.int x1), .val (.int x2), .val (.int x3), .val (.int x4), .unset, .unset, .unset, .unset, .unset, .unset] [] := by first | (simp [entryFrame, mkF, argsToLocals, Value.category, maxLocals]; done) | rfl
theorem own_eqs (x y x2 y2 : Int32) : own_eq x2 y2 x y = own_eq x y x2 y2 := by simp only [own_eq, eq_comm]
theorem own_eq1 (x y : Int32) : own_eq x y x y = 1 := by simp [own_eq]
def Q0 (Z : State) (x1 y1 x2 y2 sel : Int32) (ca : Addr) (cc : Cell) (h0 : Heap) (n0 : Nat) (v : Option Value) (h : Heap) (L : List Loc) : Prop := v = some (.int 1) ∧ Fr n0 L
set_option maxRecDepth 65536 in
set_option maxHeartbeats 40000000 in
theorem rm0 (l : Launch) (Z : State) (a0 : Array Value) (hw : ∀ d ∈ tables_1, d.before a0 Z = true) (x1 y1 x2 y2 sel : Int32) (ca : Addr) (cc : Cell) (h0 : Heap) (n0 : Nat) (Z0 : n0 ≤ h0.size) (O0 : Old Z n0 h0) (S1 : Sta Z Z.heap "java/lang/Integer$IntegerCache" "high" "I" (.int (127 : Int32))) (S2 : Sta Z Z.heap "java/lang/Integer$IntegerCache" "cache" "[Ljava/lang/Integer;" (.ref ca)) (B : Bxs Z ca cc "java/lang/Integer" "I" 256 (fun j => .int (j - 128))) :
    own_Ct l Z x code maxLocals ret room_1 #[(.int x1), (.int y1), (.int x2), (.int y2), (.int sel)] h0 (Q0 Z x1 y1 x2 y2 sel ca cc h0 n0) := by
  refine own_body pn_0 ?_
  intro p e s m below meth cd s₁ hx hZ hby hml hown hnm hret hk X0 e0
  have N0 := Fr.nil n0
  have main : ∀ ee dd : Int32, own_Fin p e s below room_1 (Q0 Z x1 y1 x2 y2 sel ca cc h0 n0) (s₁.setTop (mkF m 28 #[.val (.int x1), .val (.int y1), .val (.int x2), .val (.int y2), .val (.int sel), .val (.int ee), .val (.int dd), .unset, .unset, .unset, .unset] [])) := by
    intro ee dd
    obtain ⟨T11, h11, X11, e11, E11, A11, D11, -, st11⟩ := newO X0 hx hZ hown (hw _ (List.mem_of_getElem? (i := 0) rfl)) (hw _ (List.mem_of_getElem? (i := 1) rfl)) (hw _ (List.mem_of_getElem? (i := 2) rfl)) e0 (g := (mkF m 28 #[.val (.int x1), .val (.int y1), .val (.int x2), .val (.int y2), .val (.int sel), .val (.int ee), .val (.int dd), .unset, .unset, .unset, .unset] [])) rfl (hb hby at_28) (by decide) (by decide)
    obtain ⟨a11, g11⟩ : ∃ z, z = h0.size := ⟨_, rfl⟩
    rw [← g11] at A11 D11 st11
    have Z11 : n0 ≤ h11.size := Nat.le_trans Z0 E11.1
    have ge11 : n0 ≤ a11 := Nat.le_trans Z0 (Nat.le_of_eq g11.symm)
    have O12 := O0.ext E11
    have F13 : Fld Z h11 a11 "com/example/sosia/sosia/model/Match" "entry" "I" (.int (0 : Int32)) := D11 (Or.inr (hw _ (List.mem_of_getElem? (i := 10) rfl))) (ty := .int) (by decide)
    have F14 : Fld Z h11 a11 "com/example/sosia/sosia/model/Match" "distance" "I" (.int (0 : Int32)) := D11 (Or.inr (hw _ (List.mem_of_getElem? (i := 12) rfl))) (ty := .int) (by decide)
    refine own_to (T11.setTop (mkF m 31 #[.val (.int x1), .val (.int y1), .val (.int x2), .val (.int y2), .val (.int sel), .val (.int ee), .val (.int dd), .unset, .unset, .unset, .unset] [(.ref a11)])) (fun t k => st11 t k) ?_
    refine own_to (T11.setTop (mkF m 32 #[.val (.int x1), .val (.int y1), .val (.int x2), .val (.int y2), .val (.int sel), .val (.int ee), .val (.int dd), .unset, .unset, .unset, .unset] [(.ref a11), (.ref a11)])) (fun t k => XS.dup X11.here hx rfl (hb hby at_31) rfl rfl k) ?_
    refine own_to (T11.setTop (mkF m 33 #[.val (.int x1), .val (.int y1), .val (.int x2), .val (.int y2), .val (.int sel), .val (.int ee), .val (.int dd), .unset, .unset, .unset, .unset] [(.int x1), (.ref a11), (.ref a11)])) (fun t k => XS.iloadN X11.here hx rfl (hb hby at_32) rfl k) ?_
    refine own_to (T11.setTop (mkF m 34 #[.val (.int x1), .val (.int y1), .val (.int x2), .val (.int y2), .val (.int sel), .val (.int ee), .val (.int dd), .unset, .unset, .unset, .unset] [(.int y1), (.int x1), (.ref a11), (.ref a11)])) (fun t k => XS.iloadN X11.here hx rfl (hb hby at_33) rfl k) ?_
    obtain ⟨v15, T15, L15, X15, hQ15, st15⟩ := own_callN X11 hx hZ hown rfl (hw _ (List.mem_of_getElem? (i := 3) rfl)) (hw _ (List.mem_of_getElem? (i := 4) rfl)) (hw _ (List.mem_of_getElem? (i := 5) rfl)) (hw _ (List.mem_of_getElem? (i := 2) rfl)) (by decide) e11 (b := a11) (argsL := [(.int x1), (.int y1)]) (rest := [(.ref a11)]) (rm1 l Z a0 hw a11 x1 y1 h11 n0 Z11 ge11 A11 F13 F14) (by decide) (W := 1) (by decide) (by decide) (by decide) pd_1 rfl (pc := 34) (Ls := #[.val (.int x1), .val (.int y1), .val (.int x2), .val (.int y2), .val (.int sel), .val (.int ee), .val (.int dd), .unset, .unset, .unset, .unset]) (by rw [hml]; rfl) (Nat.le_of_eq rfl) (hb hby at_34)
    obtain ⟨h15, e15⟩ : ∃ z, T15.heap = z := ⟨_, rfl⟩
    rw [e15] at hQ15
    obtain ⟨rfl, M15, K15, Fa15, Fb15⟩ := hQ15
    have N15 := Fr.app N0 M15
    have F16 := A11.keep K15
    have O19 := O12.keep K15 (allS ge11 all0)
    have Z15 : n0 ≤ h15.size := Nat.le_trans Z11 K15.1
    refine own_to (T15.setTop (mkF m 37 #[.val (.int x1), .val (.int y1), .val (.int x2), .val (.int y2), .val (.int sel), .val (.int ee), .val (.int dd), .unset, .unset, .unset, .unset] [(.ref a11)])) (fun t k => st15 t k) ?_
    refine own_to (T15.setTop (mkF m 39 #[.val (.int x1), .val (.int y1), .val (.int x2), .val (.int y2), .val (.int sel), .val (.int ee), .val (.int dd), .val (.ref a11), .unset, .unset, .unset] [])) (fun t k => XS.astore X15.here hx rfl (hb hby at_37) rfl rfl (l' := #[.val (.int x1), .val (.int y1), .val (.int x2), .val (.int y2), .val (.int sel), .val (.int ee), .val (.int dd), .val (.ref a11), .unset, .unset, .unset]) rfl k) ?_
    obtain ⟨T20, h20, X20, e20, E20, A20, D20, -, st20⟩ := newO X15 hx hZ hown (hw _ (List.mem_of_getElem? (i := 0) rfl)) (hw _ (List.mem_of_getElem? (i := 1) rfl)) (hw _ (List.mem_of_getElem? (i := 2) rfl)) e15 (g := (mkF m 39 #[.val (.int x1), .val (.int y1), .val (.int x2), .val (.int y2), .val (.int sel), .val (.int ee), .val (.int dd), .val (.ref a11), .unset, .unset, .unset] [])) rfl (hb hby at_39) (by decide) (by decide)
    obtain ⟨a20, g20⟩ : ∃ z, z = h15.size := ⟨_, rfl⟩
    rw [← g20] at A20 D20 st20
    have ne_a11_a20 : a11 ≠ a20 := Nat.ne_of_lt (g20 ▸ F16.lt)
    have Z20 : n0 ≤ h20.size := Nat.le_trans Z15 E20.1
    have ge20 : n0 ≤ a20 := Nat.le_trans Z15 (Nat.le_of_eq g20.symm)
    have F21 := F16.ext E20
    have F22 := Fa15.ext E20
    have F23 := Fb15.ext E20
    have O24 := O19.ext E20
    have F25 : Fld Z h20 a20 "com/example/sosia/sosia/model/Match" "entry" "I" (.int (0 : Int32)) := D20 (Or.inr (hw _ (List.mem_of_getElem? (i := 10) rfl))) (ty := .int) (by decide)
    have F26 : Fld Z h20 a20 "com/example/sosia/sosia/model/Match" "distance" "I" (.int (0 : Int32)) := D20 (Or.inr (hw _ (List.mem_of_getElem? (i := 12) rfl))) (ty := .int) (by decide)
    refine own_to (T20.setTop (mkF m 42 #[.val (.int x1), .val (.int y1), .val (.int x2), .val (.int y2), .val (.int sel), .val (.int ee), .val (.int dd), .val (.ref a11), .unset, .unset, .unset] [(.ref a20)])) (fun t k => st20 t k) ?_
    refine own_to (T20.setTop (mkF m 43 #[.val (.int x1), .val (.int y1), .val (.int x2), .val (.int y2), .val (.int sel), .val (.int ee), .val (.int dd), .val (.ref a11), .unset, .unset, .unset] [(.ref a20), (.ref a20)])) (fun t k => XS.dup X20.here hx rfl (hb hby at_42) rfl rfl k) ?_
    refine own_to (T20.setTop (mkF m 45 #[.val (.int x1), .val (.int y1), .val (.int x2), .val (.int y2), .val (.int sel), .val (.int ee), .val (.int dd), .val (.ref a11), .unset, .unset, .unset] [(.int ee), (.ref a20), (.ref a20)])) (fun t k => XS.iload X20.here hx rfl (hb hby at_43) rfl k) ?_
    refine own_to (T20.setTop (mkF m 47 #[.val (.int x1), .val (.int y1), .val (.int x2), .val (.int y2), .val (.int sel), .val (.int ee), .val (.int dd), .val (.ref a11), .unset, .unset, .unset] [(.int dd), (.int ee), (.ref a20), (.ref a20)])) (fun t k => XS.iload X20.here hx rfl (hb hby at_45) rfl k) ?_
    obtain ⟨v27, T27, L27, X27, hQ27, st27⟩ := own_callN X20 hx hZ hown rfl (hw _ (List.mem_of_getElem? (i := 3) rfl)) (hw _ (List.mem_of_getElem? (i := 4) rfl)) (hw _ (List.mem_of_getElem? (i := 5) rfl)) (hw _ (List.mem_of_getElem? (i := 2) rfl)) (by decide) e20 (b := a20) (argsL := [(.int ee), (.int dd)]) (rest := [(.ref a20)]) (rm1 l Z a0 hw a20 ee dd h20 n0 Z20 ge20 A20 F25 F26) (by decide) (W := 1) (by decide) (by decide) (by decide) pd_1 rfl (pc := 47) (Ls := #[.val (.int x1), .val (.int y1), .val (.int x2), .val (.int y2), .val (.int sel), .val (.int ee), .val (.int dd), .val (.ref a11), .unset, .unset, .unset]) (by rw [hml]; rfl) (Nat.le_of_eq rfl) (hb hby at_47)
    obtain ⟨h27, e27⟩ : ∃ z, T27.heap = z := ⟨_, rfl⟩
    rw [e27] at hQ27
    obtain ⟨rfl, M27, K27, Fa27, Fb27⟩ := hQ27
    have N27 := Fr.app N15 M27
    have F28 := F21.keep K27
    have F29 := F22.keep K27 (ninS ne_a11_a20 nin0)
    have F30 := F23.keep K27 (ninS ne_a11_a20 nin0)
    have F31 := A20.keep K27
    have O34 := O24.keep K27 (allS ge20 all0)
    have Z27 : n0 ≤ h27.size := Nat.le_trans Z20 K27.1
    refine own_to (T27.setTop (mkF m 50 #[.val (.int x1), .val (.int y1), .val (.int x2), .val (.int y2), .val (.int sel), .val (.int ee), .val (.int dd), .val (.ref a11), .unset, .unset, .unset] [(.ref a20)])) (fun t k => st27 t k) ?_
    refine own_to (T27.setTop (mkF m 52 #[.val (.int x1), .val (.int y1), .val (.int x2), .val (.int y2), .val (.int sel), .val (.int ee), .val (.int dd), .val (.ref a11), .val (.ref a20), .unset, .unset] [])) (fun t k => XS.astore X27.here hx rfl (hb hby at_50) rfl rfl (l' := #[.val (.int x1), .val (.int y1), .val (.int x2), .val (.int y2), .val (.int sel), .val (.int ee), .val (.int dd), .val (.ref a11), .val (.ref a20), .unset, .unset]) rfl k) ?_
    have tail : ∀ ex : Int32, own_eq x1 y1 ee dd = ex → own_Fin p e s below room_1 (Q0 Z x1 y1 x2 y2 sel ca cc h0 n0) (T27.setTop (mkF m 71 #[.val (.int x1), .val (.int y1), .val (.int x2), .val (.int y2), .val (.int sel), .val (.int ee), .val (.int dd), .val (.ref a11), .val (.ref a20), .val (.int ex), .unset] [])) := by
      intro ex hex
      refine own_to (T27.setTop (mkF m 72 #[.val (.int x1), .val (.int y1), .val (.int x2), .val (.int y2), .val (.int sel), .val (.int ee), .val (.int dd), .val (.ref a11), .val (.ref a20), .val (.int ex), .unset] [(.int x1)])) (fun t k => XS.iloadN X27.here hx rfl (hb hby at_71) rfl k) ?_
      obtain ⟨v35, T35, L35, X35, hQ35, st35⟩ := own_callS X27 hx hZ hown (hw _ (List.mem_of_getElem? (i := 13) rfl)) (hw _ (List.mem_of_getElem? (i := 14) rfl)) (hw _ (List.mem_of_getElem? (i := 16) rfl)) (hw _ (List.mem_of_getElem? (i := 15) rfl)) (by decide) e27 (argsL := [(.int x1)]) (rest := []) (rm3 l Z a0 hw x1 ca cc h27 n0 Z27 O34 S1 S2 B) (by decide) (W := 0) (by decide) (by decide) (by decide) pd_3 rfl (pc := 72) (Ls := #[.val (.int x1), .val (.int y1), .val (.int x2), .val (.int y2), .val (.int sel), .val (.int ee), .val (.int dd), .val (.ref a11), .val (.ref a20), .val (.int ex), .unset]) (by rw [hml]; rfl) (Nat.le_of_eq rfl) (hb hby at_72)
      obtain ⟨h35, e35⟩ : ∃ z, T35.heap = z := ⟨_, rfl⟩
      rw [e35] at hQ35
      obtain ⟨a35, rfl, M35, K35, E35⟩ := hQ35
      have N35 := Fr.app N27 M35
      have F36 := F28.keep K35
      have F37 := F29.keep K35 nin0
      have F38 := F30.keep K35 nin0
      have F39 := F31.keep K35
      have F40 := Fa27.keep K35 nin0
      have F41 := Fb27.keep K35 nin0
      have O42 := O34.keep K35 all0
      have Z35 : n0 ≤ h35.size := Nat.le_trans Z27 K35.1
      refine own_to (T35.setTop (mkF m 75 #[.val (.int x1), .val (.int y1), .val (.int x2), .val (.int y2), .val (.int sel), .val (.int ee), .val (.int dd), .val (.ref a11), .val (.ref a20), .val (.int ex), .unset] [(.ref a35)])) (fun t k => st35 t k) ?_
      refine own_to (T35.setTop (mkF m 77 #[.val (.int x1), .val (.int y1), .val (.int x2), .val (.int y2), .val (.int sel), .val (.int ee), .val (.int dd), .val (.ref a11), .val (.ref a20), .val (.int ex), .val (.ref a35)] [])) (fun t k => XS.astore X35.here hx rfl (hb hby at_75) rfl rfl (l' := #[.val (.int x1), .val (.int y1), .val (.int x2), .val (.int y2), .val (.int sel), .val (.int ee), .val (.int dd), .val (.ref a11), .val (.ref a20), .val (.int ex), .val (.ref a35)]) rfl k) ?_
      refine own_to (T35.setTop (mkF m 79 #[.val (.int x1), .val (.int y1), .val (.int x2), .val (.int y2), .val (.int sel), .val (.int ee), .val (.int dd), .val (.ref a11), .val (.ref a20), .val (.int ex), .val (.ref a35)] [(.ref a11)])) (fun t k => XS.aload X35.here hx rfl (hb hby at_77) rfl rfl k) ?_
      refine own_to (T35.setTop (mkF m 81 #[.val (.int x1), .val (.int y1), .val (.int x2), .val (.int y2), .val (.int sel), .val (.int ee), .val (.int dd), .val (.ref a11), .val (.ref a20), .val (.int ex), .val (.ref a35)] [(.ref a20), (.ref a11)])) (fun t k => XS.aload X35.here hx rfl (hb hby at_79) rfl rfl k) ?_
      obtain ⟨v43, T43, L43, X43, hQ43, st43⟩ := own_callV X35 hx hZ hown (hw _ (List.mem_of_getElem? (i := 20) rfl)) (hw _ (List.mem_of_getElem? (i := 21) rfl)) (hw _ (List.mem_of_getElem? (i := 23) rfl)) (notFace_of_selects (args := #[]) (mvT hZ (hw _ (List.mem_of_getElem? (i := 23) rfl)))) (hw _ (List.mem_of_getElem? (i := 22) rfl)) (hw _ (List.mem_of_getElem? (i := 24) rfl)) (hw _ (List.mem_of_getElem? (i := 2) rfl)) (by decide) e35 F36 (argsL := [(.ref a20)]) (rest := []) (rmEm l Z a0 hw a11 a20 x1 y1 ee dd h35 n0 Z35 F39 F37 F38 F40 F41) (by decide) (W := 0) (by decide) (by decide) (by decide) pd_4 rfl (pc := 81) (Ls := #[.val (.int x1), .val (.int y1), .val (.int x2), .val (.int y2), .val (.int sel), .val (.int ee), .val (.int dd), .val (.ref a11), .val (.ref a20), .val (.int ex), .val (.ref a35)]) (by rw [hml]; rfl) (Nat.le_of_eq rfl) (hb hby at_81)
      obtain ⟨rfl, M43, e43⟩ := hQ43
      have N43 := Fr.app N35 M43
      refine own_to (T43.setTop (mkF m 84 #[.val (.int x1), .val (.int y1), .val (.int x2), .val (.int y2), .val (.int sel), .val (.int ee), .val (.int dd), .val (.ref a11), .val (.ref a20), .val (.int ex), .val (.ref a35)] [(.int (own_eq x1 y1 ee dd))])) (fun t k => st43 t k) ?_
      refine own_to (T43.setTop (mkF m 86 #[.val (.int x1), .val (.int y1), .val (.int x2), .val (.int y2), .val (.int sel), .val (.int ee), .val (.int dd), .val (.ref a11), .val (.ref a20), .val (.int ex), .val (.ref a35)] [(.int ex), (.int (own_eq x1 y1 ee dd))])) (fun t k => XS.iload X43.here hx rfl (hb hby at_84) rfl k) ?_
      refine own_to (T43.setTop (mkF m 89 #[.val (.int x1), .val (.int y1), .val (.int x2), .val (.int y2), .val (.int sel), .val (.int ee), .val (.int dd), .val (.ref a11), .val (.ref a20), .val (.int ex), .val (.ref a35)] [])) (fun t k => XS.icmpNo X43.here hx rfl (hb hby at_86) rfl (teq hex).2 k) ?_
      refine own_to (T43.setTop (mkF m 91 #[.val (.int x1), .val (.int y1), .val (.int x2), .val (.int y2), .val (.int sel), .val (.int ee), .val (.int dd), .val (.ref a11), .val (.ref a20), .val (.int ex), .val (.ref a35)] [(.ref a20)])) (fun t k => XS.aload X43.here hx rfl (hb hby at_89) rfl rfl k) ?_
      refine own_to (T43.setTop (mkF m 93 #[.val (.int x1), .val (.int y1), .val (.int x2), .val (.int y2), .val (.int sel), .val (.int ee), .val (.int dd), .val (.ref a11), .val (.ref a20), .val (.int ex), .val (.ref a35)] [(.ref a11), (.ref a20)])) (fun t k => XS.aload X43.here hx rfl (hb hby at_91) rfl rfl k) ?_
      obtain ⟨v44, T44, L44, X44, hQ44, st44⟩ := own_callV X43 hx hZ hown (hw _ (List.mem_of_getElem? (i := 20) rfl)) (hw _ (List.mem_of_getElem? (i := 21) rfl)) (hw _ (List.mem_of_getElem? (i := 23) rfl)) (notFace_of_selects (args := #[]) (mvT hZ (hw _ (List.mem_of_getElem? (i := 23) rfl)))) (hw _ (List.mem_of_getElem? (i := 22) rfl)) (hw _ (List.mem_of_getElem? (i := 24) rfl)) (hw _ (List.mem_of_getElem? (i := 2) rfl)) (by decide) e43 F39 (argsL := [(.ref a11)]) (rest := []) (rmEm l Z a0 hw a20 a11 ee dd x1 y1 h35 n0 Z35 F36 F40 F41 F37 F38) (by decide) (W := 0) (by decide) (by decide) (by decide) pd_4 rfl (pc := 93) (Ls := #[.val (.int x1), .val (.int y1), .val (.int x2), .val (.int y2), .val (.int sel), .val (.int ee), .val (.int dd), .val (.ref a11), .val (.ref a20), .val (.int ex), .val (.ref a35)]) (by rw [hml]; rfl) (Nat.le_of_eq rfl) (hb hby at_93)
      obtain ⟨rfl, M44, e44⟩ := hQ44
      have N44 := Fr.app N43 M44
      refine own_to (T44.setTop (mkF m 96 #[.val (.int x1), .val (.int y1), .val (.int x2), .val (.int y2), .val (.int sel), .val (.int ee), .val (.int dd), .val (.ref a11), .val (.ref a20), .val (.int ex), .val (.ref a35)] [(.int (own_eq ee dd x1 y1))])) (fun t k => st44 t k) ?_
      refine own_to (T44.setTop (mkF m 98 #[.val (.int x1), .val (.int y1), .val (.int x2), .val (.int y2), .val (.int sel), .val (.int ee), .val (.int dd), .val (.ref a11), .val (.ref a20), .val (.int ex), .val (.ref a35)] [(.int ex), (.int (own_eq ee dd x1 y1))])) (fun t k => XS.iload X44.here hx rfl (hb hby at_96) rfl k) ?_
      refine own_to (T44.setTop (mkF m 101 #[.val (.int x1), .val (.int y1), .val (.int x2), .val (.int y2), .val (.int sel), .val (.int ee), .val (.int dd), .val (.ref a11), .val (.ref a20), .val (.int ex), .val (.ref a35)] [])) (fun t k => XS.icmpNo X44.here hx rfl (hb hby at_98) rfl (teq ((own_eqs _ _ _ _).trans hex)).2 k) ?_
      refine own_to (T44.setTop (mkF m 103 #[.val (.int x1), .val (.int y1), .val (.int x2), .val (.int y2), .val (.int sel), .val (.int ee), .val (.int dd), .val (.ref a11), .val (.ref a20), .val (.int ex), .val (.ref a35)] [(.ref a11)])) (fun t k => XS.aload X44.here hx rfl (hb hby at_101) rfl rfl k) ?_
      refine own_to (T44.setTop (mkF m 105 #[.val (.int x1), .val (.int y1), .val (.int x2), .val (.int y2), .val (.int sel), .val (.int ee), .val (.int dd), .val (.ref a11), .val (.ref a20), .val (.int ex), .val (.ref a35)] [(.ref a11), (.ref a11)])) (fun t k => XS.aload X44.here hx rfl (hb hby at_103) rfl rfl k) ?_
      obtain ⟨v45, T45, L45, X45, hQ45, st45⟩ := own_callV X44 hx hZ hown (hw _ (List.mem_of_getElem? (i := 20) rfl)) (hw _ (List.mem_of_getElem? (i := 21) rfl)) (hw _ (List.mem_of_getElem? (i := 23) rfl)) (notFace_of_selects (args := #[]) (mvT hZ (hw _ (List.mem_of_getElem? (i := 23) rfl)))) (hw _ (List.mem_of_getElem? (i := 22) rfl)) (hw _ (List.mem_of_getElem? (i := 24) rfl)) (hw _ (List.mem_of_getElem? (i := 2) rfl)) (by decide) e44 F36 (argsL := [(.ref a11)]) (rest := []) (rmEm l Z a0 hw a11 a11 x1 y1 x1 y1 h35 n0 Z35 F36 F37 F38 F37 F38) (by decide) (W := 0) (by decide) (by decide) (by decide) pd_4 rfl (pc := 105) (Ls := #[.val (.int x1), .val (.int y1), .val (.int x2), .val (.int y2), .val (.int sel), .val (.int ee), .val (.int dd), .val (.ref a11), .val (.ref a20), .val (.int ex), .val (.ref a35)]) (by rw [hml]; rfl) (Nat.le_of_eq rfl) (hb hby at_105)
      obtain ⟨rfl, M45, e45⟩ := hQ45
      have N45 := Fr.app N44 M45
      refine own_to (T45.setTop (mkF m 108 #[.val (.int x1), .val (.int y1), .val (.int x2), .val (.int y2), .val (.int sel), .val (.int ee), .val (.int dd), .val (.ref a11), .val (.ref a20), .val (.int ex), .val (.ref a35)] [(.int (own_eq x1 y1 x1 y1))])) (fun t k => st45 t k) ?_
      refine own_to (T45.setTop (mkF m 111 #[.val (.int x1), .val (.int y1), .val (.int x2), .val (.int y2), .val (.int sel), .val (.int ee), .val (.int dd), .val (.ref a11), .val (.ref a20), .val (.int ex), .val (.ref a35)] [])) (fun t k => XS.ifNo X45.here hx rfl (hb hby at_108) rfl ((if0 _ _).trans (feq (by rw [own_eq1]; decide)).1) k) ?_
      refine own_to (T45.setTop (mkF m 113 #[.val (.int x1), .val (.int y1), .val (.int x2), .val (.int y2), .val (.int sel), .val (.int ee), .val (.int dd), .val (.ref a11), .val (.ref a20), .val (.int ex), .val (.ref a35)] [(.ref a11)])) (fun t k => XS.aload X45.here hx rfl (hb hby at_111) rfl rfl k) ?_
      refine own_to (T45.setTop (mkF m 114 #[.val (.int x1), .val (.int y1), .val (.int x2), .val (.int y2), .val (.int sel), .val (.int ee), .val (.int dd), .val (.ref a11), .val (.ref a20), .val (.int ex), .val (.ref a35)] [.null, (.ref a11)])) (fun t k => XS.aconstNull X45.here hx rfl (hb hby at_113) k) ?_
      obtain ⟨v46, T46, L46, X46, hQ46, st46⟩ := own_callV X45 hx hZ hown (hw _ (List.mem_of_getElem? (i := 20) rfl)) (hw _ (List.mem_of_getElem? (i := 21) rfl)) (hw _ (List.mem_of_getElem? (i := 23) rfl)) (notFace_of_selects (args := #[]) (mvT hZ (hw _ (List.mem_of_getElem? (i := 23) rfl)))) (hw _ (List.mem_of_getElem? (i := 22) rfl)) (hw _ (List.mem_of_getElem? (i := 24) rfl)) (hw _ (List.mem_of_getElem? (i := 2) rfl)) (by decide) e45 F36 (argsL := [.null]) (rest := []) (rmEn l Z a0 hw a11 h35 n0 Z35) (by decide) (W := 0) (by decide) (by decide) (by decide) pd_4 rfl (pc := 114) (Ls := #[.val (.int x1), .val (.int y1), .val (.int x2), .val (.int y2), .val (.int sel), .val (.int ee), .val (.int dd), .val (.ref a11), .val (.ref a20), .val (.int ex), .val (.ref a35)]) (by rw [hml]; rfl) (Nat.le_of_eq rfl) (hb hby at_114)
      obtain ⟨rfl, M46, e46⟩ := hQ46
      have N46 := Fr.app N45 M46
      refine own_to (T46.setTop (mkF m 117 #[.val (.int x1), .val (.int y1), .val (.int x2), .val (.int y2), .val (.int sel), .val (.int ee), .val (.int dd), .val (.ref a11), .val (.ref a20), .val (.int ex), .val (.ref a35)] [(.int (0 : Int32))])) (fun t k => st46 t k) ?_
      refine own_to (T46.setTop (mkF m 120 #[.val (.int x1), .val (.int y1), .val (.int x2), .val (.int y2), .val (.int sel), .val (.int ee), .val (.int dd), .val (.ref a11), .val (.ref a20), .val (.int ex), .val (.ref a35)] [])) (fun t k => XS.ifNo X46.here hx rfl (hb hby at_117) rfl ((if0 _ _).trans (teq rfl).2) k) ?_
      refine own_to (T46.setTop (mkF m 122 #[.val (.int x1), .val (.int y1), .val (.int x2), .val (.int y2), .val (.int sel), .val (.int ee), .val (.int dd), .val (.ref a11), .val (.ref a20), .val (.int ex), .val (.ref a35)] [(.ref a11)])) (fun t k => XS.aload X46.here hx rfl (hb hby at_120) rfl rfl k) ?_
      refine own_to (T46.setTop (mkF m 124 #[.val (.int x1), .val (.int y1), .val (.int x2), .val (.int y2), .val (.int sel), .val (.int ee), .val (.int dd), .val (.ref a11), .val (.ref a20), .val (.int ex), .val (.ref a35)] [(.ref a35), (.ref a11)])) (fun t k => XS.aload X46.here hx rfl (hb hby at_122) rfl rfl k) ?_
      obtain ⟨v47, T47, L47, X47, hQ47, st47⟩ := own_callV X46 hx hZ hown (hw _ (List.mem_of_getElem? (i := 20) rfl)) (hw _ (List.mem_of_getElem? (i := 21) rfl)) (hw _ (List.mem_of_getElem? (i := 23) rfl)) (notFace_of_selects (args := #[]) (mvT hZ (hw _ (List.mem_of_getElem? (i := 23) rfl)))) (hw _ (List.mem_of_getElem? (i := 22) rfl)) (hw _ (List.mem_of_getElem? (i := 24) rfl)) (hw _ (List.mem_of_getElem? (i := 2) rfl)) (by decide) e46 F36 (argsL := [(.ref a35)]) (rest := []) (rmEi l Z a0 hw a11 a35 h35 n0 Z35 E35) (by decide) (W := 0) (by decide) (by decide) (by decide) pd_4 rfl (pc := 124) (Ls := #[.val (.int x1), .val (.int y1), .val (.int x2), .val (.int y2), .val (.int sel), .val (.int ee), .val (.int dd), .val (.ref a11), .val (.ref a20), .val (.int ex), .val (.ref a35)]) (by rw [hml]; rfl) (Nat.le_of_eq rfl) (hb hby at_124)
      obtain ⟨rfl, M47, e47⟩ := hQ47
      have N47 := Fr.app N46 M47
      refine own_to (T47.setTop (mkF m 127 #[.val (.int x1), .val (.int y1), .val (.int x2), .val (.int y2), .val (.int sel), .val (.int ee), .val (.int dd), .val (.ref a11), .val (.ref a20), .val (.int ex), .val (.ref a35)] [(.int (0 : Int32))])) (fun t k => st47 t k) ?_
      refine own_to (T47.setTop (mkF m 130 #[.val (.int x1), .val (.int y1), .val (.int x2), .val (.int y2), .val (.int sel), .val (.int ee), .val (.int dd), .val (.ref a11), .val (.ref a20), .val (.int ex), .val (.ref a35)] [])) (fun t k => XS.ifNo X47.here hx rfl (hb hby at_127) rfl ((if0 _ _).trans (teq rfl).2) k) ?_
      refine own_to (T47.setTop (mkF m 131 #[.val (.int x1), .val (.int y1), .val (.int x2), .val (.int y2), .val (.int sel), .val (.int ee), .val (.int dd), .val (.ref a11), .val (.ref a20), .val (.int ex), .val (.ref a35)] [(.int (1 : Int32))])) (fun t k => XT.iconstV X47.here hx rfl (1 : Int32) (hb hby at_130) (by decide) k) ?_
      refine own_to (T47.setTop (mkF m 135 #[.val (.int x1), .val (.int y1), .val (.int x2), .val (.int y2), .val (.int sel), .val (.int ee), .val (.int dd), .val (.ref a11), .val (.ref a20), .val (.int ex), .val (.ref a35)] [(.int (1 : Int32))])) (fun t k => XS.goto X47.here hx rfl (pc0 := 131) (pc' := 135) rfl (hb hby at_131) (by decide) (by decide) k) ?_
      exact own_retZ X47 hx hret hk (i' := (1 : Int32)) (hb hby at_135) (by decide) (by decide) (by decide) ⟨rfl, N47⟩
    refine own_to (T27.setTop (mkF m 54 #[.val (.int x1), .val (.int y1), .val (.int x2), .val (.int y2), .val (.int sel), .val (.int ee), .val (.int dd), .val (.ref a11), .val (.ref a20), .unset, .unset] [(.int ee)])) (fun t k => XS.iload X27.here hx rfl (hb hby at_52) rfl k) ?_
    refine own_to (T27.setTop (mkF m 55 #[.val (.int x1), .val (.int y1), .val (.int x2), .val (.int y2), .val (.int sel), .val (.int ee), .val (.int dd), .val (.ref a11), .val (.ref a20), .unset, .unset] [(.int x1), (.int ee)])) (fun t k => XS.iloadN X27.here hx rfl (hb hby at_54) rfl k) ?_
    by_cases c48 : ee = x1
    · -- c48 yes
      refine own_to (T27.setTop (mkF m 58 #[.val (.int x1), .val (.int y1), .val (.int x2), .val (.int y2), .val (.int sel), .val (.int ee), .val (.int dd), .val (.ref a11), .val (.ref a20), .unset, .unset] [])) (fun t k => XS.icmpNo X27.here hx rfl (hb hby at_55) rfl (teq c48).2 k) ?_
      refine own_to (T27.setTop (mkF m 60 #[.val (.int x1), .val (.int y1), .val (.int x2), .val (.int y2), .val (.int sel), .val (.int ee), .val (.int dd), .val (.ref a11), .val (.ref a20), .unset, .unset] [(.int dd)])) (fun t k => XS.iload X27.here hx rfl (hb hby at_58) rfl k) ?_
      refine own_to (T27.setTop (mkF m 61 #[.val (.int x1), .val (.int y1), .val (.int x2), .val (.int y2), .val (.int sel), .val (.int ee), .val (.int dd), .val (.ref a11), .val (.ref a20), .unset, .unset] [(.int y1), (.int dd)])) (fun t k => XS.iloadN X27.here hx rfl (hb hby at_60) rfl k) ?_
      by_cases c49 : dd = y1
      · -- c49 yes
        refine own_to (T27.setTop (mkF m 64 #[.val (.int x1), .val (.int y1), .val (.int x2), .val (.int y2), .val (.int sel), .val (.int ee), .val (.int dd), .val (.ref a11), .val (.ref a20), .unset, .unset] [])) (fun t k => XS.icmpNo X27.here hx rfl (hb hby at_61) rfl (teq c49).2 k) ?_
        refine own_to (T27.setTop (mkF m 65 #[.val (.int x1), .val (.int y1), .val (.int x2), .val (.int y2), .val (.int sel), .val (.int ee), .val (.int dd), .val (.ref a11), .val (.ref a20), .unset, .unset] [(.int (1 : Int32))])) (fun t k => XT.iconstV X27.here hx rfl (1 : Int32) (hb hby at_64) (by decide) k) ?_
        refine own_to (T27.setTop (mkF m 69 #[.val (.int x1), .val (.int y1), .val (.int x2), .val (.int y2), .val (.int sel), .val (.int ee), .val (.int dd), .val (.ref a11), .val (.ref a20), .unset, .unset] [(.int (1 : Int32))])) (fun t k => XS.goto X27.here hx rfl (pc0 := 65) (pc' := 69) rfl (hb hby at_65) (by decide) (by decide) k) ?_
        refine own_to (T27.setTop (mkF m 71 #[.val (.int x1), .val (.int y1), .val (.int x2), .val (.int y2), .val (.int sel), .val (.int ee), .val (.int dd), .val (.ref a11), .val (.ref a20), .val (.int (1 : Int32)), .unset] [])) (fun t k => XS.istore X27.here hx rfl (hb hby at_69) rfl (l' := #[.val (.int x1), .val (.int y1), .val (.int x2), .val (.int y2), .val (.int sel), .val (.int ee), .val (.int dd), .val (.ref a11), .val (.ref a20), .val (.int (1 : Int32)), .unset]) rfl k) ?_
        exact tail (1 : Int32) (by rw [own_eq, if_pos c48, if_pos c49])
      · -- c49 no
        refine own_to (T27.setTop (mkF m 68 #[.val (.int x1), .val (.int y1), .val (.int x2), .val (.int y2), .val (.int sel), .val (.int ee), .val (.int dd), .val (.ref a11), .val (.ref a20), .unset, .unset] [])) (fun t k => XS.icmpYes X27.here hx rfl (pc0 := 61) (pc' := 68) rfl (hb hby at_61) rfl (feq c49).2 (by decide) (by decide) k) ?_
        refine own_to (T27.setTop (mkF m 69 #[.val (.int x1), .val (.int y1), .val (.int x2), .val (.int y2), .val (.int sel), .val (.int ee), .val (.int dd), .val (.ref a11), .val (.ref a20), .unset, .unset] [(.int (0 : Int32))])) (fun t k => XT.iconstV X27.here hx rfl (0 : Int32) (hb hby at_68) (by decide) k) ?_
        refine own_to (T27.setTop (mkF m 71 #[.val (.int x1), .val (.int y1), .val (.int x2), .val (.int y2), .val (.int sel), .val (.int ee), .val (.int dd), .val (.ref a11), .val (.ref a20), .val (.int (0 : Int32)), .unset] [])) (fun t k => XS.istore X27.here hx rfl (hb hby at_69) rfl (l' := #[.val (.int x1), .val (.int y1), .val (.int x2), .val (.int y2), .val (.int sel), .val (.int ee), .val (.int dd), .val (.ref a11), .val (.ref a20), .val (.int (0 : Int32)), .unset]) rfl k) ?_
        exact tail (0 : Int32) (by rw [own_eq, if_pos c48, if_neg c49])
    · -- c48 no
      refine own_to (T27.setTop (mkF m 68 #[.val (.int x1), .val (.int y1), .val (.int x2), .val (.int y2), .val (.int sel), .val (.int ee), .val (.int dd), .val (.ref a11), .val (.ref a20), .unset, .unset] [])) (fun t k => XS.icmpYes X27.here hx rfl (pc0 := 55) (pc' := 68) rfl (hb hby at_55) rfl (feq c48).2 (by decide) (by decide) k) ?_
      refine own_to (T27.setTop (mkF m 69 #[.val (.int x1), .val (.int y1), .val (.int x2), .val (.int y2), .val (.int sel), .val (.int ee), .val (.int dd), .val (.ref a11), .val (.ref a20), .unset, .unset] [(.int (0 : Int32))])) (fun t k => XT.iconstV X27.here hx rfl (0 : Int32) (hb hby at_68) (by decide) k) ?_
      refine own_to (T27.setTop (mkF m 71 #[.val (.int x1), .val (.int y1), .val (.int x2), .val (.int y2), .val (.int sel), .val (.int ee), .val (.int dd), .val (.ref a11), .val (.ref a20), .val (.int (0 : Int32)), .unset] [])) (fun t k => XS.istore X27.here hx rfl (hb hby at_69) rfl (l' := #[.val (.int x1), .val (.int y1), .val (.int x2), .val (.int y2), .val (.int sel), .val (.int ee), .val (.int dd), .val (.ref a11), .val (.ref a20), .val (.int (0 : Int32)), .unset]) rfl k) ?_
      exact tail (0 : Int32) (by rw [own_eq, if_neg c48])
  refine own_to (s₁.setTop (mkF m 0 #[.val (.int x1), .val (.int y1), .val (.int x2), .val (.int y2), .val (.int sel), .unset, .unset, .unset, .unset, .unset, .unset] [])) (fun t k => castTop (ef_0 m x1 y1 x2 y2 sel) k) ?_
  refine own_to (s₁.setTop (mkF m 2 #[.val (.int x1), .val (.int y1), .val (.int x2), .val (.int y2), .val (.int sel), .unset, .unset, .unset, .unset, .unset, .unset] [(.int sel)])) (fun t k => XS.iload X0.here hx rfl (hb hby at_0) rfl k) ?_
  refine own_to (s₁.setTop (mkF m 3 #[.val (.int x1), .val (.int y1), .val (.int x2), .val (.int y2), .val (.int sel), .unset, .unset, .unset, .unset, .unset, .unset] [(.int (1 : Int32)), (.int sel)])) (fun t k => XT.iconstV X0.here hx rfl (1 : Int32) (hb hby at_2) (by decide) k) ?_
  refine own_to (s₁.setTop (mkF m 4 #[.val (.int x1), .val (.int y1), .val (.int x2), .val (.int y2), .val (.int sel), .unset, .unset, .unset, .unset, .unset, .unset] [(.int (sel &&& (1 : Int32)))])) (fun t k => XS.iand X0.here hx rfl (hb hby at_3) rfl k) ?_
  by_cases c50 : (sel &&& (1 : Int32)) = (0 : Int32)
  · -- c50 yes
    refine own_to (s₁.setTop (mkF m 11 #[.val (.int x1), .val (.int y1), .val (.int x2), .val (.int y2), .val (.int sel), .unset, .unset, .unset, .unset, .unset, .unset] [])) (fun t k => XS.ifYes X0.here hx rfl (pc0 := 4) (pc' := 11) rfl (hb hby at_4) rfl ((if0 _ _).trans (teq c50).1) (by decide) (by decide) k) ?_
    refine own_to (s₁.setTop (mkF m 12 #[.val (.int x1), .val (.int y1), .val (.int x2), .val (.int y2), .val (.int sel), .unset, .unset, .unset, .unset, .unset, .unset] [(.int x2)])) (fun t k => XS.iloadN X0.here hx rfl (hb hby at_11) rfl k) ?_
    refine own_to (s₁.setTop (mkF m 14 #[.val (.int x1), .val (.int y1), .val (.int x2), .val (.int y2), .val (.int sel), .val (.int x2), .unset, .unset, .unset, .unset, .unset] [])) (fun t k => XS.istore X0.here hx rfl (hb hby at_12) rfl (l' := #[.val (.int x1), .val (.int y1), .val (.int x2), .val (.int y2), .val (.int sel), .val (.int x2), .unset, .unset, .unset, .unset, .unset]) rfl k) ?_
    refine own_to (s₁.setTop (mkF m 16 #[.val (.int x1), .val (.int y1), .val (.int x2), .val (.int y2), .val (.int sel), .val (.int x2), .unset, .unset, .unset, .unset, .unset] [(.int sel)])) (fun t k => XS.iload X0.here hx rfl (hb hby at_14) rfl k) ?_
    refine own_to (s₁.setTop (mkF m 17 #[.val (.int x1), .val (.int y1), .val (.int x2), .val (.int y2), .val (.int sel), .val (.int x2), .unset, .unset, .unset, .unset, .unset] [(.int (2 : Int32)), (.int sel)])) (fun t k => XT.iconstV X0.here hx rfl (2 : Int32) (hb hby at_16) (by decide) k) ?_
    refine own_to (s₁.setTop (mkF m 18 #[.val (.int x1), .val (.int y1), .val (.int x2), .val (.int y2), .val (.int sel), .val (.int x2), .unset, .unset, .unset, .unset, .unset] [(.int (sel &&& (2 : Int32)))])) (fun t k => XS.iand X0.here hx rfl (hb hby at_17) rfl k) ?_
    by_cases c51 : (sel &&& (2 : Int32)) = (0 : Int32)
    · -- c51 yes
      refine own_to (s₁.setTop (mkF m 25 #[.val (.int x1), .val (.int y1), .val (.int x2), .val (.int y2), .val (.int sel), .val (.int x2), .unset, .unset, .unset, .unset, .unset] [])) (fun t k => XS.ifYes X0.here hx rfl (pc0 := 18) (pc' := 25) rfl (hb hby at_18) rfl ((if0 _ _).trans (teq c51).1) (by decide) (by decide) k) ?_
      refine own_to (s₁.setTop (mkF m 26 #[.val (.int x1), .val (.int y1), .val (.int x2), .val (.int y2), .val (.int sel), .val (.int x2), .unset, .unset, .unset, .unset, .unset] [(.int y2)])) (fun t k => XS.iloadN X0.here hx rfl (hb hby at_25) rfl k) ?_
      refine own_to (s₁.setTop (mkF m 28 #[.val (.int x1), .val (.int y1), .val (.int x2), .val (.int y2), .val (.int sel), .val (.int x2), .val (.int y2), .unset, .unset, .unset, .unset] [])) (fun t k => XS.istore X0.here hx rfl (hb hby at_26) rfl (l' := #[.val (.int x1), .val (.int y1), .val (.int x2), .val (.int y2), .val (.int sel), .val (.int x2), .val (.int y2), .unset, .unset, .unset, .unset]) rfl k) ?_
      exact main x2 y2
    · -- c51 no
      refine own_to (s₁.setTop (mkF m 21 #[.val (.int x1), .val (.int y1), .val (.int x2), .val (.int y2), .val (.int sel), .val (.int x2), .unset, .unset, .unset, .unset, .unset] [])) (fun t k => XS.ifNo X0.here hx rfl (hb hby at_18) rfl ((if0 _ _).trans (feq c51).1) k) ?_
      refine own_to (s₁.setTop (mkF m 22 #[.val (.int x1), .val (.int y1), .val (.int x2), .val (.int y2), .val (.int sel), .val (.int x2), .unset, .unset, .unset, .unset, .unset] [(.int y1)])) (fun t k => XS.iloadN X0.here hx rfl (hb hby at_21) rfl k) ?_
      refine own_to (s₁.setTop (mkF m 26 #[.val (.int x1), .val (.int y1), .val (.int x2), .val (.int y2), .val (.int sel), .val (.int x2), .unset, .unset, .unset, .unset, .unset] [(.int y1)])) (fun t k => XS.goto X0.here hx rfl (pc0 := 22) (pc' := 26) rfl (hb hby at_22) (by decide) (by decide) k) ?_
      refine own_to (s₁.setTop (mkF m 28 #[.val (.int x1), .val (.int y1), .val (.int x2), .val (.int y2), .val (.int sel), .val (.int x2), .val (.int y1), .unset, .unset, .unset, .unset] [])) (fun t k => XS.istore X0.here hx rfl (hb hby at_26) rfl (l' := #[.val (.int x1), .val (.int y1), .val (.int x2), .val (.int y2), .val (.int sel), .val (.int x2), .val (.int y1), .unset, .unset, .unset, .unset]) rfl k) ?_
      exact main x2 y1
  · -- c50 no
    refine own_to (s₁.setTop (mkF m 7 #[.val (.int x1), .val (.int y1), .val (.int x2), .val (.int y2), .val (.int sel), .unset, .unset, .unset, .unset, .unset, .unset] [])) (fun t k => XS.ifNo X0.here hx rfl (hb hby at_4) rfl ((if0 _ _).trans (feq c50).1) k) ?_
    refine own_to (s₁.setTop (mkF m 8 #[.val (.int x1), .val (.int y1), .val (.int x2), .val (.int y2), .val (.int sel), .unset, .unset, .unset, .unset, .unset, .unset] [(.int x1)])) (fun t k => XS.iloadN X0.here hx rfl (hb hby at_7) rfl k) ?_
    refine own_to (s₁.setTop (mkF m 12 #[.val (.int x1), .val (.int y1), .val (.int x2), .val (.int y2), .val (.int sel), .unset, .unset, .unset, .unset, .unset, .unset] [(.int x1)])) (fun t k => XS.goto X0.here hx rfl (pc0 := 8) (pc' := 12) rfl (hb hby at_8) (by decide) (by decide) k) ?_
    refine own_to (s₁.setTop (mkF m 14 #[.val (.int x1), .val (.int y1), .val (.int x2), .val (.int y2), .val (.int sel), .val (.int x1), .unset, .unset, .unset, .unset, .unset] [])) (fun t k => XS.istore X0.here hx rfl (hb hby at_12) rfl (l' := #[.val (.int x1), .val (.int y1), .val (.int x2), .val (.int y2), .val (.int sel), .val (.int x1), .unset, .unset, .unset, .unset, .unset]) rfl k) ?_
    refine own_to (s₁.setTop (mkF m 16 #[.val (.int x1), .val (.int y1), .val (.int x2), .val (.int y2), .val (.int sel), .val (.int x1), .unset, .unset, .unset, .unset, .unset] [(.int sel)])) (fun t k => XS.iload X0.here hx rfl (hb hby at_14) rfl k) ?_
    refine own_to (s₁.setTop (mkF m 17 #[.val (.int x1), .val (.int y1), .val (.int x2), .val (.int y2), .val (.int sel), .val (.int x1), .unset, .unset, .unset, .unset, .unset] [(.int (2 : Int32)), (.int sel)])) (fun t k => XT.iconstV X0.here hx rfl (2 : Int32) (hb hby at_16) (by decide) k) ?_
    refine own_to (s₁.setTop (mkF m 18 #[.val (.int x1), .val (.int y1), .val (.int x2), .val (.int y2), .val (.int sel), .val (.int x1), .unset, .unset, .unset, .unset, .unset] [(.int (sel &&& (2 : Int32)))])) (fun t k => XS.iand X0.here hx rfl (hb hby at_17) rfl k) ?_
    by_cases c52 : (sel &&& (2 : Int32)) = (0 : Int32)
    · -- c52 yes
      refine own_to (s₁.setTop (mkF m 25 #[.val (.int x1), .val (.int y1), .val (.int x2), .val (.int y2), .val (.int sel), .val (.int x1), .unset, .unset, .unset, .unset, .unset] [])) (fun t k => XS.ifYes X0.here hx rfl (pc0 := 18) (pc' := 25) rfl (hb hby at_18) rfl ((if0 _ _).trans (teq c52).1) (by decide) (by decide) k) ?_
      refine own_to (s₁.setTop (mkF m 26 #[.val (.int x1), .val (.int y1), .val (.int x2), .val (.int y2), .val (.int sel), .val (.int x1), .unset, .unset, .unset, .unset, .unset] [(.int y2)])) (fun t k => XS.iloadN X0.here hx rfl (hb hby at_25) rfl k) ?_
      refine own_to (s₁.setTop (mkF m 28 #[.val (.int x1), .val (.int y1), .val (.int x2), .val (.int y2), .val (.int sel), .val (.int x1), .val (.int y2), .unset, .unset, .unset, .unset] [])) (fun t k => XS.istore X0.here hx rfl (hb hby at_26) rfl (l' := #[.val (.int x1), .val (.int y1), .val (.int x2), .val (.int y2), .val (.int sel), .val (.int x1), .val (.int y2), .unset, .unset, .unset, .unset]) rfl k) ?_
      exact main x1 y2
    · -- c52 no
      refine own_to (s₁.setTop (mkF m 21 #[.val (.int x1), .val (.int y1), .val (.int x2), .val (.int y2), .val (.int sel), .val (.int x1), .unset, .unset, .unset, .unset, .unset] [])) (fun t k => XS.ifNo X0.here hx rfl (hb hby at_18) rfl ((if0 _ _).trans (feq c52).1) k) ?_
      refine own_to (s₁.setTop (mkF m 22 #[.val (.int x1), .val (.int y1), .val (.int x2), .val (.int y2), .val (.int sel), .val (.int x1), .unset, .unset, .unset, .unset, .unset] [(.int y1)])) (fun t k => XS.iloadN X0.here hx rfl (hb hby at_21) rfl k) ?_
      refine own_to (s₁.setTop (mkF m 26 #[.val (.int x1), .val (.int y1), .val (.int x2), .val (.int y2), .val (.int sel), .val (.int x1), .unset, .unset, .unset, .unset, .unset] [(.int y1)])) (fun t k => XS.goto X0.here hx rfl (pc0 := 22) (pc' := 26) rfl (hb hby at_22) (by decide) (by decide) k) ?_
      refine own_to (s₁.setTop (mkF m 28 #[.val (.int x1), .val (.int y1), .val (.int x2), .val (.int y2), .val (.int sel), .val (.int x1), .val (.int y1), .unset, .unset, .unset, .unset] [])) (fun t k => XS.istore X0.here hx rfl (hb hby at_26) rfl (l' := #[.val (.int x1), .val (.int y1), .val (.int x2), .val (.int y2), .val (.int sel), .val (.int x1), .val (.int y1), .unset, .unset, .unset, .unset]) rfl k) ?_
      exact main x1 y1
set_option maxRecDepth 65536 in
set_option maxHeartbeats 40000000 in
theorem comes_1 {Post : Tables → Env → Array Value → State → Outcome → State → Prop} (hpost : ∀ tb e args s v u, (limb_1_1.after args s (.returned v) u = true ∧ limb_1_2.after args s (.returned v) u = true ∧ True) → FrameEnd s (.returned v) u (Jvm.fieldLocs frame_1_writes args s ++ Jvm.arrayLocs frame_1_arrays args s ++ Jvm.staticLocs frame_1_statics s) 16 128 → Post tb e args s (.returned v) u) :
    ArmFor flags0 classFile x code maxLocals ret World_1 tables_1 room_1 Calls_1 rest_1 Pre_1 Post := by
  intro l hfl _ _ p e ha hc hk s m args below hf hA hF happ hP
  obtain ⟨hcalls, hrest, hpre⟩ := hP
  obtain ⟨-, -, -, hnamed, -, -, -, hat⟩ := (Spec.applies_iff hf).mp happ
  obtain ⟨hg, hn⟩ := and_e (Cond.before_iff.mp (show (Jvm.Cond.and given_1 narrow_1).before args s = true from hpre))
  obtain ⟨g0, k0⟩ := and_e hg
  obtain ⟨w0, w1, w2, w3, w4, rfl⟩ : ∃ w0 w1 w2 w3 w4 : Value, args = #[w0, w1, w2, w3, w4] := by
    have hs : args.size = 5 := by simpa [Cond.value, given_1] using g0
    obtain ⟨L⟩ := args
    match L, hs with
    | [w0, w1, w2, w3, w4], _ => exact ⟨w0, w1, w2, w3, w4, rfl⟩
  have hw := fun d (hd : d ∈ tables_1) => atoms_spec (ws := Jvm.Cond.code x code maxLocals ret :: tables_1) hat d (List.mem_cons_of_mem _ hd)
  have hfit : Fit s := fun {y c} hc i hi => by
    obtain ⟨ha, rfl⟩ := Array.getElem?_eq_some_iff.mp hc
    have q := List.all_eq_true.mp ((Array.all_eq_true_iff_forall_mem.mp hF) _ (Array.getElem_mem ha)) i (List.mem_range.mpr hi)
    simpa [Array.getElem?_eq_getElem hi] using q
  obtain ⟨hsets, hown0⟩ := atoms_of _ (rest_1_c_eq ▸ (show rest_1_c.before _ s = true from hrest))
  obtain ⟨g1, k1⟩ := and_e k0
  obtain ⟨i0, ei0⟩ := is_v g1
  obtain rfl : w0 = (.int i0) := Option.some.inj ei0
  obtain ⟨g2, k2⟩ := and_e k1
  obtain ⟨i1, ei1⟩ := is_v g2
  obtain rfl : w1 = (.int i1) := Option.some.inj ei1
  obtain ⟨g3, k3⟩ := and_e k2
  obtain ⟨i2, ei2⟩ := is_v g3
  obtain rfl : w2 = (.int i2) := Option.some.inj ei2
  obtain ⟨g4, k4⟩ := and_e k3
  obtain ⟨i3, ei3⟩ := is_v g4
  obtain rfl : w3 = (.int i3) := Option.some.inj ei3
  obtain ⟨i4, ei4⟩ := is_v k4
  obtain rfl : w4 = (.int i4) := Option.some.inj ei4
  have q3 := eqv_i (Term.int_eval 127) (Cond.before_iff.mp (hsets _ (List.mem_of_getElem? (i := 3) rfl)))
  have S1 := Sta.start q3 (Or.inl (hsets _ (List.mem_of_getElem? (i := 1) rfl)))
  have q4 := Cond.before_iff.mp (hsets _ (List.mem_of_getElem? (i := 4) rfl))
  obtain ⟨ca, ev⟩ := arr_v q4
  have evi : ∀ idx, (Term.static "java/lang/Integer$IntegerCache" "cache" "[Ljava/lang/Integer;").eval #[.int i0, .int i1, .int i2, .int i3, .int i4] s none idx s = some (.ref ca) := fun idx => ev
  obtain ⟨cc, A⟩ := Arr.start ev q4
  have S2 := Sta.start ev (Or.inr ⟨(hw _ (List.mem_of_getElem? (i := 18) rfl)), (hsets _ (List.mem_of_getElem? (i := 2) rfl))⟩)
  have ql := eqv_i (Term.int_eval 256) (Cond.before_iff.mp (hsets _ (List.mem_of_getElem? (i := 6) rfl)))
  have sz := own_len ql ev (A.fin (Vm.Alike.refl _))
  have B : Bxs s ca cc "java/lang/Integer" "I" 256 (fun j => .int (j - 128)) := Bxs.start evi A sz.1 sz.2 (by decide) (Cond.before_iff.mp (hsets _ (List.mem_of_getElem? (i := 7) rfl))) (fun X j hj h => eqv_i (own_subE (idx_at hj) (Term.int_eval 128)) h)
  obtain ⟨n, o, h1, h2, h3, _, L, rfl, ⟨rfl, N⟩, hq⟩ := rm0 l s _ hw i0 i1 i2 i3 i4 ca cc s.heap s.heap.size (Nat.le_refl _) (Old.start s) S1 S2 B tables_1 p e ha hc hk s m _ below hf ((Spec.applies_iff_loose hf).mp happ).1 ⟨rfl, State.Warmed39.refl s, rfl⟩ trivial
  refine ⟨n, _, h1, h2, h3, hpost _ _ _ _ _ _ ⟨Cond.after_iff.mpr rfl, Cond.after_iff.mpr (eq_i res_at (Term.int_eval (1)) rfl), trivial⟩ ⟨hq.1, hq.2.1, (hq.2.2.sift fun y hy => Or.inr (N y hy)).mono (by decide) (by decide)⟩⟩
theorem main_1_1 : Claimed_1_1 := comes_1 fun _ _ _ _ _ _ h hF => ⟨h.1, hF⟩
theorem main_1_2 : Claimed_1_2 := comes_1 fun _ _ _ _ _ _ h hF => ⟨h.2.1, hF⟩
end Jvm.Pilot.@@N@@
namespace Jvm.Pilot.@@N@@
open Jvm Jvm.ClassFile Sem Op Lib Jvm.Free Jvm.Stand Jvm.Pilot.@@N@@.Jvm.D
/-! MADE BY PROGRAM (witnessworld.py) out of the Statement's table words and the real class files: 16 classes; the members and pool entries that the words name. The judged class is class 1, her method 1. -/
namespace start1
open Jvm.ClassFile
def u (s : String) : CpInfo := .utf8 (stringToUtf16 s)
/-- a pool by its gaps: so many unusable entries, then the entry; so many at the end -/
def gap : Nat → List CpInfo → List CpInfo
  | 0, r => r
  | n + 1, r => .unusable :: gap n r
def poolList (es : List (Nat × CpInfo)) (last : Nat) : List CpInfo := es.foldr (fun e r => gap e.1 (e.2 :: r)) (gap last [])
def pool (es : List (Nat × CpInfo)) (last : Nat) : Array CpInfo := ⟨poolList es last⟩
def fileOf (pool : Array CpInfo) (this : Nat) (attrs : Array Attribute := #[]) (ms : Array MethodInfo := #[]) (fl : Nat := 33) (sup : Nat := 0) (ifs : Array Nat := #[]) (fds : Array FieldInfo := #[]) : ClassFile where
  minorVersion := 0
  majorVersion := 65
  constantPool := pool
  accessFlags := fl
  thisClass := this
  superClass := sup
  interfaces := ifs
  fields := fds
  methods := ms
  attributes := attrs
def plain (name : String) (sup : Option ClassId) : Class where
  name := name
  kind := .ordinary
  loader := none
  accessFlags := 33
  super := sup
  interfaces := #[]
  cf := none
  fields := #[]
  methods := #[]
  instanceTypes := #[]
  staticTypes := #[]
  resolved := #[]
  callSites := []
  init := .initialized
  statics := none
  mirror := none

def pool0 : Array CpInfo := pool [(5, u "<init>"), (0, u "()V"), (1, .class_ 10), (1, u "java/lang/Object")] 113

def k0c0 : Code := { maxStack := 0, maxLocals := 1, code := object_method_1_code, exceptionTable := #[], attributes := #[] }
def k0m0 : Method := { name := "<init>", desc := "()V", sig := { parameters := [], returnType := none }, accessFlags := 1, code := some k0c0 }
/-- java/lang/Object -/
def k0 : Class := { plain "java/lang/Object" none with
  accessFlags := 33
  interfaces := #[]
  cf := some (fileOf pool0 8 #[] #[{ accessFlags := 1, nameIndex := 5, descriptorIndex := 6, attributes := #[] }] 33 0 #[] #[])
  fields := #[]
  methods := #[k0m0]
  instanceTypes := #[]
  staticTypes := #[]
  resolved := Array.replicate 124 none
  statics := none }

def pool1 : Array CpInfo := pool [(2, .class_ 4), (1, u "java/lang/Object"), (0, u "<init>"), (0, u "()V"), (0, .class_ 8), (0, u "com/example/sosia/sosia/model/Match"), (0, .methodref 7 10), (0, .nameAndType 5 11), (0, u "(II)V"), (0, .methodref 13 14), (0, .class_ 15), (0, .nameAndType 16 17), (0, u "java/lang/Integer"), (0, u "valueOf"), (0, u "(I)Ljava/lang/Integer;"), (0, .methodref 7 19), (0, .nameAndType 20 21), (0, u "equals"), (0, u "(Ljava/lang/Object;)Z"), (0, .class_ 23), (0, u "com/example/sosia/sosia/model/MatchEqualsPinLaw"), (2, u "law"), (0, u "(IIIII)Z")] 3

def k1m0 : Method := { name := "<init>", desc := "()V", sig := { parameters := [], returnType := none }, accessFlags := 1, code := none }
def k1c1 : Code := { maxStack := 4, maxLocals := 11, code := code, exceptionTable := #[], attributes := #[] }
def k1m1 : Method := { name := "law", desc := "(IIIII)Z", sig := { parameters := [.int, .int, .int, .int, .int], returnType := some .boolean }, accessFlags := 9, code := some k1c1 }
/-- com/example/sosia/sosia/model/MatchEqualsPinLaw -/
def k1 : Class := { plain "com/example/sosia/sosia/model/MatchEqualsPinLaw" (some 0) with
  accessFlags := 49
  interfaces := #[]
  cf := some (fileOf pool1 22 #[] #[{ accessFlags := 1, nameIndex := 5, descriptorIndex := 6, attributes := #[] }, { accessFlags := 9, nameIndex := 26, descriptorIndex := 27, attributes := #[] }] 49 2 #[] #[])
  fields := #[]
  methods := #[k1m0, k1m1]
  instanceTypes := #[]
  staticTypes := #[]
  resolved := Array.replicate 31 none
  statics := none }

def pool2 : Array CpInfo := pool [(1, .class_ 2), (0, u "java/lang/Comparable"), (0, .class_ 4), (0, u "java/lang/Object")] 7

/-- java/lang/Comparable -/
def k2 : Class := { plain "java/lang/Comparable" (some 0) with
  accessFlags := 1537
  interfaces := #[]
  cf := some (fileOf pool2 1 #[] #[] 1537 3 #[] #[])
  fields := #[]
  methods := #[]
  instanceTypes := #[]
  staticTypes := #[]
  resolved := Array.replicate 12 none
  statics := none }

def pool3 : Array CpInfo := pool [(1, .methodref 2 3), (0, .class_ 4), (0, .nameAndType 5 6), (0, u "java/lang/Object"), (0, u "<init>"), (0, u "()V"), (0, .fieldref 8 9), (0, .class_ 10), (0, .nameAndType 11 12), (0, u "com/example/sosia/sosia/model/Match"), (0, u "entry"), (0, u "I"), (0, .fieldref 8 14), (0, .nameAndType 15 12), (0, u "distance"), (14, .class_ 31), (0, u "java/lang/Comparable"), (0, u "(II)V"), (4, u "equals"), (0, u "(Ljava/lang/Object;)Z")] 24

def k3c0 : Code := { maxStack := 2, maxLocals := 3, code := prog_22_method_1_code, exceptionTable := #[], attributes := #[] }
def k3m0 : Method := { name := "<init>", desc := "(II)V", sig := { parameters := [.int, .int], returnType := none }, accessFlags := 1, code := some k3c0 }
def k3c1 : Code := { maxStack := 2, maxLocals := 3, code := prog_22_method_5_code, exceptionTable := #[], attributes := #[] }
def k3m1 : Method := { name := "equals", desc := "(Ljava/lang/Object;)Z", sig := { parameters := [(.object "java/lang/Object")], returnType := some .boolean }, accessFlags := 1, code := some k3c1 }
/-- com/example/sosia/sosia/model/Match -/
def k3 : Class := { plain "com/example/sosia/sosia/model/Match" (some 0) with
  accessFlags := 33
  interfaces := #[2]
  cf := some (fileOf pool3 8 #[] #[{ accessFlags := 1, nameIndex := 5, descriptorIndex := 32, attributes := #[] }, { accessFlags := 1, nameIndex := 37, descriptorIndex := 38, attributes := #[] }] 33 2 #[30] #[{ accessFlags := 18, nameIndex := 11, descriptorIndex := 12, attributes := #[] }, { accessFlags := 18, nameIndex := 15, descriptorIndex := 12, attributes := #[] }])
  fields := #[{ name := "entry", type := .int, accessFlags := 18, slot := 0, constantValue := 0 }, { name := "distance", type := .int, accessFlags := 18, slot := 1, constantValue := 0 }]
  methods := #[k3m0, k3m1]
  instanceTypes := #[.int, .int]
  staticTypes := #[]
  resolved := Array.replicate 63 none
  statics := none }

def pool4 : Array CpInfo := pool [(1, .class_ 2), (0, u "java/io/Serializable"), (0, .class_ 4), (0, u "java/lang/Object")] 2

/-- java/io/Serializable -/
def k4 : Class := { plain "java/io/Serializable" (some 0) with
  accessFlags := 1537
  interfaces := #[]
  cf := some (fileOf pool4 1 #[] #[] 1537 3 #[] #[])
  fields := #[]
  methods := #[]
  instanceTypes := #[]
  staticTypes := #[]
  resolved := Array.replicate 7 none
  statics := none }

def pool5 : Array CpInfo := pool [(1, .methodref 2 3), (0, .class_ 4), (0, .nameAndType 5 6), (0, u "java/lang/Object"), (0, u "<init>"), (0, u "()V"), (1, .class_ 10), (1, u "java/lang/Number"), (2, .class_ 14), (0, u "java/io/Serializable"), (0, u "serialVersionUID"), (0, u "J")] 20

def k5c0 : Code := { maxStack := 1, maxLocals := 1, code := jdk_18_method_1_code, exceptionTable := #[], attributes := #[] }
def k5m0 : Method := { name := "<init>", desc := "()V", sig := { parameters := [], returnType := none }, accessFlags := 1, code := some k5c0 }
/-- java/lang/Number -/
def k5 : Class := { plain "java/lang/Number" (some 0) with
  accessFlags := 1057
  interfaces := #[4]
  cf := some (fileOf pool5 8 #[] #[{ accessFlags := 1, nameIndex := 5, descriptorIndex := 6, attributes := #[] }] 1057 2 #[13] #[{ accessFlags := 26, nameIndex := 15, descriptorIndex := 16, attributes := #[] }])
  fields := #[{ name := "serialVersionUID", type := .long, accessFlags := 26, slot := 0, constantValue := 0 }]
  methods := #[k5m0]
  instanceTypes := #[]
  staticTypes := #[.long]
  resolved := Array.replicate 37 none
  statics := none }

def pool6 : Array CpInfo := pool [(1, .class_ 2), (0, u "java/lang/constant/Constable"), (0, .class_ 4), (0, u "java/lang/Object")] 6

/-- java/lang/constant/Constable -/
def k6 : Class := { plain "java/lang/constant/Constable" (some 0) with
  accessFlags := 1537
  interfaces := #[]
  cf := some (fileOf pool6 1 #[] #[] 1537 3 #[] #[])
  fields := #[]
  methods := #[]
  instanceTypes := #[]
  staticTypes := #[]
  resolved := Array.replicate 11 none
  statics := none }

def pool7 : Array CpInfo := pool [(1, .class_ 2), (0, u "java/lang/constant/ConstantDesc"), (0, .class_ 4), (0, u "java/lang/Object")] 32

/-- java/lang/constant/ConstantDesc -/
def k7 : Class := { plain "java/lang/constant/ConstantDesc" (some 0) with
  accessFlags := 1537
  interfaces := #[]
  cf := some (fileOf pool7 1 #[] #[] 1537 3 #[] #[])
  fields := #[]
  methods := #[]
  instanceTypes := #[]
  staticTypes := #[]
  resolved := Array.replicate 37 none
  statics := none }

def pool8 : Array CpInfo := pool [(1, .class_ 2), (0, u "java/lang/Integer"), (16, u "digits"), (0, u "[C"), (46, u "<init>"), (17, u "DigitOnes"), (0, u "[B"), (2, u "DigitTens"), (10, .nameAndType 67 101), (0, u "()V"), (85, u "valueOf"), (0, u "(I)Ljava/lang/Integer;"), (0, .class_ 190), (0, u "java/lang/Integer$IntegerCache"), (0, .fieldref 189 192), (0, .nameAndType 193 194), (0, u "high"), (0, u "I"), (0, .fieldref 189 196), (0, .nameAndType 197 198), (0, u "cache"), (0, u "[Ljava/lang/Integer;"), (0, .methodref 1 200), (0, .nameAndType 67 201), (0, u "(I)V"), (0, .methodref 203 100), (0, .class_ 204), (0, u "java/lang/Number"), (0, .fieldref 1 206), (0, .nameAndType 207 194), (0, u "value"), (94, u "TYPE"), (0, u "Ljava/lang/Class;"), (0, .class_ 305), (0, u "java/lang/Comparable"), (0, .class_ 307), (0, u "java/lang/constant/Constable"), (0, .class_ 309), (0, u "java/lang/constant/ConstantDesc"), (0, u "MIN_VALUE"), (1, u "MAX_VALUE"), (3, u "SIZE"), (1, u "BYTES"), (1, u "serialVersionUID"), (0, u "J")] 131

def k8c0 : Code := { maxStack := 3, maxLocals := 1, code := jdk_33_method_22_code, exceptionTable := #[], attributes := #[] }
def k8m0 : Method := { name := "valueOf", desc := "(I)Ljava/lang/Integer;", sig := { parameters := [.int], returnType := some (.object "java/lang/Integer") }, accessFlags := 9, code := some k8c0 }
def k8c1 : Code := { maxStack := 2, maxLocals := 2, code := jdk_33_method_23_code, exceptionTable := #[], attributes := #[] }
def k8m1 : Method := { name := "<init>", desc := "(I)V", sig := { parameters := [.int], returnType := none }, accessFlags := 1, code := some k8c1 }
/-- java/lang/Integer -/
def k8 : Class := { plain "java/lang/Integer" (some 5) with
  accessFlags := 49
  interfaces := #[2, 6, 7]
  cf := some (fileOf pool8 1 #[.nestMembers #[189]] #[{ accessFlags := 9, nameIndex := 187, descriptorIndex := 188, attributes := #[] }, { accessFlags := 1, nameIndex := 67, descriptorIndex := 201, attributes := #[] }] 49 203 #[304, 306, 308] #[{ accessFlags := 25, nameIndex := 310, descriptorIndex := 194, attributes := #[] }, { accessFlags := 25, nameIndex := 312, descriptorIndex := 194, attributes := #[] }, { accessFlags := 25, nameIndex := 302, descriptorIndex := 303, attributes := #[] }, { accessFlags := 24, nameIndex := 19, descriptorIndex := 20, attributes := #[] }, { accessFlags := 24, nameIndex := 89, descriptorIndex := 86, attributes := #[] }, { accessFlags := 24, nameIndex := 85, descriptorIndex := 86, attributes := #[] }, { accessFlags := 18, nameIndex := 207, descriptorIndex := 194, attributes := #[] }, { accessFlags := 25, nameIndex := 316, descriptorIndex := 194, attributes := #[] }, { accessFlags := 25, nameIndex := 318, descriptorIndex := 194, attributes := #[] }, { accessFlags := 26, nameIndex := 320, descriptorIndex := 321, attributes := #[] }])
  fields := #[{ name := "MIN_VALUE", type := .int, accessFlags := 25, slot := 0, constantValue := 0 }, { name := "MAX_VALUE", type := .int, accessFlags := 25, slot := 1, constantValue := 0 }, { name := "TYPE", type := (.object "java/lang/Class"), accessFlags := 25, slot := 2, constantValue := 0 }, { name := "digits", type := (.array .char), accessFlags := 24, slot := 3, constantValue := 0 }, { name := "DigitTens", type := (.array .byte), accessFlags := 24, slot := 4, constantValue := 0 }, { name := "DigitOnes", type := (.array .byte), accessFlags := 24, slot := 5, constantValue := 0 }, { name := "value", type := .int, accessFlags := 18, slot := 0, constantValue := 0 }, { name := "SIZE", type := .int, accessFlags := 25, slot := 6, constantValue := 0 }, { name := "BYTES", type := .int, accessFlags := 25, slot := 7, constantValue := 0 }, { name := "serialVersionUID", type := .long, accessFlags := 26, slot := 8, constantValue := 0 }]
  methods := #[k8m0, k8m1]
  instanceTypes := #[.int]
  staticTypes := #[.int, .int, (.object "java/lang/Class"), (.array .char), (.array .byte), (.array .byte), .int, .int, .long]
  resolved := Array.replicate 453 none
  statics := none }

def pool9 : Array CpInfo := pool [(2, .class_ 4), (1, u "java/lang/Object"), (0, u "<init>"), (0, u "()V"), (0, .class_ 8), (0, u "java/lang/Integer"), (7, .class_ 18), (1, u "java/lang/Integer$IntegerCache"), (0, u "$assertionsDisabled"), (0, u "Z"), (26, u "high"), (0, u "I"), (8, u "archivedCache"), (0, u "[Ljava/lang/Integer;"), (12, u "cache"), (0, u "low")] 27

def k9m0 : Method := { name := "<init>", desc := "()V", sig := { parameters := [], returnType := none }, accessFlags := 2, code := none }
/-- java/lang/Integer$IntegerCache -/
def k9 : Class := { plain "java/lang/Integer$IntegerCache" (some 0) with
  accessFlags := 48
  interfaces := #[]
  cf := some (fileOf pool9 16 #[.nestHost 7] #[{ accessFlags := 2, nameIndex := 5, descriptorIndex := 6, attributes := #[] }] 48 2 #[] #[{ accessFlags := 24, nameIndex := 72, descriptorIndex := 48, attributes := #[] }, { accessFlags := 24, nameIndex := 47, descriptorIndex := 48, attributes := #[] }, { accessFlags := 24, nameIndex := 71, descriptorIndex := 58, attributes := #[] }, { accessFlags := 8, nameIndex := 57, descriptorIndex := 58, attributes := #[] }, { accessFlags := 4120, nameIndex := 19, descriptorIndex := 20, attributes := #[] }])
  fields := #[{ name := "low", type := .int, accessFlags := 24, slot := 0, constantValue := 0 }, { name := "high", type := .int, accessFlags := 24, slot := 1, constantValue := 0 }, { name := "cache", type := (.array (.object "java/lang/Integer")), accessFlags := 24, slot := 2, constantValue := 0 }, { name := "archivedCache", type := (.array (.object "java/lang/Integer")), accessFlags := 8, slot := 3, constantValue := 0 }, { name := "$assertionsDisabled", type := .boolean, accessFlags := 4120, slot := 4, constantValue := 0 }]
  methods := #[k9m0]
  instanceTypes := #[]
  staticTypes := #[.int, .int, (.array (.object "java/lang/Integer")), (.array (.object "java/lang/Integer")), .boolean]
  resolved := Array.replicate 100 none
  statics := some 0 }

def pool10 : Array CpInfo := pool [(1, u "java/lang/Cloneable"), (0, .class_ 1), (0, u "java/lang/Object"), (0, .class_ 3)] 3

/-- java/lang/Cloneable -/
def k10 : Class := { plain "java/lang/Cloneable" (some 0) with
  accessFlags := 1537
  interfaces := #[]
  cf := some (fileOf pool10 2 #[] #[] 1537 4 #[] #[])
  fields := #[]
  methods := #[]
  instanceTypes := #[]
  staticTypes := #[]
  resolved := Array.replicate 8 none
  statics := none }

/-- the primitive byte -/
def k11 : Class := { plain "byte" none with kind := .primitive 'B', accessFlags := 0x411 }
/-- [B -/
def k12 : Class := { plain "[B" (some 0) with kind := .array 11 .byte, interfaces := #[10, 4], accessFlags := 1041 }

/-- the primitive int -/
def k13 : Class := { plain "int" none with kind := .primitive 'I', accessFlags := 0x411 }
/-- [I -/
def k14 : Class := { plain "[I" (some 0) with kind := .array 13 .int, interfaces := #[10, 4], accessFlags := 1041 }

/-- [Ljava/lang/Integer; -/
def k15 : Class := { plain "[Ljava/lang/Integer;" (some 0) with kind := .array 8 (.object "java/lang/Integer"), interfaces := #[10, 4], accessFlags := 1041 }

def heap : Heap := #[{ cls := 9, slots := #[.int 0, .int 127, .ref 1, .null, .int 0], vm := .statics 9 },
  { cls := 15, slots := #[.ref 2, .ref 3, .ref 4, .ref 5, .ref 6, .ref 7, .ref 8, .ref 9, .ref 10, .ref 11, .ref 12, .ref 13, .ref 14, .ref 15, .ref 16, .ref 17, .ref 18, .ref 19, .ref 20, .ref 21, .ref 22, .ref 23, .ref 24, .ref 25, .ref 26, .ref 27, .ref 28, .ref 29, .ref 30, .ref 31, .ref 32, .ref 33, .ref 34, .ref 35, .ref 36, .ref 37, .ref 38, .ref 39, .ref 40, .ref 41, .ref 42, .ref 43, .ref 44, .ref 45, .ref 46, .ref 47, .ref 48, .ref 49, .ref 50, .ref 51, .ref 52, .ref 53, .ref 54, .ref 55, .ref 56, .ref 57, .ref 58, .ref 59, .ref 60, .ref 61, .ref 62, .ref 63, .ref 64, .ref 65, .ref 66, .ref 67, .ref 68, .ref 69, .ref 70, .ref 71, .ref 72, .ref 73, .ref 74, .ref 75, .ref 76, .ref 77, .ref 78, .ref 79, .ref 80, .ref 81, .ref 82, .ref 83, .ref 84, .ref 85, .ref 86, .ref 87, .ref 88, .ref 89, .ref 90, .ref 91, .ref 92, .ref 93, .ref 94, .ref 95, .ref 96, .ref 97, .ref 98, .ref 99, .ref 100, .ref 101, .ref 102, .ref 103, .ref 104, .ref 105, .ref 106, .ref 107, .ref 108, .ref 109, .ref 110, .ref 111, .ref 112, .ref 113, .ref 114, .ref 115, .ref 116, .ref 117, .ref 118, .ref 119, .ref 120, .ref 121, .ref 122, .ref 123, .ref 124, .ref 125, .ref 126, .ref 127, .ref 128, .ref 129, .ref 130, .ref 131, .ref 132, .ref 133, .ref 134, .ref 135, .ref 136, .ref 137, .ref 138, .ref 139, .ref 140, .ref 141, .ref 142, .ref 143, .ref 144, .ref 145, .ref 146, .ref 147, .ref 148, .ref 149, .ref 150, .ref 151, .ref 152, .ref 153, .ref 154, .ref 155, .ref 156, .ref 157, .ref 158, .ref 159, .ref 160, .ref 161, .ref 162, .ref 163, .ref 164, .ref 165, .ref 166, .ref 167, .ref 168, .ref 169, .ref 170, .ref 171, .ref 172, .ref 173, .ref 174, .ref 175, .ref 176, .ref 177, .ref 178, .ref 179, .ref 180, .ref 181, .ref 182, .ref 183, .ref 184, .ref 185, .ref 186, .ref 187, .ref 188, .ref 189, .ref 190, .ref 191, .ref 192, .ref 193, .ref 194, .ref 195, .ref 196, .ref 197, .ref 198, .ref 199, .ref 200, .ref 201, .ref 202, .ref 203, .ref 204, .ref 205, .ref 206, .ref 207, .ref 208, .ref 209, .ref 210, .ref 211, .ref 212, .ref 213, .ref 214, .ref 215, .ref 216, .ref 217, .ref 218, .ref 219, .ref 220, .ref 221, .ref 222, .ref 223, .ref 224, .ref 225, .ref 226, .ref 227, .ref 228, .ref 229, .ref 230, .ref 231, .ref 232, .ref 233, .ref 234, .ref 235, .ref 236, .ref 237, .ref 238, .ref 239, .ref 240, .ref 241, .ref 242, .ref 243, .ref 244, .ref 245, .ref 246, .ref 247, .ref 248, .ref 249, .ref 250, .ref 251, .ref 252, .ref 253, .ref 254, .ref 255, .ref 256, .ref 257], vm := .none },
  { cls := 8, slots := #[.int (-128)], vm := .none },
  { cls := 8, slots := #[.int (-127)], vm := .none },
  { cls := 8, slots := #[.int (-126)], vm := .none },
  { cls := 8, slots := #[.int (-125)], vm := .none },
  { cls := 8, slots := #[.int (-124)], vm := .none },
  { cls := 8, slots := #[.int (-123)], vm := .none },
  { cls := 8, slots := #[.int (-122)], vm := .none },
  { cls := 8, slots := #[.int (-121)], vm := .none },
  { cls := 8, slots := #[.int (-120)], vm := .none },
  { cls := 8, slots := #[.int (-119)], vm := .none },
  { cls := 8, slots := #[.int (-118)], vm := .none },
  { cls := 8, slots := #[.int (-117)], vm := .none },
  { cls := 8, slots := #[.int (-116)], vm := .none },
  { cls := 8, slots := #[.int (-115)], vm := .none },
  { cls := 8, slots := #[.int (-114)], vm := .none },
  { cls := 8, slots := #[.int (-113)], vm := .none },
  { cls := 8, slots := #[.int (-112)], vm := .none },
  { cls := 8, slots := #[.int (-111)], vm := .none },
  { cls := 8, slots := #[.int (-110)], vm := .none },
  { cls := 8, slots := #[.int (-109)], vm := .none },
  { cls := 8, slots := #[.int (-108)], vm := .none },
  { cls := 8, slots := #[.int (-107)], vm := .none },
  { cls := 8, slots := #[.int (-106)], vm := .none },
  { cls := 8, slots := #[.int (-105)], vm := .none },
  { cls := 8, slots := #[.int (-104)], vm := .none },
  { cls := 8, slots := #[.int (-103)], vm := .none },
  { cls := 8, slots := #[.int (-102)], vm := .none },
  { cls := 8, slots := #[.int (-101)], vm := .none },
  { cls := 8, slots := #[.int (-100)], vm := .none },
  { cls := 8, slots := #[.int (-99)], vm := .none },
  { cls := 8, slots := #[.int (-98)], vm := .none },
  { cls := 8, slots := #[.int (-97)], vm := .none },
  { cls := 8, slots := #[.int (-96)], vm := .none },
  { cls := 8, slots := #[.int (-95)], vm := .none },
  { cls := 8, slots := #[.int (-94)], vm := .none },
  { cls := 8, slots := #[.int (-93)], vm := .none },
  { cls := 8, slots := #[.int (-92)], vm := .none },
  { cls := 8, slots := #[.int (-91)], vm := .none },
  { cls := 8, slots := #[.int (-90)], vm := .none },
  { cls := 8, slots := #[.int (-89)], vm := .none },
  { cls := 8, slots := #[.int (-88)], vm := .none },
  { cls := 8, slots := #[.int (-87)], vm := .none },
  { cls := 8, slots := #[.int (-86)], vm := .none },
  { cls := 8, slots := #[.int (-85)], vm := .none },
  { cls := 8, slots := #[.int (-84)], vm := .none },
  { cls := 8, slots := #[.int (-83)], vm := .none },
  { cls := 8, slots := #[.int (-82)], vm := .none },
  { cls := 8, slots := #[.int (-81)], vm := .none },
  { cls := 8, slots := #[.int (-80)], vm := .none },
  { cls := 8, slots := #[.int (-79)], vm := .none },
  { cls := 8, slots := #[.int (-78)], vm := .none },
  { cls := 8, slots := #[.int (-77)], vm := .none },
  { cls := 8, slots := #[.int (-76)], vm := .none },
  { cls := 8, slots := #[.int (-75)], vm := .none },
  { cls := 8, slots := #[.int (-74)], vm := .none },
  { cls := 8, slots := #[.int (-73)], vm := .none },
  { cls := 8, slots := #[.int (-72)], vm := .none },
  { cls := 8, slots := #[.int (-71)], vm := .none },
  { cls := 8, slots := #[.int (-70)], vm := .none },
  { cls := 8, slots := #[.int (-69)], vm := .none },
  { cls := 8, slots := #[.int (-68)], vm := .none },
  { cls := 8, slots := #[.int (-67)], vm := .none },
  { cls := 8, slots := #[.int (-66)], vm := .none },
  { cls := 8, slots := #[.int (-65)], vm := .none },
  { cls := 8, slots := #[.int (-64)], vm := .none },
  { cls := 8, slots := #[.int (-63)], vm := .none },
  { cls := 8, slots := #[.int (-62)], vm := .none },
  { cls := 8, slots := #[.int (-61)], vm := .none },
  { cls := 8, slots := #[.int (-60)], vm := .none },
  { cls := 8, slots := #[.int (-59)], vm := .none },
  { cls := 8, slots := #[.int (-58)], vm := .none },
  { cls := 8, slots := #[.int (-57)], vm := .none },
  { cls := 8, slots := #[.int (-56)], vm := .none },
  { cls := 8, slots := #[.int (-55)], vm := .none },
  { cls := 8, slots := #[.int (-54)], vm := .none },
  { cls := 8, slots := #[.int (-53)], vm := .none },
  { cls := 8, slots := #[.int (-52)], vm := .none },
  { cls := 8, slots := #[.int (-51)], vm := .none },
  { cls := 8, slots := #[.int (-50)], vm := .none },
  { cls := 8, slots := #[.int (-49)], vm := .none },
  { cls := 8, slots := #[.int (-48)], vm := .none },
  { cls := 8, slots := #[.int (-47)], vm := .none },
  { cls := 8, slots := #[.int (-46)], vm := .none },
  { cls := 8, slots := #[.int (-45)], vm := .none },
  { cls := 8, slots := #[.int (-44)], vm := .none },
  { cls := 8, slots := #[.int (-43)], vm := .none },
  { cls := 8, slots := #[.int (-42)], vm := .none },
  { cls := 8, slots := #[.int (-41)], vm := .none },
  { cls := 8, slots := #[.int (-40)], vm := .none },
  { cls := 8, slots := #[.int (-39)], vm := .none },
  { cls := 8, slots := #[.int (-38)], vm := .none },
  { cls := 8, slots := #[.int (-37)], vm := .none },
  { cls := 8, slots := #[.int (-36)], vm := .none },
  { cls := 8, slots := #[.int (-35)], vm := .none },
  { cls := 8, slots := #[.int (-34)], vm := .none },
  { cls := 8, slots := #[.int (-33)], vm := .none },
  { cls := 8, slots := #[.int (-32)], vm := .none },
  { cls := 8, slots := #[.int (-31)], vm := .none },
  { cls := 8, slots := #[.int (-30)], vm := .none },
  { cls := 8, slots := #[.int (-29)], vm := .none },
  { cls := 8, slots := #[.int (-28)], vm := .none },
  { cls := 8, slots := #[.int (-27)], vm := .none },
  { cls := 8, slots := #[.int (-26)], vm := .none },
  { cls := 8, slots := #[.int (-25)], vm := .none },
  { cls := 8, slots := #[.int (-24)], vm := .none },
  { cls := 8, slots := #[.int (-23)], vm := .none },
  { cls := 8, slots := #[.int (-22)], vm := .none },
  { cls := 8, slots := #[.int (-21)], vm := .none },
  { cls := 8, slots := #[.int (-20)], vm := .none },
  { cls := 8, slots := #[.int (-19)], vm := .none },
  { cls := 8, slots := #[.int (-18)], vm := .none },
  { cls := 8, slots := #[.int (-17)], vm := .none },
  { cls := 8, slots := #[.int (-16)], vm := .none },
  { cls := 8, slots := #[.int (-15)], vm := .none },
  { cls := 8, slots := #[.int (-14)], vm := .none },
  { cls := 8, slots := #[.int (-13)], vm := .none },
  { cls := 8, slots := #[.int (-12)], vm := .none },
  { cls := 8, slots := #[.int (-11)], vm := .none },
  { cls := 8, slots := #[.int (-10)], vm := .none },
  { cls := 8, slots := #[.int (-9)], vm := .none },
  { cls := 8, slots := #[.int (-8)], vm := .none },
  { cls := 8, slots := #[.int (-7)], vm := .none },
  { cls := 8, slots := #[.int (-6)], vm := .none },
  { cls := 8, slots := #[.int (-5)], vm := .none },
  { cls := 8, slots := #[.int (-4)], vm := .none },
  { cls := 8, slots := #[.int (-3)], vm := .none },
  { cls := 8, slots := #[.int (-2)], vm := .none },
  { cls := 8, slots := #[.int (-1)], vm := .none },
  { cls := 8, slots := #[.int (0)], vm := .none },
  { cls := 8, slots := #[.int (1)], vm := .none },
  { cls := 8, slots := #[.int (2)], vm := .none },
  { cls := 8, slots := #[.int (3)], vm := .none },
  { cls := 8, slots := #[.int (4)], vm := .none },
  { cls := 8, slots := #[.int (5)], vm := .none },
  { cls := 8, slots := #[.int (6)], vm := .none },
  { cls := 8, slots := #[.int (7)], vm := .none },
  { cls := 8, slots := #[.int (8)], vm := .none },
  { cls := 8, slots := #[.int (9)], vm := .none },
  { cls := 8, slots := #[.int (10)], vm := .none },
  { cls := 8, slots := #[.int (11)], vm := .none },
  { cls := 8, slots := #[.int (12)], vm := .none },
  { cls := 8, slots := #[.int (13)], vm := .none },
  { cls := 8, slots := #[.int (14)], vm := .none },
  { cls := 8, slots := #[.int (15)], vm := .none },
  { cls := 8, slots := #[.int (16)], vm := .none },
  { cls := 8, slots := #[.int (17)], vm := .none },
  { cls := 8, slots := #[.int (18)], vm := .none },
  { cls := 8, slots := #[.int (19)], vm := .none },
  { cls := 8, slots := #[.int (20)], vm := .none },
  { cls := 8, slots := #[.int (21)], vm := .none },
  { cls := 8, slots := #[.int (22)], vm := .none },
  { cls := 8, slots := #[.int (23)], vm := .none },
  { cls := 8, slots := #[.int (24)], vm := .none },
  { cls := 8, slots := #[.int (25)], vm := .none },
  { cls := 8, slots := #[.int (26)], vm := .none },
  { cls := 8, slots := #[.int (27)], vm := .none },
  { cls := 8, slots := #[.int (28)], vm := .none },
  { cls := 8, slots := #[.int (29)], vm := .none },
  { cls := 8, slots := #[.int (30)], vm := .none },
  { cls := 8, slots := #[.int (31)], vm := .none },
  { cls := 8, slots := #[.int (32)], vm := .none },
  { cls := 8, slots := #[.int (33)], vm := .none },
  { cls := 8, slots := #[.int (34)], vm := .none },
  { cls := 8, slots := #[.int (35)], vm := .none },
  { cls := 8, slots := #[.int (36)], vm := .none },
  { cls := 8, slots := #[.int (37)], vm := .none },
  { cls := 8, slots := #[.int (38)], vm := .none },
  { cls := 8, slots := #[.int (39)], vm := .none },
  { cls := 8, slots := #[.int (40)], vm := .none },
  { cls := 8, slots := #[.int (41)], vm := .none },
  { cls := 8, slots := #[.int (42)], vm := .none },
  { cls := 8, slots := #[.int (43)], vm := .none },
  { cls := 8, slots := #[.int (44)], vm := .none },
  { cls := 8, slots := #[.int (45)], vm := .none },
  { cls := 8, slots := #[.int (46)], vm := .none },
  { cls := 8, slots := #[.int (47)], vm := .none },
  { cls := 8, slots := #[.int (48)], vm := .none },
  { cls := 8, slots := #[.int (49)], vm := .none },
  { cls := 8, slots := #[.int (50)], vm := .none },
  { cls := 8, slots := #[.int (51)], vm := .none },
  { cls := 8, slots := #[.int (52)], vm := .none },
  { cls := 8, slots := #[.int (53)], vm := .none },
  { cls := 8, slots := #[.int (54)], vm := .none },
  { cls := 8, slots := #[.int (55)], vm := .none },
  { cls := 8, slots := #[.int (56)], vm := .none },
  { cls := 8, slots := #[.int (57)], vm := .none },
  { cls := 8, slots := #[.int (58)], vm := .none },
  { cls := 8, slots := #[.int (59)], vm := .none },
  { cls := 8, slots := #[.int (60)], vm := .none },
  { cls := 8, slots := #[.int (61)], vm := .none },
  { cls := 8, slots := #[.int (62)], vm := .none },
  { cls := 8, slots := #[.int (63)], vm := .none },
  { cls := 8, slots := #[.int (64)], vm := .none },
  { cls := 8, slots := #[.int (65)], vm := .none },
  { cls := 8, slots := #[.int (66)], vm := .none },
  { cls := 8, slots := #[.int (67)], vm := .none },
  { cls := 8, slots := #[.int (68)], vm := .none },
  { cls := 8, slots := #[.int (69)], vm := .none },
  { cls := 8, slots := #[.int (70)], vm := .none },
  { cls := 8, slots := #[.int (71)], vm := .none },
  { cls := 8, slots := #[.int (72)], vm := .none },
  { cls := 8, slots := #[.int (73)], vm := .none },
  { cls := 8, slots := #[.int (74)], vm := .none },
  { cls := 8, slots := #[.int (75)], vm := .none },
  { cls := 8, slots := #[.int (76)], vm := .none },
  { cls := 8, slots := #[.int (77)], vm := .none },
  { cls := 8, slots := #[.int (78)], vm := .none },
  { cls := 8, slots := #[.int (79)], vm := .none },
  { cls := 8, slots := #[.int (80)], vm := .none },
  { cls := 8, slots := #[.int (81)], vm := .none },
  { cls := 8, slots := #[.int (82)], vm := .none },
  { cls := 8, slots := #[.int (83)], vm := .none },
  { cls := 8, slots := #[.int (84)], vm := .none },
  { cls := 8, slots := #[.int (85)], vm := .none },
  { cls := 8, slots := #[.int (86)], vm := .none },
  { cls := 8, slots := #[.int (87)], vm := .none },
  { cls := 8, slots := #[.int (88)], vm := .none },
  { cls := 8, slots := #[.int (89)], vm := .none },
  { cls := 8, slots := #[.int (90)], vm := .none },
  { cls := 8, slots := #[.int (91)], vm := .none },
  { cls := 8, slots := #[.int (92)], vm := .none },
  { cls := 8, slots := #[.int (93)], vm := .none },
  { cls := 8, slots := #[.int (94)], vm := .none },
  { cls := 8, slots := #[.int (95)], vm := .none },
  { cls := 8, slots := #[.int (96)], vm := .none },
  { cls := 8, slots := #[.int (97)], vm := .none },
  { cls := 8, slots := #[.int (98)], vm := .none },
  { cls := 8, slots := #[.int (99)], vm := .none },
  { cls := 8, slots := #[.int (100)], vm := .none },
  { cls := 8, slots := #[.int (101)], vm := .none },
  { cls := 8, slots := #[.int (102)], vm := .none },
  { cls := 8, slots := #[.int (103)], vm := .none },
  { cls := 8, slots := #[.int (104)], vm := .none },
  { cls := 8, slots := #[.int (105)], vm := .none },
  { cls := 8, slots := #[.int (106)], vm := .none },
  { cls := 8, slots := #[.int (107)], vm := .none },
  { cls := 8, slots := #[.int (108)], vm := .none },
  { cls := 8, slots := #[.int (109)], vm := .none },
  { cls := 8, slots := #[.int (110)], vm := .none },
  { cls := 8, slots := #[.int (111)], vm := .none },
  { cls := 8, slots := #[.int (112)], vm := .none },
  { cls := 8, slots := #[.int (113)], vm := .none },
  { cls := 8, slots := #[.int (114)], vm := .none },
  { cls := 8, slots := #[.int (115)], vm := .none },
  { cls := 8, slots := #[.int (116)], vm := .none },
  { cls := 8, slots := #[.int (117)], vm := .none },
  { cls := 8, slots := #[.int (118)], vm := .none },
  { cls := 8, slots := #[.int (119)], vm := .none },
  { cls := 8, slots := #[.int (120)], vm := .none },
  { cls := 8, slots := #[.int (121)], vm := .none },
  { cls := 8, slots := #[.int (122)], vm := .none },
  { cls := 8, slots := #[.int (123)], vm := .none },
  { cls := 8, slots := #[.int (124)], vm := .none },
  { cls := 8, slots := #[.int (125)], vm := .none },
  { cls := 8, slots := #[.int (126)], vm := .none },
  { cls := 8, slots := #[.int (127)], vm := .none }]
def classes : Array Class := #[k0, k1, k2, k3, k4, k5, k6, k7, k8, k9, k10, k11, k12, k13, k14, k15]
def interned : List (Array UInt16 × Addr) := []
def slotsUsed : Nat := 517
def theMethod : MethodId := ⟨1, 1⟩
def args0 : Array Value := #[.int 5, .int 7, .int 5, .int 8, .int 1]
def aboutOver (below : List Frame) : State where
  vm := { classes := classes, interned := interned.toArray }
  heap := heap
  slotsUsed := slotsUsed
  threads := #[{ frames := .invoking theMethod args0 :: below }]
def below0 : List Frame := [.native { method := ⟨0, 0⟩, args := #[] }]
def about1 : State := aboutOver below0
def p0 : Program := .bare "" "" ""
def e0 : Env := launch0.env 0 0 0
theorem w_frames : about1.frames = Frame.invoking theMethod args0 :: below0 := rfl
set_option maxRecDepth 65536 in
theorem w_args : argsFit about1.vm theMethod args0 = true := by decide +kernel
set_option maxRecDepth 65536 in
theorem w_heap : heapFits about1 = true := by decide +kernel
set_option maxRecDepth 65536 in
theorem w_runnable : about1.curStatus? = some .runnable := by decide +kernel
set_option maxRecDepth 65536 in
theorem w_alone : about1.alone = true := by decide +kernel
set_option maxRecDepth 65536 in
theorem w_named : about1.methodNamed? x = some theMethod := by decide +kernel
set_option maxRecDepth 65536 in
theorem w_hears : about1.hears theMethod below0 = true := by decide +kernel
set_option maxRecDepth 65536 in
theorem w_ripe : about1.ripe theMethod args0 below0 = true := by decide +kernel
theorem w_running : about1.status = .running := rfl
set_option maxRecDepth 65536 in
theorem w_room : about1.hasRoom e0.platform room_1 = true :=
  launch0.hasRoom_least _ room_1 (by decide +kernel) (by decide +kernel) (by decide +kernel) (by decide +kernel) (by decide +kernel) (by decide +kernel)
theorem allAtoms_all (ts : List Jvm.Cond) (a : Array Jvm.Value) (st : Jvm.State) : (allAtoms ts).before a st = ts.all (fun c => c.before a st) := by
  induction ts with
  | nil => rfl
  | cons c t ih =>
    show (Jvm.Cond.and c (allAtoms t)).before a st = _
    rw [Jvm.Cond.before_and, ih, List.all_cons]
def words1 : List Jvm.Cond := Jvm.Cond.code x code maxLocals ret :: tables_1
/-- a 'code' word, met by the world's own term for the bytes: nothing is compared byte by byte -/
theorem code_word {y : MethodName} {bytes : ByteArray} {mx : Nat} {rt : Option FieldType} {a : Array Value} {s : State} {m : MethodId} {meth : Method} {c : Code} (h1 : s.methodNamed? y = some m) (h2 : s.vm.method? m = some meth) (h3 : meth.code = some c) (h4 : c.code = bytes)
    (h5 : (c.maxLocals == mx && c.exceptionTable.isEmpty && decide (c.maxStack ≤ mostOperands) && decide (meth.sig.returnType = rt) && !meth.locks && decide (parseMethodDescriptor y.desc = some meth.sig)) = true) : (Jvm.Cond.code y bytes mx rt).before a s = true := by
  simp only [Bool.and_eq_true, beq_iff_eq, Bool.not_eq_true', decide_eq_true_eq] at h5
  obtain ⟨⟨⟨⟨⟨g1, g2⟩, g3⟩, g4⟩, g5⟩, g6⟩ := h5
  simp [Cond.before, Cond.holds, Cond.value, h1, h2, h3, h4, g1, g2, g3, g4, g5, g6]
def isCode : Jvm.Cond → Bool
  | .code _ _ _ _ => true
  | _ => false
theorem all_split {L : List Jvm.Cond} {P : Jvm.Cond → Bool} (h1 : L.all (fun c => isCode c || P c) = true) (h2 : ∀ c ∈ L.filter isCode, P c = true) : L.all P = true := by
  refine List.all_eq_true.mpr fun c hc => ?_
  have h := List.all_eq_true.mp h1 c hc
  rcases Bool.eq_false_or_eq_true (isCode c) with hi | hi
  · exact h2 c (List.mem_filter.mpr ⟨hc, hi⟩)
  · simpa [hi] using h
set_option maxRecDepth 65536 in
theorem w_c0 : (Jvm.Cond.code x code maxLocals ret).before args0 about1 = true := code_word (m := ⟨1, 1⟩) (meth := k1m1) (c := k1c1) (by decide +kernel) rfl rfl rfl (by decide +kernel)
set_option maxRecDepth 65536 in
theorem w_c1 : (Jvm.Cond.code ({ cls := "com/example/sosia/sosia/model/Match", name := "<init>", desc := "(II)V" } : Jvm.MethodName) prog_22_method_1_code (3 : Nat) (Option.none : Option Jvm.ClassFile.FieldType)).before args0 about1 = true := code_word (m := ⟨3, 0⟩) (meth := k3m0) (c := k3c0) (by decide +kernel) rfl rfl rfl (by decide +kernel)
set_option maxRecDepth 65536 in
theorem w_c2 : (Jvm.Cond.code ({ cls := "java/lang/Object", name := "<init>", desc := "()V" } : Jvm.MethodName) object_method_1_code (1 : Nat) (Option.none : Option Jvm.ClassFile.FieldType)).before args0 about1 = true := code_word (m := ⟨0, 0⟩) (meth := k0m0) (c := k0c0) (by decide +kernel) rfl rfl rfl (by decide +kernel)
set_option maxRecDepth 65536 in
theorem w_c3 : (Jvm.Cond.code ({ cls := "java/lang/Integer", name := "valueOf", desc := "(I)Ljava/lang/Integer;" } : Jvm.MethodName) jdk_33_method_22_code (1 : Nat) (Option.some (Jvm.ClassFile.FieldType.object "java/lang/Integer"))).before args0 about1 = true := code_word (m := ⟨8, 0⟩) (meth := k8m0) (c := k8c0) (by decide +kernel) rfl rfl rfl (by decide +kernel)
set_option maxRecDepth 65536 in
theorem w_c4 : (Jvm.Cond.code ({ cls := "com/example/sosia/sosia/model/Match", name := "equals", desc := "(Ljava/lang/Object;)Z" } : Jvm.MethodName) prog_22_method_5_code (3 : Nat) (Option.some Jvm.ClassFile.FieldType.boolean)).before args0 about1 = true := code_word (m := ⟨3, 1⟩) (meth := k3m1) (c := k3c1) (by decide +kernel) rfl rfl rfl (by decide +kernel)
set_option maxRecDepth 65536 in
theorem w_c5 : (Jvm.Cond.code ({ cls := "java/lang/Integer", name := "<init>", desc := "(I)V" } : Jvm.MethodName) jdk_33_method_23_code (2 : Nat) (Option.none : Option Jvm.ClassFile.FieldType)).before args0 about1 = true := code_word (m := ⟨8, 1⟩) (meth := k8m1) (c := k8c1) (by decide +kernel) rfl rfl rfl (by decide +kernel)
set_option maxRecDepth 65536 in
theorem w_c6 : (Jvm.Cond.code ({ cls := "java/lang/Number", name := "<init>", desc := "()V" } : Jvm.MethodName) jdk_18_method_1_code (1 : Nat) (Option.none : Option Jvm.ClassFile.FieldType)).before args0 about1 = true := code_word (m := ⟨5, 0⟩) (meth := k5m0) (c := k5c0) (by decide +kernel) rfl rfl rfl (by decide +kernel)
def codes1 : List Jvm.Cond := [Jvm.Cond.code x code maxLocals ret, Jvm.Cond.code ({ cls := "com/example/sosia/sosia/model/Match", name := "<init>", desc := "(II)V" } : Jvm.MethodName) prog_22_method_1_code (3 : Nat) (Option.none : Option Jvm.ClassFile.FieldType), Jvm.Cond.code ({ cls := "java/lang/Object", name := "<init>", desc := "()V" } : Jvm.MethodName) object_method_1_code (1 : Nat) (Option.none : Option Jvm.ClassFile.FieldType), Jvm.Cond.code ({ cls := "java/lang/Integer", name := "valueOf", desc := "(I)Ljava/lang/Integer;" } : Jvm.MethodName) jdk_33_method_22_code (1 : Nat) (Option.some (Jvm.ClassFile.FieldType.object "java/lang/Integer")), Jvm.Cond.code ({ cls := "com/example/sosia/sosia/model/Match", name := "equals", desc := "(Ljava/lang/Object;)Z" } : Jvm.MethodName) prog_22_method_5_code (3 : Nat) (Option.some Jvm.ClassFile.FieldType.boolean), Jvm.Cond.code ({ cls := "java/lang/Integer", name := "<init>", desc := "(I)V" } : Jvm.MethodName) jdk_33_method_23_code (2 : Nat) (Option.none : Option Jvm.ClassFile.FieldType), Jvm.Cond.code ({ cls := "java/lang/Number", name := "<init>", desc := "()V" } : Jvm.MethodName) jdk_18_method_1_code (1 : Nat) (Option.none : Option Jvm.ClassFile.FieldType)]
set_option maxRecDepth 65536 in
theorem codes_eq : words1.filter isCode = codes1 := rfl
theorem w_codes : ∀ c ∈ words1.filter isCode, c.before args0 about1 = true := by
  rw [codes_eq]
  intro c hc
  simp only [codes1, List.mem_cons, List.not_mem_nil, or_false] at hc
  rcases hc with rfl | rfl | rfl | rfl | rfl | rfl | rfl
  · exact w_c0
  · exact w_c1
  · exact w_c2
  · exact w_c3
  · exact w_c4
  · exact w_c5
  · exact w_c6
set_option maxRecDepth 65536 in
theorem w_t1 : (words1.take 24).all (fun c => isCode c || c.before args0 about1) = true := by decide +kernel
set_option maxRecDepth 65536 in
theorem w_t2 : (words1.drop 24).all (fun c => isCode c || c.before args0 about1) = true := by decide +kernel
theorem w_tables : (allAtoms (Jvm.Cond.code x code maxLocals ret :: tables_1)).before args0 about1 = true := by
  rw [allAtoms_all]
  show words1.all (fun c => c.before args0 about1) = true
  refine all_split ?_ w_codes
  rw [← List.take_append_drop 24 words1, List.all_append, w_t1, w_t2]
  rfl
set_option maxRecDepth 65536 in
theorem w_rest : rest_1_c.before args0 about1 = true := by decide +kernel
set_option maxRecDepth 65536 in
theorem w_case : (Jvm.Cond.and given_1 narrow_1).before args0 about1 = true := by decide +kernel
theorem w_applies : (headSpec (Jvm.Cond.code x code maxLocals ret :: tables_1) room_1).applies x e0.platform about1 = true :=
  (Spec.applies_iff w_frames).mpr ⟨w_running, w_runnable, w_alone, w_named, w_hears, w_ripe, w_room, w_tables⟩
theorem atStart : AtStart classFile x code maxLocals ret World_1 tables_1 room_1 Calls_1 rest_1 Pre_1 launch0 p0 e0 about1 theMethod args0 below0 :=
  ⟨lists_1, trivial, launch0.admits_env _ _ _, launch0.least_env, fairChoices_fair.cas, fairChoices_fair.clock, w_frames, w_args, w_heap, w_applies, trivial, w_rest, w_case⟩
end start1
theorem witness_1 : WitnessClaimed_1 := ⟨start1.p0, start1.e0, start1.about1, start1.theMethod, start1.args0, start1.below0, start1.atStart⟩
end Jvm.Pilot.@@N@@
