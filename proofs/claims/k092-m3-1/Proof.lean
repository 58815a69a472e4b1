import JvmDerived
import JvmDerived.Pilot.@@N@@Statement
import JvmDerived.Pilot.@@N@@Code
set_option linter.unusedVariables false
set_option linter.unusedSimpArgs false
namespace Jvm.Pilot.@@N@@
open Jvm Jvm.ClassFile Sem Op Lib Jvm.Free Jvm.Stand Jvm.LawKit Jvm.RoadKit Bundle Jvm.Pilot.@@N@@.Jvm.D
/-! The shared layer of these proofs (own text): a contract of one body (own_Ct), how a walk goes on and ends (own_Fin), one lemma a kind of call and of return. -/
section OwnLayer
variable {p : Program} {l : Launch} {e : Env} {R rm : Room} {s Z : State} {m : MethodId} {args as' a0 : Array Value} {below : List Frame} {meth : Method} {c : Code} {T : State} {locs : List Loc} {cells slots : Nat} {h : Heap}
  {Q : Option Value → Heap → List Loc → Prop} {y z : MethodName} {bytes : ByteArray} {maxL : Nat} {ret : Option FieldType} {own C : String} {index : Nat}
def own_Ct (l : Launch) (Z : State) (y : MethodName) (bytes : ByteArray) (maxL : Nat) (ret : Option FieldType) (rm : Room) (as' : Array Value) (h0 : Heap) (Q : Option Value → Heap → List Loc → Prop) : Prop :=
  ∀ ws : List Jvm.Cond, MetFree l y (head1 (Jvm.Cond.code y bytes maxL ret :: ws) rm) (fun a U => a = as' ∧ Z.Warmed39 U.vm ∧ U.heap = h0) (fun _ _ _ _ _ => True) (fun _ U o U' => ∃ v L, o = .returned v ∧ Q v U'.heap L ∧ FrameEnd U o U' L rm.cells rm.slots)
def own_Fin (p : Program) (e : Env) (s : State) (below : List Frame) (R : Room) (Q : Option Value → Heap → List Loc → Prop) (A : State) : Prop :=
  ∃ n o, Steps p.tables e below A n ∧ n.status = .running ∧ Ended n below o ∧ ∃ v L, o = .returned v ∧ Q v n.heap L ∧ FrameEnd s o n L R.cells R.slots
theorem own_to {A : State} (B : State) (st : ∀ t, Steps p.tables e below B t → Steps p.tables e below A t) (k : own_Fin p e s below R Q B) : own_Fin p e s below R Q A := by
  obtain ⟨n, o, h1, r⟩ := k
  exact ⟨n, o, st _ h1, r⟩
theorem own_body {h0 : Heap} (hp : plainFor y = true)
    (k : ∀ p e s m below meth c s₁, p.tables.exec = Jvm.exec → Z.Warmed39 s.vm → c.code = bytes → c.maxLocals = maxL → s.vm.findClass y.cls = some m.cls → meth.name = y.name → meth.sig.returnType = ret → meth.locks = false →
      Stand p l e rm s m as' below meth c s₁ [] 0 0 → s₁.heap = h0 → own_Fin p e s below rm Q (s₁.setTop (entryFrame m as' maxL))) : own_Ct l Z y bytes maxL ret rm as' h0 Q := by
  intro ws
  refine MetFree.of_bodySF hp hisR ?_
  intro p e s m args below meth c s₁ Bd hml0 hP hK
  obtain ⟨ha, hZ, hh⟩ := hP
  subst ha
  obtain ⟨n, o, h1, h2, h3, h4⟩ := k p e s m below meth c s₁ Bd.exec hZ Bd.bytes hml0 (findClass_of_methodNamed Bd.named) (name_of_methodNamed Bd.named Bd.method).1 Bd.returns Bd.notSynchronized (Stand.of_body Bd) (by rw [← hh, Bd.state]; rfl)
  exact ⟨n, o, h1, h2, h3, h4⟩
theorem own_retI (X : Stand p l e R s m args below meth c T locs cells slots) (hx : p.tables.exec = Jvm.exec) (hret : meth.sig.returnType = some .int) (hk : meth.locks = false) {pc : Nat} {Ls : Array Slot} {i : Int32} {rest : List Value}
    (hd : decode c.code pc = .ok (.ireturn, 1)) (hc : cells ≤ R.cells) (hs : slots ≤ R.slots) (hq : Q (some (.int i)) T.heap locs) : own_Fin p e s below R Q (T.setTop (mkF m pc Ls (.int i :: rest))) := by
  obtain ⟨fs, hr, hrun, hended, hW, hsame⟩ := X.leave (v := some (.int i)) (fun h => by rw [hret] at h; cases h) hk
  exact ⟨_, _, retOut X hx hret rfl (Or.inl ⟨rfl, Or.inl rfl, _, rfl⟩) hd hr, hrun, hended, _, _, rfl, hq, ⟨_, rfl⟩, hW, hsame.mono hc hs⟩
theorem own_retZ (X : Stand p l e R s m args below meth c T locs cells slots) (hx : p.tables.exec = Jvm.exec) (hret : meth.sig.returnType = some .boolean) (hk : meth.locks = false) {pc : Nat} {Ls : Array Slot} {i i' : Int32} {rest : List Value}
    (hd : decode c.code pc = .ok (.ireturn, 1)) (hc : cells ≤ R.cells) (hs : slots ≤ R.slots) (hi : nar .boolean i = i') (hq : Q (some (.int i')) T.heap locs) : own_Fin p e s below R Q (T.setTop (mkF m pc Ls (.int i :: rest))) := by
  subst hi
  obtain ⟨fs, hr, hrun, hended, hW, hsame⟩ := X.leave (v := some (.int (nar .boolean i))) (fun h => by rw [hret] at h; cases h) hk
  exact ⟨_, _, retN X hx (t := .boolean) hret (by simp) hd hr, hrun, hended, _, _, rfl, hq, ⟨_, rfl⟩, hW, hsame.mono hc hs⟩
theorem own_retJ (X : Stand p l e R s m args below meth c T locs cells slots) (hx : p.tables.exec = Jvm.exec) (hret : meth.sig.returnType = some .long) (hk : meth.locks = false) {pc : Nat} {Ls : Array Slot} {i : Int64} {rest : List Value}
    (hd : decode c.code pc = .ok (.lreturn, 1)) (hc : cells ≤ R.cells) (hs : slots ≤ R.slots) (hq : Q (some (.long i)) T.heap locs) : own_Fin p e s below R Q (T.setTop (mkF m pc Ls (.long i :: rest))) := by
  obtain ⟨fs, hr, hrun, hended, hW, hsame⟩ := X.leave (v := some (.long i)) (fun h => by rw [hret] at h; cases h) hk
  exact ⟨_, _, retOut X hx hret rfl (Or.inr (Or.inl ⟨rfl, rfl, _, rfl⟩)) hd hr, hrun, hended, _, _, rfl, hq, ⟨_, rfl⟩, hW, hsame.mono hc hs⟩
theorem own_retA (X : Stand p l e R s m args below meth c T locs cells slots) (hx : p.tables.exec = Jvm.exec) {t : FieldType} (hret : meth.sig.returnType = some t) (ht : t.isReference = true) (hk : meth.locks = false) {pc : Nat} {Ls : Array Slot} {v : Value} (hv : v.isRef = true) (hn : narrow t v = v) {rest : List Value}
    (hd : decode c.code pc = .ok (.areturn, 1)) (hc : cells ≤ R.cells) (hs : slots ≤ R.slots) (hq : Q (some v) T.heap locs) : own_Fin p e s below R Q (T.setTop (mkF m pc Ls (v :: rest))) := by
  obtain ⟨fs, hr, hrun, hended, hW, hsame⟩ := X.leave (v := some v) (fun h => by rw [hret] at h; cases h) hk
  exact ⟨_, _, retOut X hx hret hn (Or.inr (Or.inr (Or.inr (Or.inr ⟨rfl, ht, hv⟩)))) hd hr, hrun, hended, _, _, rfl, hq, ⟨_, rfl⟩, hW, hsame.mono hc hs⟩
theorem own_retV (X : Stand p l e R s m args below meth c T locs cells slots) (hx : p.tables.exec = Jvm.exec) (hret : meth.sig.returnType = none) (hk : meth.locks = false) {pc : Nat} {Ls : Array Slot}
    (hd : decode c.code pc = .ok (.return_, 1)) (hc : cells ≤ R.cells) (hs : slots ≤ R.slots) (hq : Q none T.heap locs) : own_Fin p e s below R Q (T.setTop (mkF m pc Ls [])) := by
  obtain ⟨fs, hr, hrun, hended, hW, hsame⟩ := X.leave (v := none) (fun _ => rfl) hk
  exact ⟨_, _, X.returnOut hx hret hd hr, hrun, hended, _, _, rfl, hq, ⟨_, rfl⟩, hW, hsame.mono hc hs⟩
theorem own_callV (X : Stand p l e R s m args below meth c T locs cells slots) (hx : p.tables.exec = Jvm.exec) (hZ : Z.Warmed39 s.vm) (hown : s.vm.findClass own = some m.cls) (w1 : (Cond.methodLink own index y).before a0 Z = true) (w2 : (Cond.declares y).before a0 Z = true)
    (w3 : (Cond.selects C y z).before a0 Z = true) (nf : NotFace s y) (w4 : (Cond.instanceMethod z).before a0 Z = true) (w5 : (Cond.code z bytes maxL ret).before a0 Z = true) (w6 : (Cond.initialized z.cls).before a0 Z = true) (hy : y.cls ≠ "java/lang/invoke/MethodHandle" ∧ y.cls ≠ "java/lang/invoke/VarHandle")
    (eT : T.heap = h) {b : Addr} (E : Exa Z h b C) {argsL rest : List Value} (ct : own_Ct l Z z bytes maxL ret rm (.ref b :: argsL).toArray h Q) (hf : rm.frames + 1 ≤ R.frames) {W : Nat} (hl : W + (maxL + 11) + rm.locals ≤ R.locals) (hc : cells + rm.cells ≤ R.cells) (hs : slots + rm.slots ≤ R.slots)
    {ps : List FieldType} {r : Option FieldType} (hpd : parseMethodDescriptor y.desc = some ⟨ps, r⟩) (hll : argsL.length = ps.length) {pc : Nat} {Ls : Array Slot} (hsz : Ls.size = c.maxLocals) (hW : (rest.map fun v => v.category).sum ≤ W) (hd : decode c.code pc = .ok (.invokevirtual index, 3)) :
    ∃ v T' L, Stand p l e R s m args below meth c T' (locs ++ L) (cells + rm.cells) (slots + rm.slots) ∧ Q v T'.heap L ∧ ∀ t, Steps p.tables e below (T'.setTop (mkF m (pc + 3) Ls (v.toList ++ rest))) t → Steps p.tables e below (T.setTop (mkF m pc Ls (argsL.reverse ++ .ref b :: rest))) t := by
  obtain ⟨cB, kB, q1, q2, q3⟩ := isOf hZ eT E
  obtain ⟨v, _, ⟨T', L', k', n'⟩, -, X', ⟨L, hQ, l1, y1, z1⟩, st⟩ := X.virtualBack hx (y := y) (z := z) hown (mvT hZ w1) (mvT hZ w2) nf (mvT hZ w3) (mvT hZ w4) hy (backOf (W := W) (ct []) hZ w5 w6 hf hl) q1 q3
    (g := mkF m pc Ls (argsL.reverse ++ .ref b :: rest)) rfl hsz (Steps.refl _) (argsL := argsL) (rest := rest) (lenOf hpd hll) rfl (by show 2 * 0 + _ ≤ _; rw [Nat.mul_zero, Nat.zero_add]; exact hW) hd (fun _ _ => ⟨rfl, eT, hc, hs⟩)
  dsimp only [Pt.U, Pt.locs, Pt.cells, Pt.slots] at X' l1 y1 z1 st hQ
  subst l1 y1 z1
  exact ⟨v, T', L, X', hQ, fun t k => st.trans k⟩
theorem own_callS (X : Stand p l e R s m args below meth c T locs cells slots) (hx : p.tables.exec = Jvm.exec) (hZ : Z.Warmed39 s.vm) (hown : s.vm.findClass own = some m.cls) (w1 : (Cond.methodLink own index y).before a0 Z = true) (w2 : (Cond.static y).before a0 Z = true)
    (w5 : (Cond.code y bytes maxL ret).before a0 Z = true) (w6 : (Cond.initialized y.cls).before a0 Z = true) (hy : y.cls ≠ "java/lang/invoke/MethodHandle" ∧ y.cls ≠ "java/lang/invoke/VarHandle")
    (eT : T.heap = h) {argsL rest : List Value} (ct : own_Ct l Z y bytes maxL ret rm argsL.toArray h Q) (hf : rm.frames + 1 ≤ R.frames) {W : Nat} (hl : W + (maxL + 11) + rm.locals ≤ R.locals) (hc : cells + rm.cells ≤ R.cells) (hs : slots + rm.slots ≤ R.slots)
    {ps : List FieldType} {r : Option FieldType} (hpd : parseMethodDescriptor y.desc = some ⟨ps, r⟩) (hll : argsL.length = ps.length) {pc : Nat} {Ls : Array Slot} (hsz : Ls.size = c.maxLocals) (hW : (rest.map fun v => v.category).sum ≤ W) (hd : decode c.code pc = .ok (.invokestatic index, 3)) :
    ∃ v T' L, Stand p l e R s m args below meth c T' (locs ++ L) (cells + rm.cells) (slots + rm.slots) ∧ Q v T'.heap L ∧ ∀ t, Steps p.tables e below (T'.setTop (mkF m (pc + 3) Ls (v.toList ++ rest))) t → Steps p.tables e below (T.setTop (mkF m pc Ls (argsL.reverse ++ rest))) t := by
  obtain ⟨v, _, ⟨T', L', k', n'⟩, -, X', ⟨L, hQ, l1, y1, z1⟩, st⟩ := Jvm.LawKit.callS X hx (y := y) hown (mvT hZ w1) (mvT hZ w2) (mvT hZ w6) (mvT hZ w5) hy (backOf (W := W) (ct []) hZ w5 w6 hf hl)
    (g := mkF m pc Ls (argsL.reverse ++ rest)) rfl hsz (argsL := argsL) (rest := rest) (lenOf hpd hll) rfl (by show 2 * 0 + _ ≤ _; rw [Nat.mul_zero, Nat.zero_add]; exact hW) hd (fun _ _ => ⟨rfl, eT, hc, hs⟩)
  dsimp only [Pt.U, Pt.locs, Pt.cells, Pt.slots] at X' l1 y1 z1 st hQ
  subst l1 y1 z1
  exact ⟨v, T', L, X', hQ, fun t k => st t k⟩
theorem own_callN (X : Stand p l e R s m args below meth c T locs cells slots) (hx : p.tables.exec = Jvm.exec) (hZ : Z.Warmed39 s.vm) (hown : s.vm.findClass own = some m.cls) (hn : y.name = "<init>") (w1 : (Cond.methodLink own index y).before a0 Z = true) (w2 : (Cond.instanceMethod y).before a0 Z = true)
    (w5 : (Cond.code y bytes maxL none).before a0 Z = true) (w6 : (Cond.initialized y.cls).before a0 Z = true) (hy : y.cls ≠ "java/lang/invoke/MethodHandle" ∧ y.cls ≠ "java/lang/invoke/VarHandle")
    (eT : T.heap = h) {b : Addr} {argsL rest : List Value} (ct : own_Ct l Z y bytes maxL none rm (.ref b :: argsL).toArray h Q) (hf : rm.frames + 1 ≤ R.frames) {W : Nat} (hl : W + (maxL + 11) + rm.locals ≤ R.locals) (hc : cells + rm.cells ≤ R.cells) (hs : slots + rm.slots ≤ R.slots)
    {ps : List FieldType} {r : Option FieldType} (hpd : parseMethodDescriptor y.desc = some ⟨ps, r⟩) (hll : argsL.length = ps.length) {pc : Nat} {Ls : Array Slot} (hsz : Ls.size = c.maxLocals) (hW : (rest.map fun v => v.category).sum ≤ W) (hd : decode c.code pc = .ok (.invokespecial index, 3)) :
    ∃ v T' L, Stand p l e R s m args below meth c T' (locs ++ L) (cells + rm.cells) (slots + rm.slots) ∧ Q v T'.heap L ∧ ∀ t, Steps p.tables e below (T'.setTop (mkF m (pc + 3) Ls (v.toList ++ rest))) t → Steps p.tables e below (T.setTop (mkF m pc Ls (argsL.reverse ++ .ref b :: rest))) t := by
  obtain ⟨v, _, ⟨T', L', k', n'⟩, -, X', ⟨L, hQ, l1, y1, z1⟩, st⟩ := X.specialBack hx (y := y) hn hown (mvT hZ w1) (mvT hZ w2) (mvT hZ w5) hy (backOf (W := W) (ct []) hZ w5 w6 hf hl)
    (g := mkF m pc Ls (argsL.reverse ++ .ref b :: rest)) rfl hsz (Steps.refl _) (a := b) (argsL := argsL) (rest := rest) (lenOf hpd hll) rfl (by show 2 * 0 + _ ≤ _; rw [Nat.mul_zero, Nat.zero_add]; exact hW) hd (fun _ _ => ⟨rfl, eT, hc, hs⟩)
  dsimp only [Pt.U, Pt.locs, Pt.cells, Pt.slots] at X' l1 y1 z1 st hQ
  subst l1 y1 z1
  exact ⟨v, T', L, X', hQ, fun t k => st.trans k⟩
theorem own_staK {h' : Heap} {ws : List Addr} {n d : String} {v : Value} (F : Sta Z h C n d v) (K : Keep h h' ws) (hws : ∀ x ∈ ws, ∀ cl : Cell, h[x]? = some cl → cl.vm.isStatics = false) : Sta Z h' C n d v := by
  obtain ⟨cf, i, k, f, st, cell, h1, h2, h3, h4, h5, h6, h7⟩ := F
  refine ⟨cf, i, k, f, st, cell, h1, h2, h3, h4, K.2.1 st cell h5 (fun q => ?_), h6, h7⟩
  rw [hws st q cell h5] at h6; cases h6
theorem own_exaS {a : Addr} (E : Exa Z h a C) : ∀ cl : Cell, h[a]? = some cl → cl.vm.isStatics = false := by
  obtain ⟨cell, k, h1, -, -, h4, -⟩ := E
  intro cl q
  cases h1.symm.trans q
  exact h4
theorem own_len {t : Term} {n : Int32} {cl : Cell} {a : Addr} (hl : (Term.length t).eval args Z none [] Z = some (.int n)) (et : t.eval args Z none [] Z = some (.ref a)) (ea : Z.arrayAt? a = some cl) : cl.slots.size < 2 ^ 31 ∧ cl.slots.size.toInt32 = n := by
  simp only [Term.eval, Option.bind_eq_bind, et, Option.bind_some, ea] at hl
  by_cases q : cl.slots.size < 2 ^ 31
  · simp [q] at hl; exact ⟨q, hl⟩
  · simp [q] at hl
theorem own_subE {i j : Term} {x w : Int32} {idx : List Nat} (hi : i.eval args Z none idx Z = some (.int x)) (hj : j.eval args Z none idx Z = some (.int w)) : (Term.sub i j).eval args Z none idx Z = some (.int (x - w)) := by simp [Term.eval, hi, hj]
end OwnLayer
theorem d1_0 : decode prog_39_method_1_code 0 = .ok (.aload_n 0, 1) := by decide +kernel
theorem d1_1 : decode prog_39_method_1_code 1 = .ok (.invokespecial 3, 3) := by decide +kernel
theorem d1_4 : decode prog_39_method_1_code 4 = .ok (.aload_n 0, 1) := by decide +kernel
theorem d1_5 : decode prog_39_method_1_code 5 = .ok (.iconst 1, 1) := by decide +kernel
theorem d1_6 : decode prog_39_method_1_code 6 = .ok (.anewarray 9, 3) := by decide +kernel
theorem d1_9 : decode prog_39_method_1_code 9 = .ok (.dup, 1) := by decide +kernel
theorem d1_10 : decode prog_39_method_1_code 10 = .ok (.iconst 0, 1) := by decide +kernel
theorem d1_11 : decode prog_39_method_1_code 11 = .ok (.bipush 64, 2) := by decide +kernel
theorem d1_13 : decode prog_39_method_1_code 13 = .ok (.newarray .int, 2) := by decide +kernel
theorem d1_15 : decode prog_39_method_1_code 15 = .ok (.aastore, 1) := by decide +kernel
theorem d1_16 : decode prog_39_method_1_code 16 = .ok (.putfield 11, 3) := by decide +kernel
theorem d1_19 : decode prog_39_method_1_code 19 = .ok (.return_, 1) := by decide +kernel
theorem pn_1 : plainFor (⟨"com/example/amberroot/amberroot/IntStack", "<init>", "()V"⟩ : MethodName) = true := by first | exact plainFor_of_name (by first | (simp [plainName, overriddenIn]; done) | decide +kernel) | decide +kernel
theorem pd_1 : parseMethodDescriptor "()V" = some ⟨[], none⟩ := by decide +kernel
theorem d3_0 : decode prog_39_method_4_code 0 = .ok (.aload_n 0, 1) := by decide +kernel
theorem d3_1 : decode prog_39_method_4_code 1 = .ok (.getfield 15, 3) := by decide +kernel
theorem d3_4 : decode prog_39_method_4_code 4 = .ok (.bipush 14, 2) := by decide +kernel
theorem d3_6 : decode prog_39_method_4_code 6 = .ok (.iushr, 1) := by decide +kernel
theorem d3_7 : decode prog_39_method_4_code 7 = .ok (.istore_n 2, 1) := by decide +kernel
theorem d3_8 : decode prog_39_method_4_code 8 = .ok (.aload_n 0, 1) := by decide +kernel
theorem d3_9 : decode prog_39_method_4_code 9 = .ok (.getfield 15, 3) := by decide +kernel
theorem d3_12 : decode prog_39_method_4_code 12 = .ok (.sipush 16383, 3) := by decide +kernel
theorem d3_15 : decode prog_39_method_4_code 15 = .ok (.iand, 1) := by decide +kernel
theorem d3_16 : decode prog_39_method_4_code 16 = .ok (.istore_n 3, 1) := by decide +kernel
theorem d3_17 : decode prog_39_method_4_code 17 = .ok (.iload_n 2, 1) := by decide +kernel
theorem d3_18 : decode prog_39_method_4_code 18 = .ok (.aload_n 0, 1) := by decide +kernel
theorem d3_19 : decode prog_39_method_4_code 19 = .ok (.getfield 11, 3) := by decide +kernel
theorem d3_22 : decode prog_39_method_4_code 22 = .ok (.arraylength, 1) := by decide +kernel
theorem d3_23 : decode prog_39_method_4_code 23 = .ok (.if_icmp .ne 20, 3) := by decide +kernel
theorem d3_26 : decode prog_39_method_4_code 26 = .ok (.aload_n 0, 1) := by decide +kernel
theorem d3_27 : decode prog_39_method_4_code 27 = .ok (.aload_n 0, 1) := by decide +kernel
theorem d3_28 : decode prog_39_method_4_code 28 = .ok (.getfield 11, 3) := by decide +kernel
theorem d3_31 : decode prog_39_method_4_code 31 = .ok (.iconst 2, 1) := by decide +kernel
theorem d3_32 : decode prog_39_method_4_code 32 = .ok (.iload_n 2, 1) := by decide +kernel
theorem d3_33 : decode prog_39_method_4_code 33 = .ok (.imul, 1) := by decide +kernel
theorem d3_34 : decode prog_39_method_4_code 34 = .ok (.invokestatic 19, 3) := by decide +kernel
theorem d3_37 : decode prog_39_method_4_code 37 = .ok (.checkcast 25, 3) := by decide +kernel
theorem d3_40 : decode prog_39_method_4_code 40 = .ok (.putfield 11, 3) := by decide +kernel
theorem d3_43 : decode prog_39_method_4_code 43 = .ok (.aload_n 0, 1) := by decide +kernel
theorem d3_44 : decode prog_39_method_4_code 44 = .ok (.getfield 11, 3) := by decide +kernel
theorem d3_47 : decode prog_39_method_4_code 47 = .ok (.iload_n 2, 1) := by decide +kernel
theorem d3_48 : decode prog_39_method_4_code 48 = .ok (.aaload, 1) := by decide +kernel
theorem d3_49 : decode prog_39_method_4_code 49 = .ok (.ifnonnull 17, 3) := by decide +kernel
theorem d3_52 : decode prog_39_method_4_code 52 = .ok (.aload_n 0, 1) := by decide +kernel
theorem d3_53 : decode prog_39_method_4_code 53 = .ok (.getfield 11, 3) := by decide +kernel
theorem d3_56 : decode prog_39_method_4_code 56 = .ok (.iload_n 2, 1) := by decide +kernel
theorem d3_57 : decode prog_39_method_4_code 57 = .ok (.sipush 16384, 3) := by decide +kernel
theorem d3_60 : decode prog_39_method_4_code 60 = .ok (.newarray .int, 2) := by decide +kernel
theorem d3_62 : decode prog_39_method_4_code 62 = .ok (.aastore, 1) := by decide +kernel
theorem d3_63 : decode prog_39_method_4_code 63 = .ok (.goto 32, 3) := by decide +kernel
theorem d3_66 : decode prog_39_method_4_code 66 = .ok (.iload_n 3, 1) := by decide +kernel
theorem d3_67 : decode prog_39_method_4_code 67 = .ok (.aload_n 0, 1) := by decide +kernel
theorem d3_68 : decode prog_39_method_4_code 68 = .ok (.getfield 11, 3) := by decide +kernel
theorem d3_71 : decode prog_39_method_4_code 71 = .ok (.iload_n 2, 1) := by decide +kernel
theorem d3_72 : decode prog_39_method_4_code 72 = .ok (.aaload, 1) := by decide +kernel
theorem d3_73 : decode prog_39_method_4_code 73 = .ok (.arraylength, 1) := by decide +kernel
theorem d3_74 : decode prog_39_method_4_code 74 = .ok (.if_icmp .ne 21, 3) := by decide +kernel
theorem d3_77 : decode prog_39_method_4_code 77 = .ok (.aload_n 0, 1) := by decide +kernel
theorem d3_78 : decode prog_39_method_4_code 78 = .ok (.getfield 11, 3) := by decide +kernel
theorem d3_81 : decode prog_39_method_4_code 81 = .ok (.iload_n 2, 1) := by decide +kernel
theorem d3_82 : decode prog_39_method_4_code 82 = .ok (.aload_n 0, 1) := by decide +kernel
theorem d3_83 : decode prog_39_method_4_code 83 = .ok (.getfield 11, 3) := by decide +kernel
theorem d3_86 : decode prog_39_method_4_code 86 = .ok (.iload_n 2, 1) := by decide +kernel
theorem d3_87 : decode prog_39_method_4_code 87 = .ok (.aaload, 1) := by decide +kernel
theorem d3_88 : decode prog_39_method_4_code 88 = .ok (.iconst 2, 1) := by decide +kernel
theorem d3_89 : decode prog_39_method_4_code 89 = .ok (.iload_n 3, 1) := by decide +kernel
theorem d3_90 : decode prog_39_method_4_code 90 = .ok (.imul, 1) := by decide +kernel
theorem d3_91 : decode prog_39_method_4_code 91 = .ok (.invokestatic 26, 3) := by decide +kernel
theorem d3_94 : decode prog_39_method_4_code 94 = .ok (.aastore, 1) := by decide +kernel
theorem d3_95 : decode prog_39_method_4_code 95 = .ok (.aload_n 0, 1) := by decide +kernel
theorem d3_96 : decode prog_39_method_4_code 96 = .ok (.getfield 11, 3) := by decide +kernel
theorem d3_99 : decode prog_39_method_4_code 99 = .ok (.iload_n 2, 1) := by decide +kernel
theorem d3_100 : decode prog_39_method_4_code 100 = .ok (.aaload, 1) := by decide +kernel
theorem d3_101 : decode prog_39_method_4_code 101 = .ok (.iload_n 3, 1) := by decide +kernel
theorem d3_102 : decode prog_39_method_4_code 102 = .ok (.iload_n 1, 1) := by decide +kernel
theorem d3_103 : decode prog_39_method_4_code 103 = .ok (.iastore, 1) := by decide +kernel
theorem d3_104 : decode prog_39_method_4_code 104 = .ok (.aload_n 0, 1) := by decide +kernel
theorem d3_105 : decode prog_39_method_4_code 105 = .ok (.dup, 1) := by decide +kernel
theorem d3_106 : decode prog_39_method_4_code 106 = .ok (.getfield 15, 3) := by decide +kernel
theorem d3_109 : decode prog_39_method_4_code 109 = .ok (.iconst 1, 1) := by decide +kernel
theorem d3_110 : decode prog_39_method_4_code 110 = .ok (.iadd, 1) := by decide +kernel
theorem d3_111 : decode prog_39_method_4_code 111 = .ok (.putfield 15, 3) := by decide +kernel
theorem d3_114 : decode prog_39_method_4_code 114 = .ok (.return_, 1) := by decide +kernel
theorem pn_3 : plainFor (⟨"com/example/amberroot/amberroot/IntStack", "push", "(I)V"⟩ : MethodName) = true := by first | exact plainFor_of_name (by first | (simp [plainName, overriddenIn]; done) | decide +kernel) | decide +kernel
theorem pd_3 : parseMethodDescriptor "(I)V" = some ⟨[.int], none⟩ := by decide +kernel
theorem d4_0 : decode prog_39_method_5_code 0 = .ok (.aload_n 0, 1) := by decide +kernel
theorem d4_1 : decode prog_39_method_5_code 1 = .ok (.dup, 1) := by decide +kernel
theorem d4_2 : decode prog_39_method_5_code 2 = .ok (.getfield 15, 3) := by decide +kernel
theorem d4_5 : decode prog_39_method_5_code 5 = .ok (.iconst 1, 1) := by decide +kernel
theorem d4_6 : decode prog_39_method_5_code 6 = .ok (.isub, 1) := by decide +kernel
theorem d4_7 : decode prog_39_method_5_code 7 = .ok (.putfield 15, 3) := by decide +kernel
theorem d4_10 : decode prog_39_method_5_code 10 = .ok (.aload_n 0, 1) := by decide +kernel
theorem d4_11 : decode prog_39_method_5_code 11 = .ok (.getfield 11, 3) := by decide +kernel
theorem d4_14 : decode prog_39_method_5_code 14 = .ok (.aload_n 0, 1) := by decide +kernel
theorem d4_15 : decode prog_39_method_5_code 15 = .ok (.getfield 15, 3) := by decide +kernel
theorem d4_18 : decode prog_39_method_5_code 18 = .ok (.bipush 14, 2) := by decide +kernel
theorem d4_20 : decode prog_39_method_5_code 20 = .ok (.iushr, 1) := by decide +kernel
theorem d4_21 : decode prog_39_method_5_code 21 = .ok (.aaload, 1) := by decide +kernel
theorem d4_22 : decode prog_39_method_5_code 22 = .ok (.aload_n 0, 1) := by decide +kernel
theorem d4_23 : decode prog_39_method_5_code 23 = .ok (.getfield 15, 3) := by decide +kernel
theorem d4_26 : decode prog_39_method_5_code 26 = .ok (.sipush 16383, 3) := by decide +kernel
theorem d4_29 : decode prog_39_method_5_code 29 = .ok (.iand, 1) := by decide +kernel
theorem d4_30 : decode prog_39_method_5_code 30 = .ok (.iaload, 1) := by decide +kernel
theorem d4_31 : decode prog_39_method_5_code 31 = .ok (.ireturn, 1) := by decide +kernel
theorem pn_4 : plainFor (⟨"com/example/amberroot/amberroot/IntStack", "pop", "()I"⟩ : MethodName) = true := by first | exact plainFor_of_name (by first | (simp [plainName, overriddenIn]; done) | decide +kernel) | decide +kernel
theorem pd_4 : parseMethodDescriptor "()I" = some ⟨[], some .int⟩ := by decide +kernel
theorem d5_0 : decode prog_39_method_2_code 0 = .ok (.aload_n 0, 1) := by decide +kernel
theorem d5_1 : decode prog_39_method_2_code 1 = .ok (.getfield 15, 3) := by decide +kernel
theorem d5_4 : decode prog_39_method_2_code 4 = .ok (.ireturn, 1) := by decide +kernel
theorem pn_5 : plainFor (⟨"com/example/amberroot/amberroot/IntStack", "size", "()I"⟩ : MethodName) = true := by first | exact plainFor_of_name (by first | (simp [plainName, overriddenIn]; done) | decide +kernel) | decide +kernel
theorem pd_5 : parseMethodDescriptor "()I" = some ⟨[], some .int⟩ := by decide +kernel
theorem d6_0 : decode prog_39_method_3_code 0 = .ok (.aload_n 0, 1) := by decide +kernel
theorem d6_1 : decode prog_39_method_3_code 1 = .ok (.getfield 15, 3) := by decide +kernel
theorem d6_4 : decode prog_39_method_3_code 4 = .ok (.ifCond .ne 7, 3) := by decide +kernel
theorem d6_7 : decode prog_39_method_3_code 7 = .ok (.iconst 1, 1) := by decide +kernel
theorem d6_8 : decode prog_39_method_3_code 8 = .ok (.goto 4, 3) := by decide +kernel
theorem d6_11 : decode prog_39_method_3_code 11 = .ok (.iconst 0, 1) := by decide +kernel
theorem d6_12 : decode prog_39_method_3_code 12 = .ok (.ireturn, 1) := by decide +kernel
theorem pn_6 : plainFor (⟨"com/example/amberroot/amberroot/IntStack", "isEmpty", "()Z"⟩ : MethodName) = true := by first | exact plainFor_of_name (by first | (simp [plainName, overriddenIn]; done) | decide +kernel) | decide +kernel
theorem pd_6 : parseMethodDescriptor "()Z" = some ⟨[], some .boolean⟩ := by decide +kernel
theorem pn_0 : plainFor (⟨"com/example/amberroot/amberroot/IntStackPopPinLaw", "law", "(IIII)Z"⟩ : MethodName) = true := by first | exact plainFor_of_name (by first | (simp [plainName, overriddenIn]; done) | decide +kernel) | decide +kernel
theorem pd_0 : parseMethodDescriptor "(IIII)Z" = some ⟨[.int, .int, .int, .int], some .boolean⟩ := by decide +kernel
def own_St (Z : State) (h : Heap) (a pg bk : Addr) (kp kb : ClassId) (n u0 u1 u2 : Int32) : Prop := Exa Z h a "com/example/amberroot/amberroot/IntStack" ∧ Fld Z h a "com/example/amberroot/amberroot/IntStack" "pages" "[[I" (.ref pg) ∧ Fld Z h a "com/example/amberroot/amberroot/IntStack" "size" "I" (.int n) ∧ Arv Z h pg kp (.array .int) (1 : Int32) [.ref bk] .null ∧ Arv Z h bk kb .int (64 : Int32) [.int u0, .int u1, .int u2] (.int (0 : Int32))
def own_Ne (n0 : Nat) (a pg bk : Addr) : Prop := n0 ≤ a ∧ n0 ≤ bk ∧ a ≠ pg ∧ a ≠ bk ∧ pg ≠ bk
def QI (Z : State) (a : Addr) (h0 : Heap) (n0 : Nat) (v : Option Value) (h : Heap) (L : List Loc) : Prop := ∃ (pg bk : Addr) (kp kb : ClassId), v = none ∧ Fr n0 L ∧ own_St Z h a pg bk kp kb 0 0 0 0 ∧ own_Ne n0 a pg bk ∧ n0 ≤ h.size
set_option maxRecDepth 65536 in
set_option maxHeartbeats 40000000 in
theorem rmI (l : Launch) (Z : State) (a0 : Array Value) (hw : ∀ d ∈ tables_1, d.before a0 Z = true) (a : Addr) (h0 : Heap) (n0 : Nat) (Z0 : n0 ≤ h0.size) (g : n0 ≤ a) (E : Exa Z h0 a "com/example/amberroot/amberroot/IntStack") (Fp : Fld Z h0 a "com/example/amberroot/amberroot/IntStack" "pages" "[[I" .null) (Fs : Fld Z h0 a "com/example/amberroot/amberroot/IntStack" "size" "I" (.int (0 : Int32))) :
    own_Ct l Z (⟨"com/example/amberroot/amberroot/IntStack", "<init>", "()V"⟩ : MethodName) prog_39_method_1_code 1 none ({ frames := 1, cells := 2, slots := 65, locals := 12 } : Room) #[(.ref a)] h0 (QI Z a h0 n0) := by
  refine own_body pn_1 ?_
  intro p e s m below meth cd s₁ hx hZ hby hml hown hnm hret hk X0 e0
  have N0 := Fr.nil n0
  refine own_to (s₁.setTop (mkF m 0 #[.val (.ref a)] [])) (fun t k => castTop (by first | (simp [entryFrame, mkF, argsToLocals, Value.category]; done) | rfl) k) ?_
  refine own_to (s₁.setTop (mkF m 1 #[.val (.ref a)] [(.ref a)])) (fun t k => XS.aloadN X0.here hx rfl (hb hby d1_0) rfl rfl k) ?_
  obtain ⟨T11, X11, e11, st11⟩ := initO X0 hx hZ hown (hw _ (List.mem_of_getElem? (i := 6) rfl)) (hw _ (List.mem_of_getElem? (i := 7) rfl)) (hw _ (List.mem_of_getElem? (i := 8) rfl)) e0 (g := (mkF m 1 #[.val (.ref a)] [(.ref a)])) rfl (by rw [hml]; rfl) rfl (hb hby d1_1) (by decide) (W := 0) (by show 2 * 0 + _ ≤ _; exact Nat.le_of_eq rfl) (by decide)
  refine own_to (T11.setTop (mkF m 4 #[.val (.ref a)] [])) (fun t k => st11 t k) ?_
  refine own_to (T11.setTop (mkF m 5 #[.val (.ref a)] [(.ref a)])) (fun t k => XS.aloadN X11.here hx rfl (hb hby d1_4) rfl rfl k) ?_
  refine own_to (T11.setTop (mkF m 6 #[.val (.ref a)] [(.int (1 : Int32)), (.ref a)])) (fun t k => XT.iconstV X11.here hx rfl (1 : Int32) (hb hby d1_5) (by decide) k) ?_
  obtain ⟨T12, h12, k12, X12, e12, E12, A12, B12, O12, st12⟩ := newRA X11 hx hZ (ty := .int) hown (by decide) (hw _ (List.mem_of_getElem? (i := 9) rfl)) (hw _ (List.mem_of_getElem? (i := 10) rfl)) e11 (g := (mkF m 6 #[.val (.ref a)] [(.int (1 : Int32)), (.ref a)])) rfl (hb hby d1_6) rfl (by decide) (cap := 1) (by decide) (by decide) (by decide) (by decide) (ad := "[[I") (by decide)
  obtain ⟨a12, g12⟩ : ∃ z, z = h0.size := ⟨_, rfl⟩
  rw [← g12] at A12 B12 st12
  have ne_a_a12 : a ≠ a12 := Nat.ne_of_lt (g12 ▸ E.lt)
  have Z12 : n0 ≤ h12.size := Nat.le_trans Z0 E12.1
  have ge12 : n0 ≤ a12 := Nat.le_trans Z0 (Nat.le_of_eq g12.symm)
  have F13 := E.ext E12
  have F14 := Fp.ext E12
  have F15 := Fs.ext E12
  have V16 : Arv Z h12 a12 k12 (.array .int) (1 : Int32) [.null] .null := (Arv.new A12 (by decide)).pad (pad_rep [] _ 1)
  refine own_to (T12.setTop (mkF m 9 #[.val (.ref a)] [(.ref a12), (.ref a)])) (fun t k => st12 t k) ?_
  refine own_to (T12.setTop (mkF m 10 #[.val (.ref a)] [(.ref a12), (.ref a12), (.ref a)])) (fun t k => XS.dup X12.here hx rfl (hb hby d1_9) rfl rfl k) ?_
  refine own_to (T12.setTop (mkF m 11 #[.val (.ref a)] [(.int (0 : Int32)), (.ref a12), (.ref a12), (.ref a)])) (fun t k => XT.iconstV X12.here hx rfl (0 : Int32) (hb hby d1_10) (by decide) k) ?_
  refine own_to (T12.setTop (mkF m 13 #[.val (.ref a)] [(.int (64 : Int32)), (.int (0 : Int32)), (.ref a12), (.ref a12), (.ref a)])) (fun t k => XT.bipushV X12.here hx rfl (64 : Int32) (hb hby d1_11) (by decide) k) ?_
  obtain ⟨T17, h17, k17, X17, e17, E17, A17, B17, st17⟩ := newPE X12 hx hZ (hw _ (List.mem_of_getElem? (i := 11) rfl)) e12 (g := (mkF m 13 #[.val (.ref a)] [(.int (64 : Int32)), (.int (0 : Int32)), (.ref a12), (.ref a12), (.ref a)])) rfl (hb hby d1_13) rfl (by decide) (cap := 64) (by decide) (by decide) (by decide) (by decide) (ad := "[I") (by decide)
  obtain ⟨a17, g17⟩ : ∃ z, z = h12.size := ⟨_, rfl⟩
  rw [← g17] at A17 B17 st17
  have ne_a_a17 : a ≠ a17 := Nat.ne_of_lt (g17 ▸ F13.lt)
  have ne_a12_a17 : a12 ≠ a17 := Nat.ne_of_lt (g17 ▸ B12.lt)
  have Z17 : n0 ≤ h17.size := Nat.le_trans Z12 E17.1
  have ge17 : n0 ≤ a17 := Nat.le_trans Z12 (Nat.le_of_eq g17.symm)
  have F18 := F13.ext E17
  have F19 := F14.ext E17
  have F20 := F15.ext E17
  have F21 := B12.ext E17
  have F22 := V16.ext E17
  have V23 : Arv Z h17 a17 k17 .int (64 : Int32) [(.int (0 : Int32)), (.int (0 : Int32)), (.int (0 : Int32))] (.int (0 : Int32)) := (Arv.new A17 (by decide)).pad (pad_rep [] _ 3)
  refine own_to (T17.setTop (mkF m 15 #[.val (.ref a)] [(.ref a17), (.int (0 : Int32)), (.ref a12), (.ref a12), (.ref a)])) (fun t k => st17 t k) ?_
  obtain ⟨c24, r24, q24, z24, p24, j24, f24⟩ := id F22
  have u24 := inb_of z24 (j := (0 : Int32)) ⟨by decide, by decide⟩
  obtain ⟨T24, h24, X24, e24, W24, st24⟩ := stR X17 hx hZ e17 r24 u24 rfl (Sto.ofVA r24 q24 O12 (Ins.self B17)) (g := (mkF m 15 #[.val (.ref a)] [(.ref a17), (.int (0 : Int32)), (.ref a12), (.ref a12), (.ref a)])) rfl rfl (hb hby d1_15)
  have N24 := Fr.snoc X24 N0 ge12
  have F25 := F18.wr W24
  have F26 := F19.other W24 (Or.inl ne_a_a12)
  have F27 := F20.other W24 (Or.inl ne_a_a12)
  have F28 := F21.wr W24
  have F29 := B17.wr W24
  have F30 := V23.other W24 (Ne.symm ne_a12_a17)
  have V31 : Arv Z h24 a12 k12 (.array .int) (1 : Int32) [(.ref a17)] .null := Arv.set r24 q24 z24 p24 j24 f24 rfl W24 0 rfl (Nat.le_of_ble_eq_true rfl)
  have Z32 : n0 ≤ h24.size := by rw [W24.size]; exact Z17
  refine own_to (T24.setTop (mkF m 16 #[.val (.ref a)] [(.ref a12), (.ref a)])) (fun t k => st24 t k) ?_
  obtain ⟨T33, h33, X33, e33, W33, st33⟩ := putF X24 hx hZ hown (host := "") (Or.inl (hw _ (List.mem_of_getElem? (i := 13) rfl))) Via.refl e24 F26 F25 (Or.inl (hw _ (List.mem_of_getElem? (i := 14) rfl))) (hw _ (List.mem_of_getElem? (i := 1) rfl)) (ty := (.array (.array .int))) (by rfl) rfl rfl (g := (mkF m 16 #[.val (.ref a)] [(.ref a12), (.ref a)])) rfl rfl (hb hby d1_16)
  have N33 := Fr.snoc X33 N24 g
  have F34 := F25.wr W33
  have F35 := F26.same W33
  have F36 := F27.other W33 (Or.inr (slot_ne (Or.inl (hw _ (List.mem_of_getElem? (i := 21) rfl))) (Or.inl (hw _ (List.mem_of_getElem? (i := 14) rfl))) (by decide) (by rfl) (by rfl)))
  have F37 := F28.wr W33
  have F38 := F29.wr W33
  have F39 := F30.other W33 (Ne.symm ne_a_a17)
  have F40 := V31.other W33 (Ne.symm ne_a_a12)
  have Z41 : n0 ≤ h33.size := by rw [W33.size]; exact Z32
  refine own_to (T33.setTop (mkF m 19 #[.val (.ref a)] [])) (fun t k => st33 t k) ?_
  exact own_retV X33 hx hret hk (hb hby d1_19) (by decide) (by decide) ⟨a12, a17, _, _, rfl, N33, ⟨(by rw [e33]; exact F34), (by rw [e33]; exact F35), (by rw [e33]; exact F36), (by rw [e33]; exact F40), (by rw [e33]; exact F39)⟩, ⟨g, ge17, ne_a_a12, ne_a_a17, ne_a12_a17⟩, by rw [e33]; exact Nat.le_trans g (Nat.le_of_lt F34.lt)⟩
def QP0 (Z : State) (a pg bk : Addr) (kp kb : ClassId) (u0 u1 u2 x : Int32) (h0 : Heap) (n0 : Nat) (v : Option Value) (h : Heap) (L : List Loc) : Prop := v = none ∧ Fr n0 L ∧ own_St Z h a pg bk kp kb 1 x u1 u2 ∧ n0 ≤ h.size
set_option maxRecDepth 65536 in
set_option maxHeartbeats 40000000 in
theorem rmP0 (l : Launch) (Z : State) (a0 : Array Value) (hw : ∀ d ∈ tables_1, d.before a0 Z = true) (a pg bk : Addr) (kp kb : ClassId) (u0 u1 u2 x : Int32) (h0 : Heap) (n0 : Nat) (Z0 : n0 ≤ h0.size) (St : own_St Z h0 a pg bk kp kb 0 u0 u1 u2) (Ne : own_Ne n0 a pg bk) :
    own_Ct l Z (⟨"com/example/amberroot/amberroot/IntStack", "push", "(I)V"⟩ : MethodName) prog_39_method_4_code 4 none ({ frames := 0, cells := 0, slots := 0, locals := 0 } : Room) #[(.ref a), (.int x)] h0 (QP0 Z a pg bk kp kb u0 u1 u2 x h0 n0) := by
  refine own_body pn_3 ?_
  intro p e s m below meth cd s₁ hx hZ hby hml hown hnm hret hk X0 e0
  have N0 := Fr.nil n0
  refine own_to (s₁.setTop (mkF m 0 #[.val (.ref a), .val (.int x), .unset, .unset] [])) (fun t k => castTop (by first | (simp [entryFrame, mkF, argsToLocals, Value.category]; done) | rfl) k) ?_
  obtain ⟨E, Fp, Fs, Vp, Vb⟩ := St
  obtain ⟨ga, gb, nap, nab, npb⟩ := Ne
  refine own_to (s₁.setTop (mkF m 1 #[.val (.ref a), .val (.int x), .unset, .unset] [(.ref a)])) (fun t k => XS.aloadN X0.here hx rfl (hb hby d3_0) rfl rfl k) ?_
  obtain ⟨T11, X11, e11, st11⟩ := getF X0 hx hZ hown (host := "") (Or.inl (hw _ (List.mem_of_getElem? (i := 20) rfl))) Via.refl e0 Fs (g := (mkF m 1 #[.val (.ref a), .val (.int x), .unset, .unset] [(.ref a)])) rfl rfl (hb hby d3_1)
  refine own_to (T11.setTop (mkF m 4 #[.val (.ref a), .val (.int x), .unset, .unset] [(.int (0 : Int32))])) (fun t k => st11 t k) ?_
  refine own_to (T11.setTop (mkF m 6 #[.val (.ref a), .val (.int x), .unset, .unset] [(.int (14 : Int32)), (.int (0 : Int32))])) (fun t k => XT.bipushV X11.here hx rfl (14 : Int32) (hb hby d3_4) (by decide) k) ?_
  refine own_to (T11.setTop (mkF m 7 #[.val (.ref a), .val (.int x), .unset, .unset] [(.int (0 : Int32))])) (fun t k => XT.iushr X11.here hx rfl (hb hby d3_6) rfl (by rw [show (XT.ushr (0 : Int32) (14 : Int32)) = (0 : Int32) from by decide]; exact k)) ?_
  refine own_to (T11.setTop (mkF m 8 #[.val (.ref a), .val (.int x), .val (.int (0 : Int32)), .unset] [])) (fun t k => XS.istoreN X11.here hx rfl (hb hby d3_7) rfl (l' := #[.val (.ref a), .val (.int x), .val (.int (0 : Int32)), .unset]) rfl k) ?_
  refine own_to (T11.setTop (mkF m 9 #[.val (.ref a), .val (.int x), .val (.int (0 : Int32)), .unset] [(.ref a)])) (fun t k => XS.aloadN X11.here hx rfl (hb hby d3_8) rfl rfl k) ?_
  obtain ⟨T12, X12, e12, st12⟩ := getF X11 hx hZ hown (host := "") (Or.inl (hw _ (List.mem_of_getElem? (i := 20) rfl))) Via.refl e11 Fs (g := (mkF m 9 #[.val (.ref a), .val (.int x), .val (.int (0 : Int32)), .unset] [(.ref a)])) rfl rfl (hb hby d3_9)
  refine own_to (T12.setTop (mkF m 12 #[.val (.ref a), .val (.int x), .val (.int (0 : Int32)), .unset] [(.int (0 : Int32))])) (fun t k => st12 t k) ?_
  refine own_to (T12.setTop (mkF m 15 #[.val (.ref a), .val (.int x), .val (.int (0 : Int32)), .unset] [(.int (16383 : Int32)), (.int (0 : Int32))])) (fun t k => XT.sipushV X12.here hx rfl (16383 : Int32) (hb hby d3_12) (by decide) k) ?_
  refine own_to (T12.setTop (mkF m 16 #[.val (.ref a), .val (.int x), .val (.int (0 : Int32)), .unset] [(.int (0 : Int32))])) (fun t k => XS.iand X12.here hx rfl (hb hby d3_15) rfl (by rw [show ((0 : Int32) &&& (16383 : Int32)) = (0 : Int32) from by decide]; exact k)) ?_
  refine own_to (T12.setTop (mkF m 17 #[.val (.ref a), .val (.int x), .val (.int (0 : Int32)), .val (.int (0 : Int32))] [])) (fun t k => XS.istoreN X12.here hx rfl (hb hby d3_16) rfl (l' := #[.val (.ref a), .val (.int x), .val (.int (0 : Int32)), .val (.int (0 : Int32))]) rfl k) ?_
  refine own_to (T12.setTop (mkF m 18 #[.val (.ref a), .val (.int x), .val (.int (0 : Int32)), .val (.int (0 : Int32))] [(.int (0 : Int32))])) (fun t k => XS.iloadN X12.here hx rfl (hb hby d3_17) rfl k) ?_
  refine own_to (T12.setTop (mkF m 19 #[.val (.ref a), .val (.int x), .val (.int (0 : Int32)), .val (.int (0 : Int32))] [(.ref a), (.int (0 : Int32))])) (fun t k => XS.aloadN X12.here hx rfl (hb hby d3_18) rfl rfl k) ?_
  obtain ⟨T13, X13, e13, st13⟩ := getF X12 hx hZ hown (host := "") (Or.inl (hw _ (List.mem_of_getElem? (i := 13) rfl))) Via.refl e12 Fp (g := (mkF m 19 #[.val (.ref a), .val (.int x), .val (.int (0 : Int32)), .val (.int (0 : Int32))] [(.ref a), (.int (0 : Int32))])) rfl rfl (hb hby d3_19)
  refine own_to (T13.setTop (mkF m 22 #[.val (.ref a), .val (.int x), .val (.int (0 : Int32)), .val (.int (0 : Int32))] [(.ref pg), (.int (0 : Int32))])) (fun t k => st13 t k) ?_
  obtain ⟨c14, r14, q14, z14, p14, j14, f14⟩ := id Vp
  refine own_to (T13.setTop (mkF m 23 #[.val (.ref a), .val (.int x), .val (.int (0 : Int32)), .val (.int (0 : Int32))] [(.int (1 : Int32)), (.int (0 : Int32))])) (fun t k => X13.arraylength hx (by rw [e13]; exact r14.1) (State.isArrayOf_alike hZ.alike r14.2.1) (g := (mkF m 22 #[.val (.ref a), .val (.int x), .val (.int (0 : Int32)), .val (.int (0 : Int32))] [(.ref pg), (.int (0 : Int32))])) rfl rfl (hb hby d3_22) t (by rw [len_of z14 p14]; exact k)) ?_
  refine own_to (T13.setTop (mkF m 43 #[.val (.ref a), .val (.int x), .val (.int (0 : Int32)), .val (.int (0 : Int32))] [])) (fun t k => XS.icmpYes X13.here hx rfl (pc0 := 23) (pc' := 43) rfl (hb hby d3_23) rfl (feq (by decide)).2 (by decide) (by decide) k) ?_
  refine own_to (T13.setTop (mkF m 44 #[.val (.ref a), .val (.int x), .val (.int (0 : Int32)), .val (.int (0 : Int32))] [(.ref a)])) (fun t k => XS.aloadN X13.here hx rfl (hb hby d3_43) rfl rfl k) ?_
  obtain ⟨T15, X15, e15, st15⟩ := getF X13 hx hZ hown (host := "") (Or.inl (hw _ (List.mem_of_getElem? (i := 13) rfl))) Via.refl e13 Fp (g := (mkF m 44 #[.val (.ref a), .val (.int x), .val (.int (0 : Int32)), .val (.int (0 : Int32))] [(.ref a)])) rfl rfl (hb hby d3_44)
  refine own_to (T15.setTop (mkF m 47 #[.val (.ref a), .val (.int x), .val (.int (0 : Int32)), .val (.int (0 : Int32))] [(.ref pg)])) (fun t k => st15 t k) ?_
  refine own_to (T15.setTop (mkF m 48 #[.val (.ref a), .val (.int x), .val (.int (0 : Int32)), .val (.int (0 : Int32))] [(.int (0 : Int32)), (.ref pg)])) (fun t k => XS.iloadN X15.here hx rfl (hb hby d3_47) rfl k) ?_
  obtain ⟨c16, r16, q16, z16, p16, j16, f16⟩ := id Vp
  have u16 := inb_of z16 (j := (0 : Int32)) ⟨by decide, by decide⟩
  refine own_to (T15.setTop (mkF m 49 #[.val (.ref a), .val (.int x), .val (.int (0 : Int32)), .val (.int (0 : Int32))] [(.ref bk)])) (fun t k => X15.aaload hx (j := (0 : Int32)) (v := (.ref bk)) (by rw [e15]; exact r16.1) (State.isArrayOf_alike hZ.alike r16.2.1) rfl r16.2.2 u16 (j16.at u16 rfl) (g := (mkF m 48 #[.val (.ref a), .val (.int x), .val (.int (0 : Int32)), .val (.int (0 : Int32))] [(.int (0 : Int32)), (.ref pg)])) rfl rfl (hb hby d3_48) t k) ?_
  refine own_to (T15.setTop (mkF m 66 #[.val (.ref a), .val (.int x), .val (.int (0 : Int32)), .val (.int (0 : Int32))] [])) (fun t k => XT.ifnonnullYes X15.here hx rfl (pc0 := 49) (pc' := 66) rfl (hb hby d3_49) rfl (by decide) (by decide) k) ?_
  refine own_to (T15.setTop (mkF m 67 #[.val (.ref a), .val (.int x), .val (.int (0 : Int32)), .val (.int (0 : Int32))] [(.int (0 : Int32))])) (fun t k => XS.iloadN X15.here hx rfl (hb hby d3_66) rfl k) ?_
  refine own_to (T15.setTop (mkF m 68 #[.val (.ref a), .val (.int x), .val (.int (0 : Int32)), .val (.int (0 : Int32))] [(.ref a), (.int (0 : Int32))])) (fun t k => XS.aloadN X15.here hx rfl (hb hby d3_67) rfl rfl k) ?_
  obtain ⟨T17, X17, e17, st17⟩ := getF X15 hx hZ hown (host := "") (Or.inl (hw _ (List.mem_of_getElem? (i := 13) rfl))) Via.refl e15 Fp (g := (mkF m 68 #[.val (.ref a), .val (.int x), .val (.int (0 : Int32)), .val (.int (0 : Int32))] [(.ref a), (.int (0 : Int32))])) rfl rfl (hb hby d3_68)
  refine own_to (T17.setTop (mkF m 71 #[.val (.ref a), .val (.int x), .val (.int (0 : Int32)), .val (.int (0 : Int32))] [(.ref pg), (.int (0 : Int32))])) (fun t k => st17 t k) ?_
  refine own_to (T17.setTop (mkF m 72 #[.val (.ref a), .val (.int x), .val (.int (0 : Int32)), .val (.int (0 : Int32))] [(.int (0 : Int32)), (.ref pg), (.int (0 : Int32))])) (fun t k => XS.iloadN X17.here hx rfl (hb hby d3_71) rfl k) ?_
  obtain ⟨c18, r18, q18, z18, p18, j18, f18⟩ := id Vp
  have u18 := inb_of z18 (j := (0 : Int32)) ⟨by decide, by decide⟩
  refine own_to (T17.setTop (mkF m 73 #[.val (.ref a), .val (.int x), .val (.int (0 : Int32)), .val (.int (0 : Int32))] [(.ref bk), (.int (0 : Int32))])) (fun t k => X17.aaload hx (j := (0 : Int32)) (v := (.ref bk)) (by rw [e17]; exact r18.1) (State.isArrayOf_alike hZ.alike r18.2.1) rfl r18.2.2 u18 (j18.at u18 rfl) (g := (mkF m 72 #[.val (.ref a), .val (.int x), .val (.int (0 : Int32)), .val (.int (0 : Int32))] [(.int (0 : Int32)), (.ref pg), (.int (0 : Int32))])) rfl rfl (hb hby d3_72) t k) ?_
  obtain ⟨c19, r19, q19, z19, p19, j19, f19⟩ := id Vb
  refine own_to (T17.setTop (mkF m 74 #[.val (.ref a), .val (.int x), .val (.int (0 : Int32)), .val (.int (0 : Int32))] [(.int (64 : Int32)), (.int (0 : Int32))])) (fun t k => X17.arraylength hx (by rw [e17]; exact r19.1) (State.isArrayOf_alike hZ.alike r19.2.1) (g := (mkF m 73 #[.val (.ref a), .val (.int x), .val (.int (0 : Int32)), .val (.int (0 : Int32))] [(.ref bk), (.int (0 : Int32))])) rfl rfl (hb hby d3_73) t (by rw [len_of z19 p19]; exact k)) ?_
  refine own_to (T17.setTop (mkF m 95 #[.val (.ref a), .val (.int x), .val (.int (0 : Int32)), .val (.int (0 : Int32))] [])) (fun t k => XS.icmpYes X17.here hx rfl (pc0 := 74) (pc' := 95) rfl (hb hby d3_74) rfl (feq (by decide)).2 (by decide) (by decide) k) ?_
  refine own_to (T17.setTop (mkF m 96 #[.val (.ref a), .val (.int x), .val (.int (0 : Int32)), .val (.int (0 : Int32))] [(.ref a)])) (fun t k => XS.aloadN X17.here hx rfl (hb hby d3_95) rfl rfl k) ?_
  obtain ⟨T20, X20, e20, st20⟩ := getF X17 hx hZ hown (host := "") (Or.inl (hw _ (List.mem_of_getElem? (i := 13) rfl))) Via.refl e17 Fp (g := (mkF m 96 #[.val (.ref a), .val (.int x), .val (.int (0 : Int32)), .val (.int (0 : Int32))] [(.ref a)])) rfl rfl (hb hby d3_96)
  refine own_to (T20.setTop (mkF m 99 #[.val (.ref a), .val (.int x), .val (.int (0 : Int32)), .val (.int (0 : Int32))] [(.ref pg)])) (fun t k => st20 t k) ?_
  refine own_to (T20.setTop (mkF m 100 #[.val (.ref a), .val (.int x), .val (.int (0 : Int32)), .val (.int (0 : Int32))] [(.int (0 : Int32)), (.ref pg)])) (fun t k => XS.iloadN X20.here hx rfl (hb hby d3_99) rfl k) ?_
  obtain ⟨c21, r21, q21, z21, p21, j21, f21⟩ := id Vp
  have u21 := inb_of z21 (j := (0 : Int32)) ⟨by decide, by decide⟩
  refine own_to (T20.setTop (mkF m 101 #[.val (.ref a), .val (.int x), .val (.int (0 : Int32)), .val (.int (0 : Int32))] [(.ref bk)])) (fun t k => X20.aaload hx (j := (0 : Int32)) (v := (.ref bk)) (by rw [e20]; exact r21.1) (State.isArrayOf_alike hZ.alike r21.2.1) rfl r21.2.2 u21 (j21.at u21 rfl) (g := (mkF m 100 #[.val (.ref a), .val (.int x), .val (.int (0 : Int32)), .val (.int (0 : Int32))] [(.int (0 : Int32)), (.ref pg)])) rfl rfl (hb hby d3_100) t k) ?_
  refine own_to (T20.setTop (mkF m 102 #[.val (.ref a), .val (.int x), .val (.int (0 : Int32)), .val (.int (0 : Int32))] [(.int (0 : Int32)), (.ref bk)])) (fun t k => XS.iloadN X20.here hx rfl (hb hby d3_101) rfl k) ?_
  refine own_to (T20.setTop (mkF m 103 #[.val (.ref a), .val (.int x), .val (.int (0 : Int32)), .val (.int (0 : Int32))] [(.int x), (.int (0 : Int32)), (.ref bk)])) (fun t k => XS.iloadN X20.here hx rfl (hb hby d3_102) rfl k) ?_
  obtain ⟨c22, r22, q22, z22, p22, j22, f22⟩ := id Vb
  have u22 := inb_of z22 (j := (0 : Int32)) ⟨by decide, by decide⟩
  obtain ⟨T22, h22, X22, e22, W22, st22⟩ := stI X20 hx hZ e20 r22 u22 (g := (mkF m 103 #[.val (.ref a), .val (.int x), .val (.int (0 : Int32)), .val (.int (0 : Int32))] [(.int x), (.int (0 : Int32)), (.ref bk)])) rfl rfl (hb hby d3_103)
  have N22 := Fr.snoc X22 N0 gb
  have F23 := E.wr W22
  have F24 := Fp.other W22 (Or.inl nab)
  have F25 := Fs.other W22 (Or.inl nab)
  have F26 := Vp.other W22 npb
  have V27 : Arv Z h22 bk kb .int (64 : Int32) [(.int x), (.int u1), (.int u2)] (.int (0 : Int32)) := Arv.set r22 q22 z22 p22 j22 f22 rfl W22 0 rfl (Nat.le_of_ble_eq_true rfl)
  have Z28 : n0 ≤ h22.size := by rw [W22.size]; exact Z0
  refine own_to (T22.setTop (mkF m 104 #[.val (.ref a), .val (.int x), .val (.int (0 : Int32)), .val (.int (0 : Int32))] [])) (fun t k => st22 t k) ?_
  refine own_to (T22.setTop (mkF m 105 #[.val (.ref a), .val (.int x), .val (.int (0 : Int32)), .val (.int (0 : Int32))] [(.ref a)])) (fun t k => XS.aloadN X22.here hx rfl (hb hby d3_104) rfl rfl k) ?_
  refine own_to (T22.setTop (mkF m 106 #[.val (.ref a), .val (.int x), .val (.int (0 : Int32)), .val (.int (0 : Int32))] [(.ref a), (.ref a)])) (fun t k => XS.dup X22.here hx rfl (hb hby d3_105) rfl rfl k) ?_
  obtain ⟨T29, X29, e29, st29⟩ := getF X22 hx hZ hown (host := "") (Or.inl (hw _ (List.mem_of_getElem? (i := 20) rfl))) Via.refl e22 F25 (g := (mkF m 106 #[.val (.ref a), .val (.int x), .val (.int (0 : Int32)), .val (.int (0 : Int32))] [(.ref a), (.ref a)])) rfl rfl (hb hby d3_106)
  refine own_to (T29.setTop (mkF m 109 #[.val (.ref a), .val (.int x), .val (.int (0 : Int32)), .val (.int (0 : Int32))] [(.int (0 : Int32)), (.ref a)])) (fun t k => st29 t k) ?_
  refine own_to (T29.setTop (mkF m 110 #[.val (.ref a), .val (.int x), .val (.int (0 : Int32)), .val (.int (0 : Int32))] [(.int (1 : Int32)), (.int (0 : Int32)), (.ref a)])) (fun t k => XT.iconstV X29.here hx rfl (1 : Int32) (hb hby d3_109) (by decide) k) ?_
  refine own_to (T29.setTop (mkF m 111 #[.val (.ref a), .val (.int x), .val (.int (0 : Int32)), .val (.int (0 : Int32))] [(.int (1 : Int32)), (.ref a)])) (fun t k => XS.iadd X29.here hx rfl (hb hby d3_110) rfl (by rw [show ((0 : Int32) + (1 : Int32)) = (1 : Int32) from by decide]; exact k)) ?_
  obtain ⟨T30, h30, X30, e30, W30, st30⟩ := putF X29 hx hZ hown (host := "") (Or.inl (hw _ (List.mem_of_getElem? (i := 20) rfl))) Via.refl e29 F25 F23 (Or.inl (hw _ (List.mem_of_getElem? (i := 21) rfl))) (hw _ (List.mem_of_getElem? (i := 1) rfl)) (ty := .int) (by decide) rfl rfl (g := (mkF m 111 #[.val (.ref a), .val (.int x), .val (.int (0 : Int32)), .val (.int (0 : Int32))] [(.int (1 : Int32)), (.ref a)])) rfl rfl (hb hby d3_111)
  have N30 := Fr.snoc X30 N22 ga
  have F31 := F23.wr W30
  have F32 := F24.other W30 (Or.inr (slot_ne (Or.inl (hw _ (List.mem_of_getElem? (i := 14) rfl))) (Or.inl (hw _ (List.mem_of_getElem? (i := 21) rfl))) (by decide) (by rfl) (by rfl)))
  have F33 := F25.same W30
  have F34 := F26.other W30 (Ne.symm nap)
  have F35 := V27.other W30 (Ne.symm nab)
  have Z36 : n0 ≤ h30.size := by rw [W30.size]; exact Z28
  refine own_to (T30.setTop (mkF m 114 #[.val (.ref a), .val (.int x), .val (.int (0 : Int32)), .val (.int (0 : Int32))] [])) (fun t k => st30 t k) ?_
  exact own_retV X30 hx hret hk (hb hby d3_114) (by decide) (by decide) ⟨rfl, N30, ⟨(by rw [e30]; exact F31), (by rw [e30]; exact F32), (by rw [e30]; exact F33), (by rw [e30]; exact F34), (by rw [e30]; exact F35)⟩, by rw [e30]; exact Nat.le_trans ga (Nat.le_of_lt F31.lt)⟩
def QP1 (Z : State) (a pg bk : Addr) (kp kb : ClassId) (u0 u1 u2 x : Int32) (h0 : Heap) (n0 : Nat) (v : Option Value) (h : Heap) (L : List Loc) : Prop := v = none ∧ Fr n0 L ∧ own_St Z h a pg bk kp kb 2 u0 x u2 ∧ n0 ≤ h.size
set_option maxRecDepth 65536 in
set_option maxHeartbeats 40000000 in
theorem rmP1 (l : Launch) (Z : State) (a0 : Array Value) (hw : ∀ d ∈ tables_1, d.before a0 Z = true) (a pg bk : Addr) (kp kb : ClassId) (u0 u1 u2 x : Int32) (h0 : Heap) (n0 : Nat) (Z0 : n0 ≤ h0.size) (St : own_St Z h0 a pg bk kp kb 1 u0 u1 u2) (Ne : own_Ne n0 a pg bk) :
    own_Ct l Z (⟨"com/example/amberroot/amberroot/IntStack", "push", "(I)V"⟩ : MethodName) prog_39_method_4_code 4 none ({ frames := 0, cells := 0, slots := 0, locals := 0 } : Room) #[(.ref a), (.int x)] h0 (QP1 Z a pg bk kp kb u0 u1 u2 x h0 n0) := by
  refine own_body pn_3 ?_
  intro p e s m below meth cd s₁ hx hZ hby hml hown hnm hret hk X0 e0
  have N0 := Fr.nil n0
  refine own_to (s₁.setTop (mkF m 0 #[.val (.ref a), .val (.int x), .unset, .unset] [])) (fun t k => castTop (by first | (simp [entryFrame, mkF, argsToLocals, Value.category]; done) | rfl) k) ?_
  obtain ⟨E, Fp, Fs, Vp, Vb⟩ := St
  obtain ⟨ga, gb, nap, nab, npb⟩ := Ne
  refine own_to (s₁.setTop (mkF m 1 #[.val (.ref a), .val (.int x), .unset, .unset] [(.ref a)])) (fun t k => XS.aloadN X0.here hx rfl (hb hby d3_0) rfl rfl k) ?_
  obtain ⟨T11, X11, e11, st11⟩ := getF X0 hx hZ hown (host := "") (Or.inl (hw _ (List.mem_of_getElem? (i := 20) rfl))) Via.refl e0 Fs (g := (mkF m 1 #[.val (.ref a), .val (.int x), .unset, .unset] [(.ref a)])) rfl rfl (hb hby d3_1)
  refine own_to (T11.setTop (mkF m 4 #[.val (.ref a), .val (.int x), .unset, .unset] [(.int (1 : Int32))])) (fun t k => st11 t k) ?_
  refine own_to (T11.setTop (mkF m 6 #[.val (.ref a), .val (.int x), .unset, .unset] [(.int (14 : Int32)), (.int (1 : Int32))])) (fun t k => XT.bipushV X11.here hx rfl (14 : Int32) (hb hby d3_4) (by decide) k) ?_
  refine own_to (T11.setTop (mkF m 7 #[.val (.ref a), .val (.int x), .unset, .unset] [(.int (0 : Int32))])) (fun t k => XT.iushr X11.here hx rfl (hb hby d3_6) rfl (by rw [show (XT.ushr (1 : Int32) (14 : Int32)) = (0 : Int32) from by decide]; exact k)) ?_
  refine own_to (T11.setTop (mkF m 8 #[.val (.ref a), .val (.int x), .val (.int (0 : Int32)), .unset] [])) (fun t k => XS.istoreN X11.here hx rfl (hb hby d3_7) rfl (l' := #[.val (.ref a), .val (.int x), .val (.int (0 : Int32)), .unset]) rfl k) ?_
  refine own_to (T11.setTop (mkF m 9 #[.val (.ref a), .val (.int x), .val (.int (0 : Int32)), .unset] [(.ref a)])) (fun t k => XS.aloadN X11.here hx rfl (hb hby d3_8) rfl rfl k) ?_
  obtain ⟨T12, X12, e12, st12⟩ := getF X11 hx hZ hown (host := "") (Or.inl (hw _ (List.mem_of_getElem? (i := 20) rfl))) Via.refl e11 Fs (g := (mkF m 9 #[.val (.ref a), .val (.int x), .val (.int (0 : Int32)), .unset] [(.ref a)])) rfl rfl (hb hby d3_9)
  refine own_to (T12.setTop (mkF m 12 #[.val (.ref a), .val (.int x), .val (.int (0 : Int32)), .unset] [(.int (1 : Int32))])) (fun t k => st12 t k) ?_
  refine own_to (T12.setTop (mkF m 15 #[.val (.ref a), .val (.int x), .val (.int (0 : Int32)), .unset] [(.int (16383 : Int32)), (.int (1 : Int32))])) (fun t k => XT.sipushV X12.here hx rfl (16383 : Int32) (hb hby d3_12) (by decide) k) ?_
  refine own_to (T12.setTop (mkF m 16 #[.val (.ref a), .val (.int x), .val (.int (0 : Int32)), .unset] [(.int (1 : Int32))])) (fun t k => XS.iand X12.here hx rfl (hb hby d3_15) rfl (by rw [show ((1 : Int32) &&& (16383 : Int32)) = (1 : Int32) from by decide]; exact k)) ?_
  refine own_to (T12.setTop (mkF m 17 #[.val (.ref a), .val (.int x), .val (.int (0 : Int32)), .val (.int (1 : Int32))] [])) (fun t k => XS.istoreN X12.here hx rfl (hb hby d3_16) rfl (l' := #[.val (.ref a), .val (.int x), .val (.int (0 : Int32)), .val (.int (1 : Int32))]) rfl k) ?_
  refine own_to (T12.setTop (mkF m 18 #[.val (.ref a), .val (.int x), .val (.int (0 : Int32)), .val (.int (1 : Int32))] [(.int (0 : Int32))])) (fun t k => XS.iloadN X12.here hx rfl (hb hby d3_17) rfl k) ?_
  refine own_to (T12.setTop (mkF m 19 #[.val (.ref a), .val (.int x), .val (.int (0 : Int32)), .val (.int (1 : Int32))] [(.ref a), (.int (0 : Int32))])) (fun t k => XS.aloadN X12.here hx rfl (hb hby d3_18) rfl rfl k) ?_
  obtain ⟨T13, X13, e13, st13⟩ := getF X12 hx hZ hown (host := "") (Or.inl (hw _ (List.mem_of_getElem? (i := 13) rfl))) Via.refl e12 Fp (g := (mkF m 19 #[.val (.ref a), .val (.int x), .val (.int (0 : Int32)), .val (.int (1 : Int32))] [(.ref a), (.int (0 : Int32))])) rfl rfl (hb hby d3_19)
  refine own_to (T13.setTop (mkF m 22 #[.val (.ref a), .val (.int x), .val (.int (0 : Int32)), .val (.int (1 : Int32))] [(.ref pg), (.int (0 : Int32))])) (fun t k => st13 t k) ?_
  obtain ⟨c14, r14, q14, z14, p14, j14, f14⟩ := id Vp
  refine own_to (T13.setTop (mkF m 23 #[.val (.ref a), .val (.int x), .val (.int (0 : Int32)), .val (.int (1 : Int32))] [(.int (1 : Int32)), (.int (0 : Int32))])) (fun t k => X13.arraylength hx (by rw [e13]; exact r14.1) (State.isArrayOf_alike hZ.alike r14.2.1) (g := (mkF m 22 #[.val (.ref a), .val (.int x), .val (.int (0 : Int32)), .val (.int (1 : Int32))] [(.ref pg), (.int (0 : Int32))])) rfl rfl (hb hby d3_22) t (by rw [len_of z14 p14]; exact k)) ?_
  refine own_to (T13.setTop (mkF m 43 #[.val (.ref a), .val (.int x), .val (.int (0 : Int32)), .val (.int (1 : Int32))] [])) (fun t k => XS.icmpYes X13.here hx rfl (pc0 := 23) (pc' := 43) rfl (hb hby d3_23) rfl (feq (by decide)).2 (by decide) (by decide) k) ?_
  refine own_to (T13.setTop (mkF m 44 #[.val (.ref a), .val (.int x), .val (.int (0 : Int32)), .val (.int (1 : Int32))] [(.ref a)])) (fun t k => XS.aloadN X13.here hx rfl (hb hby d3_43) rfl rfl k) ?_
  obtain ⟨T15, X15, e15, st15⟩ := getF X13 hx hZ hown (host := "") (Or.inl (hw _ (List.mem_of_getElem? (i := 13) rfl))) Via.refl e13 Fp (g := (mkF m 44 #[.val (.ref a), .val (.int x), .val (.int (0 : Int32)), .val (.int (1 : Int32))] [(.ref a)])) rfl rfl (hb hby d3_44)
  refine own_to (T15.setTop (mkF m 47 #[.val (.ref a), .val (.int x), .val (.int (0 : Int32)), .val (.int (1 : Int32))] [(.ref pg)])) (fun t k => st15 t k) ?_
  refine own_to (T15.setTop (mkF m 48 #[.val (.ref a), .val (.int x), .val (.int (0 : Int32)), .val (.int (1 : Int32))] [(.int (0 : Int32)), (.ref pg)])) (fun t k => XS.iloadN X15.here hx rfl (hb hby d3_47) rfl k) ?_
  obtain ⟨c16, r16, q16, z16, p16, j16, f16⟩ := id Vp
  have u16 := inb_of z16 (j := (0 : Int32)) ⟨by decide, by decide⟩
  refine own_to (T15.setTop (mkF m 49 #[.val (.ref a), .val (.int x), .val (.int (0 : Int32)), .val (.int (1 : Int32))] [(.ref bk)])) (fun t k => X15.aaload hx (j := (0 : Int32)) (v := (.ref bk)) (by rw [e15]; exact r16.1) (State.isArrayOf_alike hZ.alike r16.2.1) rfl r16.2.2 u16 (j16.at u16 rfl) (g := (mkF m 48 #[.val (.ref a), .val (.int x), .val (.int (0 : Int32)), .val (.int (1 : Int32))] [(.int (0 : Int32)), (.ref pg)])) rfl rfl (hb hby d3_48) t k) ?_
  refine own_to (T15.setTop (mkF m 66 #[.val (.ref a), .val (.int x), .val (.int (0 : Int32)), .val (.int (1 : Int32))] [])) (fun t k => XT.ifnonnullYes X15.here hx rfl (pc0 := 49) (pc' := 66) rfl (hb hby d3_49) rfl (by decide) (by decide) k) ?_
  refine own_to (T15.setTop (mkF m 67 #[.val (.ref a), .val (.int x), .val (.int (0 : Int32)), .val (.int (1 : Int32))] [(.int (1 : Int32))])) (fun t k => XS.iloadN X15.here hx rfl (hb hby d3_66) rfl k) ?_
  refine own_to (T15.setTop (mkF m 68 #[.val (.ref a), .val (.int x), .val (.int (0 : Int32)), .val (.int (1 : Int32))] [(.ref a), (.int (1 : Int32))])) (fun t k => XS.aloadN X15.here hx rfl (hb hby d3_67) rfl rfl k) ?_
  obtain ⟨T17, X17, e17, st17⟩ := getF X15 hx hZ hown (host := "") (Or.inl (hw _ (List.mem_of_getElem? (i := 13) rfl))) Via.refl e15 Fp (g := (mkF m 68 #[.val (.ref a), .val (.int x), .val (.int (0 : Int32)), .val (.int (1 : Int32))] [(.ref a), (.int (1 : Int32))])) rfl rfl (hb hby d3_68)
  refine own_to (T17.setTop (mkF m 71 #[.val (.ref a), .val (.int x), .val (.int (0 : Int32)), .val (.int (1 : Int32))] [(.ref pg), (.int (1 : Int32))])) (fun t k => st17 t k) ?_
  refine own_to (T17.setTop (mkF m 72 #[.val (.ref a), .val (.int x), .val (.int (0 : Int32)), .val (.int (1 : Int32))] [(.int (0 : Int32)), (.ref pg), (.int (1 : Int32))])) (fun t k => XS.iloadN X17.here hx rfl (hb hby d3_71) rfl k) ?_
  obtain ⟨c18, r18, q18, z18, p18, j18, f18⟩ := id Vp
  have u18 := inb_of z18 (j := (0 : Int32)) ⟨by decide, by decide⟩
  refine own_to (T17.setTop (mkF m 73 #[.val (.ref a), .val (.int x), .val (.int (0 : Int32)), .val (.int (1 : Int32))] [(.ref bk), (.int (1 : Int32))])) (fun t k => X17.aaload hx (j := (0 : Int32)) (v := (.ref bk)) (by rw [e17]; exact r18.1) (State.isArrayOf_alike hZ.alike r18.2.1) rfl r18.2.2 u18 (j18.at u18 rfl) (g := (mkF m 72 #[.val (.ref a), .val (.int x), .val (.int (0 : Int32)), .val (.int (1 : Int32))] [(.int (0 : Int32)), (.ref pg), (.int (1 : Int32))])) rfl rfl (hb hby d3_72) t k) ?_
  obtain ⟨c19, r19, q19, z19, p19, j19, f19⟩ := id Vb
  refine own_to (T17.setTop (mkF m 74 #[.val (.ref a), .val (.int x), .val (.int (0 : Int32)), .val (.int (1 : Int32))] [(.int (64 : Int32)), (.int (1 : Int32))])) (fun t k => X17.arraylength hx (by rw [e17]; exact r19.1) (State.isArrayOf_alike hZ.alike r19.2.1) (g := (mkF m 73 #[.val (.ref a), .val (.int x), .val (.int (0 : Int32)), .val (.int (1 : Int32))] [(.ref bk), (.int (1 : Int32))])) rfl rfl (hb hby d3_73) t (by rw [len_of z19 p19]; exact k)) ?_
  refine own_to (T17.setTop (mkF m 95 #[.val (.ref a), .val (.int x), .val (.int (0 : Int32)), .val (.int (1 : Int32))] [])) (fun t k => XS.icmpYes X17.here hx rfl (pc0 := 74) (pc' := 95) rfl (hb hby d3_74) rfl (feq (by decide)).2 (by decide) (by decide) k) ?_
  refine own_to (T17.setTop (mkF m 96 #[.val (.ref a), .val (.int x), .val (.int (0 : Int32)), .val (.int (1 : Int32))] [(.ref a)])) (fun t k => XS.aloadN X17.here hx rfl (hb hby d3_95) rfl rfl k) ?_
  obtain ⟨T20, X20, e20, st20⟩ := getF X17 hx hZ hown (host := "") (Or.inl (hw _ (List.mem_of_getElem? (i := 13) rfl))) Via.refl e17 Fp (g := (mkF m 96 #[.val (.ref a), .val (.int x), .val (.int (0 : Int32)), .val (.int (1 : Int32))] [(.ref a)])) rfl rfl (hb hby d3_96)
  refine own_to (T20.setTop (mkF m 99 #[.val (.ref a), .val (.int x), .val (.int (0 : Int32)), .val (.int (1 : Int32))] [(.ref pg)])) (fun t k => st20 t k) ?_
  refine own_to (T20.setTop (mkF m 100 #[.val (.ref a), .val (.int x), .val (.int (0 : Int32)), .val (.int (1 : Int32))] [(.int (0 : Int32)), (.ref pg)])) (fun t k => XS.iloadN X20.here hx rfl (hb hby d3_99) rfl k) ?_
  obtain ⟨c21, r21, q21, z21, p21, j21, f21⟩ := id Vp
  have u21 := inb_of z21 (j := (0 : Int32)) ⟨by decide, by decide⟩
  refine own_to (T20.setTop (mkF m 101 #[.val (.ref a), .val (.int x), .val (.int (0 : Int32)), .val (.int (1 : Int32))] [(.ref bk)])) (fun t k => X20.aaload hx (j := (0 : Int32)) (v := (.ref bk)) (by rw [e20]; exact r21.1) (State.isArrayOf_alike hZ.alike r21.2.1) rfl r21.2.2 u21 (j21.at u21 rfl) (g := (mkF m 100 #[.val (.ref a), .val (.int x), .val (.int (0 : Int32)), .val (.int (1 : Int32))] [(.int (0 : Int32)), (.ref pg)])) rfl rfl (hb hby d3_100) t k) ?_
  refine own_to (T20.setTop (mkF m 102 #[.val (.ref a), .val (.int x), .val (.int (0 : Int32)), .val (.int (1 : Int32))] [(.int (1 : Int32)), (.ref bk)])) (fun t k => XS.iloadN X20.here hx rfl (hb hby d3_101) rfl k) ?_
  refine own_to (T20.setTop (mkF m 103 #[.val (.ref a), .val (.int x), .val (.int (0 : Int32)), .val (.int (1 : Int32))] [(.int x), (.int (1 : Int32)), (.ref bk)])) (fun t k => XS.iloadN X20.here hx rfl (hb hby d3_102) rfl k) ?_
  obtain ⟨c22, r22, q22, z22, p22, j22, f22⟩ := id Vb
  have u22 := inb_of z22 (j := (1 : Int32)) ⟨by decide, by decide⟩
  obtain ⟨T22, h22, X22, e22, W22, st22⟩ := stI X20 hx hZ e20 r22 u22 (g := (mkF m 103 #[.val (.ref a), .val (.int x), .val (.int (0 : Int32)), .val (.int (1 : Int32))] [(.int x), (.int (1 : Int32)), (.ref bk)])) rfl rfl (hb hby d3_103)
  have N22 := Fr.snoc X22 N0 gb
  have F23 := E.wr W22
  have F24 := Fp.other W22 (Or.inl nab)
  have F25 := Fs.other W22 (Or.inl nab)
  have F26 := Vp.other W22 npb
  have V27 : Arv Z h22 bk kb .int (64 : Int32) [(.int u0), (.int x), (.int u2)] (.int (0 : Int32)) := Arv.set r22 q22 z22 p22 j22 f22 rfl W22 1 rfl (Nat.le_of_ble_eq_true rfl)
  have Z28 : n0 ≤ h22.size := by rw [W22.size]; exact Z0
  refine own_to (T22.setTop (mkF m 104 #[.val (.ref a), .val (.int x), .val (.int (0 : Int32)), .val (.int (1 : Int32))] [])) (fun t k => st22 t k) ?_
  refine own_to (T22.setTop (mkF m 105 #[.val (.ref a), .val (.int x), .val (.int (0 : Int32)), .val (.int (1 : Int32))] [(.ref a)])) (fun t k => XS.aloadN X22.here hx rfl (hb hby d3_104) rfl rfl k) ?_
  refine own_to (T22.setTop (mkF m 106 #[.val (.ref a), .val (.int x), .val (.int (0 : Int32)), .val (.int (1 : Int32))] [(.ref a), (.ref a)])) (fun t k => XS.dup X22.here hx rfl (hb hby d3_105) rfl rfl k) ?_
  obtain ⟨T29, X29, e29, st29⟩ := getF X22 hx hZ hown (host := "") (Or.inl (hw _ (List.mem_of_getElem? (i := 20) rfl))) Via.refl e22 F25 (g := (mkF m 106 #[.val (.ref a), .val (.int x), .val (.int (0 : Int32)), .val (.int (1 : Int32))] [(.ref a), (.ref a)])) rfl rfl (hb hby d3_106)
  refine own_to (T29.setTop (mkF m 109 #[.val (.ref a), .val (.int x), .val (.int (0 : Int32)), .val (.int (1 : Int32))] [(.int (1 : Int32)), (.ref a)])) (fun t k => st29 t k) ?_
  refine own_to (T29.setTop (mkF m 110 #[.val (.ref a), .val (.int x), .val (.int (0 : Int32)), .val (.int (1 : Int32))] [(.int (1 : Int32)), (.int (1 : Int32)), (.ref a)])) (fun t k => XT.iconstV X29.here hx rfl (1 : Int32) (hb hby d3_109) (by decide) k) ?_
  refine own_to (T29.setTop (mkF m 111 #[.val (.ref a), .val (.int x), .val (.int (0 : Int32)), .val (.int (1 : Int32))] [(.int (2 : Int32)), (.ref a)])) (fun t k => XS.iadd X29.here hx rfl (hb hby d3_110) rfl (by rw [show ((1 : Int32) + (1 : Int32)) = (2 : Int32) from by decide]; exact k)) ?_
  obtain ⟨T30, h30, X30, e30, W30, st30⟩ := putF X29 hx hZ hown (host := "") (Or.inl (hw _ (List.mem_of_getElem? (i := 20) rfl))) Via.refl e29 F25 F23 (Or.inl (hw _ (List.mem_of_getElem? (i := 21) rfl))) (hw _ (List.mem_of_getElem? (i := 1) rfl)) (ty := .int) (by decide) rfl rfl (g := (mkF m 111 #[.val (.ref a), .val (.int x), .val (.int (0 : Int32)), .val (.int (1 : Int32))] [(.int (2 : Int32)), (.ref a)])) rfl rfl (hb hby d3_111)
  have N30 := Fr.snoc X30 N22 ga
  have F31 := F23.wr W30
  have F32 := F24.other W30 (Or.inr (slot_ne (Or.inl (hw _ (List.mem_of_getElem? (i := 14) rfl))) (Or.inl (hw _ (List.mem_of_getElem? (i := 21) rfl))) (by decide) (by rfl) (by rfl)))
  have F33 := F25.same W30
  have F34 := F26.other W30 (Ne.symm nap)
  have F35 := V27.other W30 (Ne.symm nab)
  have Z36 : n0 ≤ h30.size := by rw [W30.size]; exact Z28
  refine own_to (T30.setTop (mkF m 114 #[.val (.ref a), .val (.int x), .val (.int (0 : Int32)), .val (.int (1 : Int32))] [])) (fun t k => st30 t k) ?_
  exact own_retV X30 hx hret hk (hb hby d3_114) (by decide) (by decide) ⟨rfl, N30, ⟨(by rw [e30]; exact F31), (by rw [e30]; exact F32), (by rw [e30]; exact F33), (by rw [e30]; exact F34), (by rw [e30]; exact F35)⟩, by rw [e30]; exact Nat.le_trans ga (Nat.le_of_lt F31.lt)⟩
def QP2 (Z : State) (a pg bk : Addr) (kp kb : ClassId) (u0 u1 u2 x : Int32) (h0 : Heap) (n0 : Nat) (v : Option Value) (h : Heap) (L : List Loc) : Prop := v = none ∧ Fr n0 L ∧ own_St Z h a pg bk kp kb 3 u0 u1 x ∧ n0 ≤ h.size
set_option maxRecDepth 65536 in
set_option maxHeartbeats 40000000 in
theorem rmP2 (l : Launch) (Z : State) (a0 : Array Value) (hw : ∀ d ∈ tables_1, d.before a0 Z = true) (a pg bk : Addr) (kp kb : ClassId) (u0 u1 u2 x : Int32) (h0 : Heap) (n0 : Nat) (Z0 : n0 ≤ h0.size) (St : own_St Z h0 a pg bk kp kb 2 u0 u1 u2) (Ne : own_Ne n0 a pg bk) :
    own_Ct l Z (⟨"com/example/amberroot/amberroot/IntStack", "push", "(I)V"⟩ : MethodName) prog_39_method_4_code 4 none ({ frames := 0, cells := 0, slots := 0, locals := 0 } : Room) #[(.ref a), (.int x)] h0 (QP2 Z a pg bk kp kb u0 u1 u2 x h0 n0) := by
  refine own_body pn_3 ?_
  intro p e s m below meth cd s₁ hx hZ hby hml hown hnm hret hk X0 e0
  have N0 := Fr.nil n0
  refine own_to (s₁.setTop (mkF m 0 #[.val (.ref a), .val (.int x), .unset, .unset] [])) (fun t k => castTop (by first | (simp [entryFrame, mkF, argsToLocals, Value.category]; done) | rfl) k) ?_
  obtain ⟨E, Fp, Fs, Vp, Vb⟩ := St
  obtain ⟨ga, gb, nap, nab, npb⟩ := Ne
  refine own_to (s₁.setTop (mkF m 1 #[.val (.ref a), .val (.int x), .unset, .unset] [(.ref a)])) (fun t k => XS.aloadN X0.here hx rfl (hb hby d3_0) rfl rfl k) ?_
  obtain ⟨T11, X11, e11, st11⟩ := getF X0 hx hZ hown (host := "") (Or.inl (hw _ (List.mem_of_getElem? (i := 20) rfl))) Via.refl e0 Fs (g := (mkF m 1 #[.val (.ref a), .val (.int x), .unset, .unset] [(.ref a)])) rfl rfl (hb hby d3_1)
  refine own_to (T11.setTop (mkF m 4 #[.val (.ref a), .val (.int x), .unset, .unset] [(.int (2 : Int32))])) (fun t k => st11 t k) ?_
  refine own_to (T11.setTop (mkF m 6 #[.val (.ref a), .val (.int x), .unset, .unset] [(.int (14 : Int32)), (.int (2 : Int32))])) (fun t k => XT.bipushV X11.here hx rfl (14 : Int32) (hb hby d3_4) (by decide) k) ?_
  refine own_to (T11.setTop (mkF m 7 #[.val (.ref a), .val (.int x), .unset, .unset] [(.int (0 : Int32))])) (fun t k => XT.iushr X11.here hx rfl (hb hby d3_6) rfl (by rw [show (XT.ushr (2 : Int32) (14 : Int32)) = (0 : Int32) from by decide]; exact k)) ?_
  refine own_to (T11.setTop (mkF m 8 #[.val (.ref a), .val (.int x), .val (.int (0 : Int32)), .unset] [])) (fun t k => XS.istoreN X11.here hx rfl (hb hby d3_7) rfl (l' := #[.val (.ref a), .val (.int x), .val (.int (0 : Int32)), .unset]) rfl k) ?_
  refine own_to (T11.setTop (mkF m 9 #[.val (.ref a), .val (.int x), .val (.int (0 : Int32)), .unset] [(.ref a)])) (fun t k => XS.aloadN X11.here hx rfl (hb hby d3_8) rfl rfl k) ?_
  obtain ⟨T12, X12, e12, st12⟩ := getF X11 hx hZ hown (host := "") (Or.inl (hw _ (List.mem_of_getElem? (i := 20) rfl))) Via.refl e11 Fs (g := (mkF m 9 #[.val (.ref a), .val (.int x), .val (.int (0 : Int32)), .unset] [(.ref a)])) rfl rfl (hb hby d3_9)
  refine own_to (T12.setTop (mkF m 12 #[.val (.ref a), .val (.int x), .val (.int (0 : Int32)), .unset] [(.int (2 : Int32))])) (fun t k => st12 t k) ?_
  refine own_to (T12.setTop (mkF m 15 #[.val (.ref a), .val (.int x), .val (.int (0 : Int32)), .unset] [(.int (16383 : Int32)), (.int (2 : Int32))])) (fun t k => XT.sipushV X12.here hx rfl (16383 : Int32) (hb hby d3_12) (by decide) k) ?_
  refine own_to (T12.setTop (mkF m 16 #[.val (.ref a), .val (.int x), .val (.int (0 : Int32)), .unset] [(.int (2 : Int32))])) (fun t k => XS.iand X12.here hx rfl (hb hby d3_15) rfl (by rw [show ((2 : Int32) &&& (16383 : Int32)) = (2 : Int32) from by decide]; exact k)) ?_
  refine own_to (T12.setTop (mkF m 17 #[.val (.ref a), .val (.int x), .val (.int (0 : Int32)), .val (.int (2 : Int32))] [])) (fun t k => XS.istoreN X12.here hx rfl (hb hby d3_16) rfl (l' := #[.val (.ref a), .val (.int x), .val (.int (0 : Int32)), .val (.int (2 : Int32))]) rfl k) ?_
  refine own_to (T12.setTop (mkF m 18 #[.val (.ref a), .val (.int x), .val (.int (0 : Int32)), .val (.int (2 : Int32))] [(.int (0 : Int32))])) (fun t k => XS.iloadN X12.here hx rfl (hb hby d3_17) rfl k) ?_
  refine own_to (T12.setTop (mkF m 19 #[.val (.ref a), .val (.int x), .val (.int (0 : Int32)), .val (.int (2 : Int32))] [(.ref a), (.int (0 : Int32))])) (fun t k => XS.aloadN X12.here hx rfl (hb hby d3_18) rfl rfl k) ?_
  obtain ⟨T13, X13, e13, st13⟩ := getF X12 hx hZ hown (host := "") (Or.inl (hw _ (List.mem_of_getElem? (i := 13) rfl))) Via.refl e12 Fp (g := (mkF m 19 #[.val (.ref a), .val (.int x), .val (.int (0 : Int32)), .val (.int (2 : Int32))] [(.ref a), (.int (0 : Int32))])) rfl rfl (hb hby d3_19)
  refine own_to (T13.setTop (mkF m 22 #[.val (.ref a), .val (.int x), .val (.int (0 : Int32)), .val (.int (2 : Int32))] [(.ref pg), (.int (0 : Int32))])) (fun t k => st13 t k) ?_
  obtain ⟨c14, r14, q14, z14, p14, j14, f14⟩ := id Vp
  refine own_to (T13.setTop (mkF m 23 #[.val (.ref a), .val (.int x), .val (.int (0 : Int32)), .val (.int (2 : Int32))] [(.int (1 : Int32)), (.int (0 : Int32))])) (fun t k => X13.arraylength hx (by rw [e13]; exact r14.1) (State.isArrayOf_alike hZ.alike r14.2.1) (g := (mkF m 22 #[.val (.ref a), .val (.int x), .val (.int (0 : Int32)), .val (.int (2 : Int32))] [(.ref pg), (.int (0 : Int32))])) rfl rfl (hb hby d3_22) t (by rw [len_of z14 p14]; exact k)) ?_
  refine own_to (T13.setTop (mkF m 43 #[.val (.ref a), .val (.int x), .val (.int (0 : Int32)), .val (.int (2 : Int32))] [])) (fun t k => XS.icmpYes X13.here hx rfl (pc0 := 23) (pc' := 43) rfl (hb hby d3_23) rfl (feq (by decide)).2 (by decide) (by decide) k) ?_
  refine own_to (T13.setTop (mkF m 44 #[.val (.ref a), .val (.int x), .val (.int (0 : Int32)), .val (.int (2 : Int32))] [(.ref a)])) (fun t k => XS.aloadN X13.here hx rfl (hb hby d3_43) rfl rfl k) ?_
  obtain ⟨T15, X15, e15, st15⟩ := getF X13 hx hZ hown (host := "") (Or.inl (hw _ (List.mem_of_getElem? (i := 13) rfl))) Via.refl e13 Fp (g := (mkF m 44 #[.val (.ref a), .val (.int x), .val (.int (0 : Int32)), .val (.int (2 : Int32))] [(.ref a)])) rfl rfl (hb hby d3_44)
  refine own_to (T15.setTop (mkF m 47 #[.val (.ref a), .val (.int x), .val (.int (0 : Int32)), .val (.int (2 : Int32))] [(.ref pg)])) (fun t k => st15 t k) ?_
  refine own_to (T15.setTop (mkF m 48 #[.val (.ref a), .val (.int x), .val (.int (0 : Int32)), .val (.int (2 : Int32))] [(.int (0 : Int32)), (.ref pg)])) (fun t k => XS.iloadN X15.here hx rfl (hb hby d3_47) rfl k) ?_
  obtain ⟨c16, r16, q16, z16, p16, j16, f16⟩ := id Vp
  have u16 := inb_of z16 (j := (0 : Int32)) ⟨by decide, by decide⟩
  refine own_to (T15.setTop (mkF m 49 #[.val (.ref a), .val (.int x), .val (.int (0 : Int32)), .val (.int (2 : Int32))] [(.ref bk)])) (fun t k => X15.aaload hx (j := (0 : Int32)) (v := (.ref bk)) (by rw [e15]; exact r16.1) (State.isArrayOf_alike hZ.alike r16.2.1) rfl r16.2.2 u16 (j16.at u16 rfl) (g := (mkF m 48 #[.val (.ref a), .val (.int x), .val (.int (0 : Int32)), .val (.int (2 : Int32))] [(.int (0 : Int32)), (.ref pg)])) rfl rfl (hb hby d3_48) t k) ?_
  refine own_to (T15.setTop (mkF m 66 #[.val (.ref a), .val (.int x), .val (.int (0 : Int32)), .val (.int (2 : Int32))] [])) (fun t k => XT.ifnonnullYes X15.here hx rfl (pc0 := 49) (pc' := 66) rfl (hb hby d3_49) rfl (by decide) (by decide) k) ?_
  refine own_to (T15.setTop (mkF m 67 #[.val (.ref a), .val (.int x), .val (.int (0 : Int32)), .val (.int (2 : Int32))] [(.int (2 : Int32))])) (fun t k => XS.iloadN X15.here hx rfl (hb hby d3_66) rfl k) ?_
  refine own_to (T15.setTop (mkF m 68 #[.val (.ref a), .val (.int x), .val (.int (0 : Int32)), .val (.int (2 : Int32))] [(.ref a), (.int (2 : Int32))])) (fun t k => XS.aloadN X15.here hx rfl (hb hby d3_67) rfl rfl k) ?_
  obtain ⟨T17, X17, e17, st17⟩ := getF X15 hx hZ hown (host := "") (Or.inl (hw _ (List.mem_of_getElem? (i := 13) rfl))) Via.refl e15 Fp (g := (mkF m 68 #[.val (.ref a), .val (.int x), .val (.int (0 : Int32)), .val (.int (2 : Int32))] [(.ref a), (.int (2 : Int32))])) rfl rfl (hb hby d3_68)
  refine own_to (T17.setTop (mkF m 71 #[.val (.ref a), .val (.int x), .val (.int (0 : Int32)), .val (.int (2 : Int32))] [(.ref pg), (.int (2 : Int32))])) (fun t k => st17 t k) ?_
  refine own_to (T17.setTop (mkF m 72 #[.val (.ref a), .val (.int x), .val (.int (0 : Int32)), .val (.int (2 : Int32))] [(.int (0 : Int32)), (.ref pg), (.int (2 : Int32))])) (fun t k => XS.iloadN X17.here hx rfl (hb hby d3_71) rfl k) ?_
  obtain ⟨c18, r18, q18, z18, p18, j18, f18⟩ := id Vp
  have u18 := inb_of z18 (j := (0 : Int32)) ⟨by decide, by decide⟩
  refine own_to (T17.setTop (mkF m 73 #[.val (.ref a), .val (.int x), .val (.int (0 : Int32)), .val (.int (2 : Int32))] [(.ref bk), (.int (2 : Int32))])) (fun t k => X17.aaload hx (j := (0 : Int32)) (v := (.ref bk)) (by rw [e17]; exact r18.1) (State.isArrayOf_alike hZ.alike r18.2.1) rfl r18.2.2 u18 (j18.at u18 rfl) (g := (mkF m 72 #[.val (.ref a), .val (.int x), .val (.int (0 : Int32)), .val (.int (2 : Int32))] [(.int (0 : Int32)), (.ref pg), (.int (2 : Int32))])) rfl rfl (hb hby d3_72) t k) ?_
  obtain ⟨c19, r19, q19, z19, p19, j19, f19⟩ := id Vb
  refine own_to (T17.setTop (mkF m 74 #[.val (.ref a), .val (.int x), .val (.int (0 : Int32)), .val (.int (2 : Int32))] [(.int (64 : Int32)), (.int (2 : Int32))])) (fun t k => X17.arraylength hx (by rw [e17]; exact r19.1) (State.isArrayOf_alike hZ.alike r19.2.1) (g := (mkF m 73 #[.val (.ref a), .val (.int x), .val (.int (0 : Int32)), .val (.int (2 : Int32))] [(.ref bk), (.int (2 : Int32))])) rfl rfl (hb hby d3_73) t (by rw [len_of z19 p19]; exact k)) ?_
  refine own_to (T17.setTop (mkF m 95 #[.val (.ref a), .val (.int x), .val (.int (0 : Int32)), .val (.int (2 : Int32))] [])) (fun t k => XS.icmpYes X17.here hx rfl (pc0 := 74) (pc' := 95) rfl (hb hby d3_74) rfl (feq (by decide)).2 (by decide) (by decide) k) ?_
  refine own_to (T17.setTop (mkF m 96 #[.val (.ref a), .val (.int x), .val (.int (0 : Int32)), .val (.int (2 : Int32))] [(.ref a)])) (fun t k => XS.aloadN X17.here hx rfl (hb hby d3_95) rfl rfl k) ?_
  obtain ⟨T20, X20, e20, st20⟩ := getF X17 hx hZ hown (host := "") (Or.inl (hw _ (List.mem_of_getElem? (i := 13) rfl))) Via.refl e17 Fp (g := (mkF m 96 #[.val (.ref a), .val (.int x), .val (.int (0 : Int32)), .val (.int (2 : Int32))] [(.ref a)])) rfl rfl (hb hby d3_96)
  refine own_to (T20.setTop (mkF m 99 #[.val (.ref a), .val (.int x), .val (.int (0 : Int32)), .val (.int (2 : Int32))] [(.ref pg)])) (fun t k => st20 t k) ?_
  refine own_to (T20.setTop (mkF m 100 #[.val (.ref a), .val (.int x), .val (.int (0 : Int32)), .val (.int (2 : Int32))] [(.int (0 : Int32)), (.ref pg)])) (fun t k => XS.iloadN X20.here hx rfl (hb hby d3_99) rfl k) ?_
  obtain ⟨c21, r21, q21, z21, p21, j21, f21⟩ := id Vp
  have u21 := inb_of z21 (j := (0 : Int32)) ⟨by decide, by decide⟩
  refine own_to (T20.setTop (mkF m 101 #[.val (.ref a), .val (.int x), .val (.int (0 : Int32)), .val (.int (2 : Int32))] [(.ref bk)])) (fun t k => X20.aaload hx (j := (0 : Int32)) (v := (.ref bk)) (by rw [e20]; exact r21.1) (State.isArrayOf_alike hZ.alike r21.2.1) rfl r21.2.2 u21 (j21.at u21 rfl) (g := (mkF m 100 #[.val (.ref a), .val (.int x), .val (.int (0 : Int32)), .val (.int (2 : Int32))] [(.int (0 : Int32)), (.ref pg)])) rfl rfl (hb hby d3_100) t k) ?_
  refine own_to (T20.setTop (mkF m 102 #[.val (.ref a), .val (.int x), .val (.int (0 : Int32)), .val (.int (2 : Int32))] [(.int (2 : Int32)), (.ref bk)])) (fun t k => XS.iloadN X20.here hx rfl (hb hby d3_101) rfl k) ?_
  refine own_to (T20.setTop (mkF m 103 #[.val (.ref a), .val (.int x), .val (.int (0 : Int32)), .val (.int (2 : Int32))] [(.int x), (.int (2 : Int32)), (.ref bk)])) (fun t k => XS.iloadN X20.here hx rfl (hb hby d3_102) rfl k) ?_
  obtain ⟨c22, r22, q22, z22, p22, j22, f22⟩ := id Vb
  have u22 := inb_of z22 (j := (2 : Int32)) ⟨by decide, by decide⟩
  obtain ⟨T22, h22, X22, e22, W22, st22⟩ := stI X20 hx hZ e20 r22 u22 (g := (mkF m 103 #[.val (.ref a), .val (.int x), .val (.int (0 : Int32)), .val (.int (2 : Int32))] [(.int x), (.int (2 : Int32)), (.ref bk)])) rfl rfl (hb hby d3_103)
  have N22 := Fr.snoc X22 N0 gb
  have F23 := E.wr W22
  have F24 := Fp.other W22 (Or.inl nab)
  have F25 := Fs.other W22 (Or.inl nab)
  have F26 := Vp.other W22 npb
  have V27 : Arv Z h22 bk kb .int (64 : Int32) [(.int u0), (.int u1), (.int x)] (.int (0 : Int32)) := Arv.set r22 q22 z22 p22 j22 f22 rfl W22 2 rfl (Nat.le_of_ble_eq_true rfl)
  have Z28 : n0 ≤ h22.size := by rw [W22.size]; exact Z0
  refine own_to (T22.setTop (mkF m 104 #[.val (.ref a), .val (.int x), .val (.int (0 : Int32)), .val (.int (2 : Int32))] [])) (fun t k => st22 t k) ?_
  refine own_to (T22.setTop (mkF m 105 #[.val (.ref a), .val (.int x), .val (.int (0 : Int32)), .val (.int (2 : Int32))] [(.ref a)])) (fun t k => XS.aloadN X22.here hx rfl (hb hby d3_104) rfl rfl k) ?_
  refine own_to (T22.setTop (mkF m 106 #[.val (.ref a), .val (.int x), .val (.int (0 : Int32)), .val (.int (2 : Int32))] [(.ref a), (.ref a)])) (fun t k => XS.dup X22.here hx rfl (hb hby d3_105) rfl rfl k) ?_
  obtain ⟨T29, X29, e29, st29⟩ := getF X22 hx hZ hown (host := "") (Or.inl (hw _ (List.mem_of_getElem? (i := 20) rfl))) Via.refl e22 F25 (g := (mkF m 106 #[.val (.ref a), .val (.int x), .val (.int (0 : Int32)), .val (.int (2 : Int32))] [(.ref a), (.ref a)])) rfl rfl (hb hby d3_106)
  refine own_to (T29.setTop (mkF m 109 #[.val (.ref a), .val (.int x), .val (.int (0 : Int32)), .val (.int (2 : Int32))] [(.int (2 : Int32)), (.ref a)])) (fun t k => st29 t k) ?_
  refine own_to (T29.setTop (mkF m 110 #[.val (.ref a), .val (.int x), .val (.int (0 : Int32)), .val (.int (2 : Int32))] [(.int (1 : Int32)), (.int (2 : Int32)), (.ref a)])) (fun t k => XT.iconstV X29.here hx rfl (1 : Int32) (hb hby d3_109) (by decide) k) ?_
  refine own_to (T29.setTop (mkF m 111 #[.val (.ref a), .val (.int x), .val (.int (0 : Int32)), .val (.int (2 : Int32))] [(.int (3 : Int32)), (.ref a)])) (fun t k => XS.iadd X29.here hx rfl (hb hby d3_110) rfl (by rw [show ((2 : Int32) + (1 : Int32)) = (3 : Int32) from by decide]; exact k)) ?_
  obtain ⟨T30, h30, X30, e30, W30, st30⟩ := putF X29 hx hZ hown (host := "") (Or.inl (hw _ (List.mem_of_getElem? (i := 20) rfl))) Via.refl e29 F25 F23 (Or.inl (hw _ (List.mem_of_getElem? (i := 21) rfl))) (hw _ (List.mem_of_getElem? (i := 1) rfl)) (ty := .int) (by decide) rfl rfl (g := (mkF m 111 #[.val (.ref a), .val (.int x), .val (.int (0 : Int32)), .val (.int (2 : Int32))] [(.int (3 : Int32)), (.ref a)])) rfl rfl (hb hby d3_111)
  have N30 := Fr.snoc X30 N22 ga
  have F31 := F23.wr W30
  have F32 := F24.other W30 (Or.inr (slot_ne (Or.inl (hw _ (List.mem_of_getElem? (i := 14) rfl))) (Or.inl (hw _ (List.mem_of_getElem? (i := 21) rfl))) (by decide) (by rfl) (by rfl)))
  have F33 := F25.same W30
  have F34 := F26.other W30 (Ne.symm nap)
  have F35 := V27.other W30 (Ne.symm nab)
  have Z36 : n0 ≤ h30.size := by rw [W30.size]; exact Z28
  refine own_to (T30.setTop (mkF m 114 #[.val (.ref a), .val (.int x), .val (.int (0 : Int32)), .val (.int (2 : Int32))] [])) (fun t k => st30 t k) ?_
  exact own_retV X30 hx hret hk (hb hby d3_114) (by decide) (by decide) ⟨rfl, N30, ⟨(by rw [e30]; exact F31), (by rw [e30]; exact F32), (by rw [e30]; exact F33), (by rw [e30]; exact F34), (by rw [e30]; exact F35)⟩, by rw [e30]; exact Nat.le_trans ga (Nat.le_of_lt F31.lt)⟩
def QO1 (Z : State) (a pg bk : Addr) (kp kb : ClassId) (u0 u1 u2 : Int32) (h0 : Heap) (n0 : Nat) (v : Option Value) (h : Heap) (L : List Loc) : Prop := v = some (.int u0) ∧ Fr n0 L ∧ own_St Z h a pg bk kp kb 0 u0 u1 u2 ∧ n0 ≤ h.size
set_option maxRecDepth 65536 in
set_option maxHeartbeats 40000000 in
theorem rmO1 (l : Launch) (Z : State) (a0 : Array Value) (hw : ∀ d ∈ tables_1, d.before a0 Z = true) (a pg bk : Addr) (kp kb : ClassId) (u0 u1 u2 : Int32) (h0 : Heap) (n0 : Nat) (Z0 : n0 ≤ h0.size) (St : own_St Z h0 a pg bk kp kb 1 u0 u1 u2) (Ne : own_Ne n0 a pg bk) :
    own_Ct l Z (⟨"com/example/amberroot/amberroot/IntStack", "pop", "()I"⟩ : MethodName) prog_39_method_5_code 1 (some .int) ({ frames := 0, cells := 0, slots := 0, locals := 0 } : Room) #[(.ref a)] h0 (QO1 Z a pg bk kp kb u0 u1 u2 h0 n0) := by
  refine own_body pn_4 ?_
  intro p e s m below meth cd s₁ hx hZ hby hml hown hnm hret hk X0 e0
  have N0 := Fr.nil n0
  refine own_to (s₁.setTop (mkF m 0 #[.val (.ref a)] [])) (fun t k => castTop (by first | (simp [entryFrame, mkF, argsToLocals, Value.category]; done) | rfl) k) ?_
  obtain ⟨E, Fp, Fs, Vp, Vb⟩ := St
  obtain ⟨ga, gb, nap, nab, npb⟩ := Ne
  refine own_to (s₁.setTop (mkF m 1 #[.val (.ref a)] [(.ref a)])) (fun t k => XS.aloadN X0.here hx rfl (hb hby d4_0) rfl rfl k) ?_
  refine own_to (s₁.setTop (mkF m 2 #[.val (.ref a)] [(.ref a), (.ref a)])) (fun t k => XS.dup X0.here hx rfl (hb hby d4_1) rfl rfl k) ?_
  obtain ⟨T11, X11, e11, st11⟩ := getF X0 hx hZ hown (host := "") (Or.inl (hw _ (List.mem_of_getElem? (i := 20) rfl))) Via.refl e0 Fs (g := (mkF m 2 #[.val (.ref a)] [(.ref a), (.ref a)])) rfl rfl (hb hby d4_2)
  refine own_to (T11.setTop (mkF m 5 #[.val (.ref a)] [(.int (1 : Int32)), (.ref a)])) (fun t k => st11 t k) ?_
  refine own_to (T11.setTop (mkF m 6 #[.val (.ref a)] [(.int (1 : Int32)), (.int (1 : Int32)), (.ref a)])) (fun t k => XT.iconstV X11.here hx rfl (1 : Int32) (hb hby d4_5) (by decide) k) ?_
  refine own_to (T11.setTop (mkF m 7 #[.val (.ref a)] [(.int (0 : Int32)), (.ref a)])) (fun t k => XS.isub X11.here hx rfl (hb hby d4_6) rfl (by rw [show ((1 : Int32) - (1 : Int32)) = (0 : Int32) from by decide]; exact k)) ?_
  obtain ⟨T12, h12, X12, e12, W12, st12⟩ := putF X11 hx hZ hown (host := "") (Or.inl (hw _ (List.mem_of_getElem? (i := 20) rfl))) Via.refl e11 Fs E (Or.inl (hw _ (List.mem_of_getElem? (i := 21) rfl))) (hw _ (List.mem_of_getElem? (i := 1) rfl)) (ty := .int) (by decide) rfl rfl (g := (mkF m 7 #[.val (.ref a)] [(.int (0 : Int32)), (.ref a)])) rfl rfl (hb hby d4_7)
  have N12 := Fr.snoc X12 N0 ga
  have F13 := E.wr W12
  have F14 := Fp.other W12 (Or.inr (slot_ne (Or.inl (hw _ (List.mem_of_getElem? (i := 14) rfl))) (Or.inl (hw _ (List.mem_of_getElem? (i := 21) rfl))) (by decide) (by rfl) (by rfl)))
  have F15 := Fs.same W12
  have F16 := Vp.other W12 (Ne.symm nap)
  have F17 := Vb.other W12 (Ne.symm nab)
  have Z18 : n0 ≤ h12.size := by rw [W12.size]; exact Z0
  refine own_to (T12.setTop (mkF m 10 #[.val (.ref a)] [])) (fun t k => st12 t k) ?_
  refine own_to (T12.setTop (mkF m 11 #[.val (.ref a)] [(.ref a)])) (fun t k => XS.aloadN X12.here hx rfl (hb hby d4_10) rfl rfl k) ?_
  obtain ⟨T19, X19, e19, st19⟩ := getF X12 hx hZ hown (host := "") (Or.inl (hw _ (List.mem_of_getElem? (i := 13) rfl))) Via.refl e12 F14 (g := (mkF m 11 #[.val (.ref a)] [(.ref a)])) rfl rfl (hb hby d4_11)
  refine own_to (T19.setTop (mkF m 14 #[.val (.ref a)] [(.ref pg)])) (fun t k => st19 t k) ?_
  refine own_to (T19.setTop (mkF m 15 #[.val (.ref a)] [(.ref a), (.ref pg)])) (fun t k => XS.aloadN X19.here hx rfl (hb hby d4_14) rfl rfl k) ?_
  obtain ⟨T20, X20, e20, st20⟩ := getF X19 hx hZ hown (host := "") (Or.inl (hw _ (List.mem_of_getElem? (i := 20) rfl))) Via.refl e19 F15 (g := (mkF m 15 #[.val (.ref a)] [(.ref a), (.ref pg)])) rfl rfl (hb hby d4_15)
  refine own_to (T20.setTop (mkF m 18 #[.val (.ref a)] [(.int (0 : Int32)), (.ref pg)])) (fun t k => st20 t k) ?_
  refine own_to (T20.setTop (mkF m 20 #[.val (.ref a)] [(.int (14 : Int32)), (.int (0 : Int32)), (.ref pg)])) (fun t k => XT.bipushV X20.here hx rfl (14 : Int32) (hb hby d4_18) (by decide) k) ?_
  refine own_to (T20.setTop (mkF m 21 #[.val (.ref a)] [(.int (0 : Int32)), (.ref pg)])) (fun t k => XT.iushr X20.here hx rfl (hb hby d4_20) rfl (by rw [show (XT.ushr (0 : Int32) (14 : Int32)) = (0 : Int32) from by decide]; exact k)) ?_
  obtain ⟨c21, r21, q21, z21, p21, j21, f21⟩ := id F16
  have u21 := inb_of z21 (j := (0 : Int32)) ⟨by decide, by decide⟩
  refine own_to (T20.setTop (mkF m 22 #[.val (.ref a)] [(.ref bk)])) (fun t k => X20.aaload hx (j := (0 : Int32)) (v := (.ref bk)) (by rw [e20]; exact r21.1) (State.isArrayOf_alike hZ.alike r21.2.1) rfl r21.2.2 u21 (j21.at u21 rfl) (g := (mkF m 21 #[.val (.ref a)] [(.int (0 : Int32)), (.ref pg)])) rfl rfl (hb hby d4_21) t k) ?_
  refine own_to (T20.setTop (mkF m 23 #[.val (.ref a)] [(.ref a), (.ref bk)])) (fun t k => XS.aloadN X20.here hx rfl (hb hby d4_22) rfl rfl k) ?_
  obtain ⟨T22, X22, e22, st22⟩ := getF X20 hx hZ hown (host := "") (Or.inl (hw _ (List.mem_of_getElem? (i := 20) rfl))) Via.refl e20 F15 (g := (mkF m 23 #[.val (.ref a)] [(.ref a), (.ref bk)])) rfl rfl (hb hby d4_23)
  refine own_to (T22.setTop (mkF m 26 #[.val (.ref a)] [(.int (0 : Int32)), (.ref bk)])) (fun t k => st22 t k) ?_
  refine own_to (T22.setTop (mkF m 29 #[.val (.ref a)] [(.int (16383 : Int32)), (.int (0 : Int32)), (.ref bk)])) (fun t k => XT.sipushV X22.here hx rfl (16383 : Int32) (hb hby d4_26) (by decide) k) ?_
  refine own_to (T22.setTop (mkF m 30 #[.val (.ref a)] [(.int (0 : Int32)), (.ref bk)])) (fun t k => XS.iand X22.here hx rfl (hb hby d4_29) rfl (by rw [show ((0 : Int32) &&& (16383 : Int32)) = (0 : Int32) from by decide]; exact k)) ?_
  obtain ⟨c23, r23, q23, z23, p23, j23, f23⟩ := id F17
  have u23 := inb_of z23 (j := (0 : Int32)) ⟨by decide, by decide⟩
  refine own_to (T22.setTop (mkF m 31 #[.val (.ref a)] [(.int u0)])) (fun t k => X22.iaload hx (j := (0 : Int32)) (v := (.int u0)) (by rw [e22]; exact r23.1) (State.isArrayOf_alike hZ.alike r23.2.1) r23.2.2 u23 (j23.at u23 rfl) (g := (mkF m 30 #[.val (.ref a)] [(.int (0 : Int32)), (.ref bk)])) rfl rfl (hb hby d4_30) t k) ?_
  exact own_retI X22 hx hret hk (hb hby d4_31) (by decide) (by decide) ⟨rfl, N12, ⟨(by rw [e22]; exact F13), (by rw [e22]; exact F14), (by rw [e22]; exact F15), (by rw [e22]; exact F16), (by rw [e22]; exact F17)⟩, by rw [e22]; exact Nat.le_trans ga (Nat.le_of_lt F13.lt)⟩
def QO2 (Z : State) (a pg bk : Addr) (kp kb : ClassId) (u0 u1 u2 : Int32) (h0 : Heap) (n0 : Nat) (v : Option Value) (h : Heap) (L : List Loc) : Prop := v = some (.int u1) ∧ Fr n0 L ∧ own_St Z h a pg bk kp kb 1 u0 u1 u2 ∧ n0 ≤ h.size
set_option maxRecDepth 65536 in
set_option maxHeartbeats 40000000 in
theorem rmO2 (l : Launch) (Z : State) (a0 : Array Value) (hw : ∀ d ∈ tables_1, d.before a0 Z = true) (a pg bk : Addr) (kp kb : ClassId) (u0 u1 u2 : Int32) (h0 : Heap) (n0 : Nat) (Z0 : n0 ≤ h0.size) (St : own_St Z h0 a pg bk kp kb 2 u0 u1 u2) (Ne : own_Ne n0 a pg bk) :
    own_Ct l Z (⟨"com/example/amberroot/amberroot/IntStack", "pop", "()I"⟩ : MethodName) prog_39_method_5_code 1 (some .int) ({ frames := 0, cells := 0, slots := 0, locals := 0 } : Room) #[(.ref a)] h0 (QO2 Z a pg bk kp kb u0 u1 u2 h0 n0) := by
  refine own_body pn_4 ?_
  intro p e s m below meth cd s₁ hx hZ hby hml hown hnm hret hk X0 e0
  have N0 := Fr.nil n0
  refine own_to (s₁.setTop (mkF m 0 #[.val (.ref a)] [])) (fun t k => castTop (by first | (simp [entryFrame, mkF, argsToLocals, Value.category]; done) | rfl) k) ?_
  obtain ⟨E, Fp, Fs, Vp, Vb⟩ := St
  obtain ⟨ga, gb, nap, nab, npb⟩ := Ne
  refine own_to (s₁.setTop (mkF m 1 #[.val (.ref a)] [(.ref a)])) (fun t k => XS.aloadN X0.here hx rfl (hb hby d4_0) rfl rfl k) ?_
  refine own_to (s₁.setTop (mkF m 2 #[.val (.ref a)] [(.ref a), (.ref a)])) (fun t k => XS.dup X0.here hx rfl (hb hby d4_1) rfl rfl k) ?_
  obtain ⟨T11, X11, e11, st11⟩ := getF X0 hx hZ hown (host := "") (Or.inl (hw _ (List.mem_of_getElem? (i := 20) rfl))) Via.refl e0 Fs (g := (mkF m 2 #[.val (.ref a)] [(.ref a), (.ref a)])) rfl rfl (hb hby d4_2)
  refine own_to (T11.setTop (mkF m 5 #[.val (.ref a)] [(.int (2 : Int32)), (.ref a)])) (fun t k => st11 t k) ?_
  refine own_to (T11.setTop (mkF m 6 #[.val (.ref a)] [(.int (1 : Int32)), (.int (2 : Int32)), (.ref a)])) (fun t k => XT.iconstV X11.here hx rfl (1 : Int32) (hb hby d4_5) (by decide) k) ?_
  refine own_to (T11.setTop (mkF m 7 #[.val (.ref a)] [(.int (1 : Int32)), (.ref a)])) (fun t k => XS.isub X11.here hx rfl (hb hby d4_6) rfl (by rw [show ((2 : Int32) - (1 : Int32)) = (1 : Int32) from by decide]; exact k)) ?_
  obtain ⟨T12, h12, X12, e12, W12, st12⟩ := putF X11 hx hZ hown (host := "") (Or.inl (hw _ (List.mem_of_getElem? (i := 20) rfl))) Via.refl e11 Fs E (Or.inl (hw _ (List.mem_of_getElem? (i := 21) rfl))) (hw _ (List.mem_of_getElem? (i := 1) rfl)) (ty := .int) (by decide) rfl rfl (g := (mkF m 7 #[.val (.ref a)] [(.int (1 : Int32)), (.ref a)])) rfl rfl (hb hby d4_7)
  have N12 := Fr.snoc X12 N0 ga
  have F13 := E.wr W12
  have F14 := Fp.other W12 (Or.inr (slot_ne (Or.inl (hw _ (List.mem_of_getElem? (i := 14) rfl))) (Or.inl (hw _ (List.mem_of_getElem? (i := 21) rfl))) (by decide) (by rfl) (by rfl)))
  have F15 := Fs.same W12
  have F16 := Vp.other W12 (Ne.symm nap)
  have F17 := Vb.other W12 (Ne.symm nab)
  have Z18 : n0 ≤ h12.size := by rw [W12.size]; exact Z0
  refine own_to (T12.setTop (mkF m 10 #[.val (.ref a)] [])) (fun t k => st12 t k) ?_
  refine own_to (T12.setTop (mkF m 11 #[.val (.ref a)] [(.ref a)])) (fun t k => XS.aloadN X12.here hx rfl (hb hby d4_10) rfl rfl k) ?_
  obtain ⟨T19, X19, e19, st19⟩ := getF X12 hx hZ hown (host := "") (Or.inl (hw _ (List.mem_of_getElem? (i := 13) rfl))) Via.refl e12 F14 (g := (mkF m 11 #[.val (.ref a)] [(.ref a)])) rfl rfl (hb hby d4_11)
  refine own_to (T19.setTop (mkF m 14 #[.val (.ref a)] [(.ref pg)])) (fun t k => st19 t k) ?_
  refine own_to (T19.setTop (mkF m 15 #[.val (.ref a)] [(.ref a), (.ref pg)])) (fun t k => XS.aloadN X19.here hx rfl (hb hby d4_14) rfl rfl k) ?_
  obtain ⟨T20, X20, e20, st20⟩ := getF X19 hx hZ hown (host := "") (Or.inl (hw _ (List.mem_of_getElem? (i := 20) rfl))) Via.refl e19 F15 (g := (mkF m 15 #[.val (.ref a)] [(.ref a), (.ref pg)])) rfl rfl (hb hby d4_15)
  refine own_to (T20.setTop (mkF m 18 #[.val (.ref a)] [(.int (1 : Int32)), (.ref pg)])) (fun t k => st20 t k) ?_
  refine own_to (T20.setTop (mkF m 20 #[.val (.ref a)] [(.int (14 : Int32)), (.int (1 : Int32)), (.ref pg)])) (fun t k => XT.bipushV X20.here hx rfl (14 : Int32) (hb hby d4_18) (by decide) k) ?_
  refine own_to (T20.setTop (mkF m 21 #[.val (.ref a)] [(.int (0 : Int32)), (.ref pg)])) (fun t k => XT.iushr X20.here hx rfl (hb hby d4_20) rfl (by rw [show (XT.ushr (1 : Int32) (14 : Int32)) = (0 : Int32) from by decide]; exact k)) ?_
  obtain ⟨c21, r21, q21, z21, p21, j21, f21⟩ := id F16
  have u21 := inb_of z21 (j := (0 : Int32)) ⟨by decide, by decide⟩
  refine own_to (T20.setTop (mkF m 22 #[.val (.ref a)] [(.ref bk)])) (fun t k => X20.aaload hx (j := (0 : Int32)) (v := (.ref bk)) (by rw [e20]; exact r21.1) (State.isArrayOf_alike hZ.alike r21.2.1) rfl r21.2.2 u21 (j21.at u21 rfl) (g := (mkF m 21 #[.val (.ref a)] [(.int (0 : Int32)), (.ref pg)])) rfl rfl (hb hby d4_21) t k) ?_
  refine own_to (T20.setTop (mkF m 23 #[.val (.ref a)] [(.ref a), (.ref bk)])) (fun t k => XS.aloadN X20.here hx rfl (hb hby d4_22) rfl rfl k) ?_
  obtain ⟨T22, X22, e22, st22⟩ := getF X20 hx hZ hown (host := "") (Or.inl (hw _ (List.mem_of_getElem? (i := 20) rfl))) Via.refl e20 F15 (g := (mkF m 23 #[.val (.ref a)] [(.ref a), (.ref bk)])) rfl rfl (hb hby d4_23)
  refine own_to (T22.setTop (mkF m 26 #[.val (.ref a)] [(.int (1 : Int32)), (.ref bk)])) (fun t k => st22 t k) ?_
  refine own_to (T22.setTop (mkF m 29 #[.val (.ref a)] [(.int (16383 : Int32)), (.int (1 : Int32)), (.ref bk)])) (fun t k => XT.sipushV X22.here hx rfl (16383 : Int32) (hb hby d4_26) (by decide) k) ?_
  refine own_to (T22.setTop (mkF m 30 #[.val (.ref a)] [(.int (1 : Int32)), (.ref bk)])) (fun t k => XS.iand X22.here hx rfl (hb hby d4_29) rfl (by rw [show ((1 : Int32) &&& (16383 : Int32)) = (1 : Int32) from by decide]; exact k)) ?_
  obtain ⟨c23, r23, q23, z23, p23, j23, f23⟩ := id F17
  have u23 := inb_of z23 (j := (1 : Int32)) ⟨by decide, by decide⟩
  refine own_to (T22.setTop (mkF m 31 #[.val (.ref a)] [(.int u1)])) (fun t k => X22.iaload hx (j := (1 : Int32)) (v := (.int u1)) (by rw [e22]; exact r23.1) (State.isArrayOf_alike hZ.alike r23.2.1) r23.2.2 u23 (j23.at u23 rfl) (g := (mkF m 30 #[.val (.ref a)] [(.int (1 : Int32)), (.ref bk)])) rfl rfl (hb hby d4_30) t k) ?_
  exact own_retI X22 hx hret hk (hb hby d4_31) (by decide) (by decide) ⟨rfl, N12, ⟨(by rw [e22]; exact F13), (by rw [e22]; exact F14), (by rw [e22]; exact F15), (by rw [e22]; exact F16), (by rw [e22]; exact F17)⟩, by rw [e22]; exact Nat.le_trans ga (Nat.le_of_lt F13.lt)⟩
def QO3 (Z : State) (a pg bk : Addr) (kp kb : ClassId) (u0 u1 u2 : Int32) (h0 : Heap) (n0 : Nat) (v : Option Value) (h : Heap) (L : List Loc) : Prop := v = some (.int u2) ∧ Fr n0 L ∧ own_St Z h a pg bk kp kb 2 u0 u1 u2 ∧ n0 ≤ h.size
set_option maxRecDepth 65536 in
set_option maxHeartbeats 40000000 in
theorem rmO3 (l : Launch) (Z : State) (a0 : Array Value) (hw : ∀ d ∈ tables_1, d.before a0 Z = true) (a pg bk : Addr) (kp kb : ClassId) (u0 u1 u2 : Int32) (h0 : Heap) (n0 : Nat) (Z0 : n0 ≤ h0.size) (St : own_St Z h0 a pg bk kp kb 3 u0 u1 u2) (Ne : own_Ne n0 a pg bk) :
    own_Ct l Z (⟨"com/example/amberroot/amberroot/IntStack", "pop", "()I"⟩ : MethodName) prog_39_method_5_code 1 (some .int) ({ frames := 0, cells := 0, slots := 0, locals := 0 } : Room) #[(.ref a)] h0 (QO3 Z a pg bk kp kb u0 u1 u2 h0 n0) := by
  refine own_body pn_4 ?_
  intro p e s m below meth cd s₁ hx hZ hby hml hown hnm hret hk X0 e0
  have N0 := Fr.nil n0
  refine own_to (s₁.setTop (mkF m 0 #[.val (.ref a)] [])) (fun t k => castTop (by first | (simp [entryFrame, mkF, argsToLocals, Value.category]; done) | rfl) k) ?_
  obtain ⟨E, Fp, Fs, Vp, Vb⟩ := St
  obtain ⟨ga, gb, nap, nab, npb⟩ := Ne
  refine own_to (s₁.setTop (mkF m 1 #[.val (.ref a)] [(.ref a)])) (fun t k => XS.aloadN X0.here hx rfl (hb hby d4_0) rfl rfl k) ?_
  refine own_to (s₁.setTop (mkF m 2 #[.val (.ref a)] [(.ref a), (.ref a)])) (fun t k => XS.dup X0.here hx rfl (hb hby d4_1) rfl rfl k) ?_
  obtain ⟨T11, X11, e11, st11⟩ := getF X0 hx hZ hown (host := "") (Or.inl (hw _ (List.mem_of_getElem? (i := 20) rfl))) Via.refl e0 Fs (g := (mkF m 2 #[.val (.ref a)] [(.ref a), (.ref a)])) rfl rfl (hb hby d4_2)
  refine own_to (T11.setTop (mkF m 5 #[.val (.ref a)] [(.int (3 : Int32)), (.ref a)])) (fun t k => st11 t k) ?_
  refine own_to (T11.setTop (mkF m 6 #[.val (.ref a)] [(.int (1 : Int32)), (.int (3 : Int32)), (.ref a)])) (fun t k => XT.iconstV X11.here hx rfl (1 : Int32) (hb hby d4_5) (by decide) k) ?_
  refine own_to (T11.setTop (mkF m 7 #[.val (.ref a)] [(.int (2 : Int32)), (.ref a)])) (fun t k => XS.isub X11.here hx rfl (hb hby d4_6) rfl (by rw [show ((3 : Int32) - (1 : Int32)) = (2 : Int32) from by decide]; exact k)) ?_
  obtain ⟨T12, h12, X12, e12, W12, st12⟩ := putF X11 hx hZ hown (host := "") (Or.inl (hw _ (List.mem_of_getElem? (i := 20) rfl))) Via.refl e11 Fs E (Or.inl (hw _ (List.mem_of_getElem? (i := 21) rfl))) (hw _ (List.mem_of_getElem? (i := 1) rfl)) (ty := .int) (by decide) rfl rfl (g := (mkF m 7 #[.val (.ref a)] [(.int (2 : Int32)), (.ref a)])) rfl rfl (hb hby d4_7)
  have N12 := Fr.snoc X12 N0 ga
  have F13 := E.wr W12
  have F14 := Fp.other W12 (Or.inr (slot_ne (Or.inl (hw _ (List.mem_of_getElem? (i := 14) rfl))) (Or.inl (hw _ (List.mem_of_getElem? (i := 21) rfl))) (by decide) (by rfl) (by rfl)))
  have F15 := Fs.same W12
  have F16 := Vp.other W12 (Ne.symm nap)
  have F17 := Vb.other W12 (Ne.symm nab)
  have Z18 : n0 ≤ h12.size := by rw [W12.size]; exact Z0
  refine own_to (T12.setTop (mkF m 10 #[.val (.ref a)] [])) (fun t k => st12 t k) ?_
  refine own_to (T12.setTop (mkF m 11 #[.val (.ref a)] [(.ref a)])) (fun t k => XS.aloadN X12.here hx rfl (hb hby d4_10) rfl rfl k) ?_
  obtain ⟨T19, X19, e19, st19⟩ := getF X12 hx hZ hown (host := "") (Or.inl (hw _ (List.mem_of_getElem? (i := 13) rfl))) Via.refl e12 F14 (g := (mkF m 11 #[.val (.ref a)] [(.ref a)])) rfl rfl (hb hby d4_11)
  refine own_to (T19.setTop (mkF m 14 #[.val (.ref a)] [(.ref pg)])) (fun t k => st19 t k) ?_
  refine own_to (T19.setTop (mkF m 15 #[.val (.ref a)] [(.ref a), (.ref pg)])) (fun t k => XS.aloadN X19.here hx rfl (hb hby d4_14) rfl rfl k) ?_
  obtain ⟨T20, X20, e20, st20⟩ := getF X19 hx hZ hown (host := "") (Or.inl (hw _ (List.mem_of_getElem? (i := 20) rfl))) Via.refl e19 F15 (g := (mkF m 15 #[.val (.ref a)] [(.ref a), (.ref pg)])) rfl rfl (hb hby d4_15)
  refine own_to (T20.setTop (mkF m 18 #[.val (.ref a)] [(.int (2 : Int32)), (.ref pg)])) (fun t k => st20 t k) ?_
  refine own_to (T20.setTop (mkF m 20 #[.val (.ref a)] [(.int (14 : Int32)), (.int (2 : Int32)), (.ref pg)])) (fun t k => XT.bipushV X20.here hx rfl (14 : Int32) (hb hby d4_18) (by decide) k) ?_
  refine own_to (T20.setTop (mkF m 21 #[.val (.ref a)] [(.int (0 : Int32)), (.ref pg)])) (fun t k => XT.iushr X20.here hx rfl (hb hby d4_20) rfl (by rw [show (XT.ushr (2 : Int32) (14 : Int32)) = (0 : Int32) from by decide]; exact k)) ?_
  obtain ⟨c21, r21, q21, z21, p21, j21, f21⟩ := id F16
  have u21 := inb_of z21 (j := (0 : Int32)) ⟨by decide, by decide⟩
  refine own_to (T20.setTop (mkF m 22 #[.val (.ref a)] [(.ref bk)])) (fun t k => X20.aaload hx (j := (0 : Int32)) (v := (.ref bk)) (by rw [e20]; exact r21.1) (State.isArrayOf_alike hZ.alike r21.2.1) rfl r21.2.2 u21 (j21.at u21 rfl) (g := (mkF m 21 #[.val (.ref a)] [(.int (0 : Int32)), (.ref pg)])) rfl rfl (hb hby d4_21) t k) ?_
  refine own_to (T20.setTop (mkF m 23 #[.val (.ref a)] [(.ref a), (.ref bk)])) (fun t k => XS.aloadN X20.here hx rfl (hb hby d4_22) rfl rfl k) ?_
  obtain ⟨T22, X22, e22, st22⟩ := getF X20 hx hZ hown (host := "") (Or.inl (hw _ (List.mem_of_getElem? (i := 20) rfl))) Via.refl e20 F15 (g := (mkF m 23 #[.val (.ref a)] [(.ref a), (.ref bk)])) rfl rfl (hb hby d4_23)
  refine own_to (T22.setTop (mkF m 26 #[.val (.ref a)] [(.int (2 : Int32)), (.ref bk)])) (fun t k => st22 t k) ?_
  refine own_to (T22.setTop (mkF m 29 #[.val (.ref a)] [(.int (16383 : Int32)), (.int (2 : Int32)), (.ref bk)])) (fun t k => XT.sipushV X22.here hx rfl (16383 : Int32) (hb hby d4_26) (by decide) k) ?_
  refine own_to (T22.setTop (mkF m 30 #[.val (.ref a)] [(.int (2 : Int32)), (.ref bk)])) (fun t k => XS.iand X22.here hx rfl (hb hby d4_29) rfl (by rw [show ((2 : Int32) &&& (16383 : Int32)) = (2 : Int32) from by decide]; exact k)) ?_
  obtain ⟨c23, r23, q23, z23, p23, j23, f23⟩ := id F17
  have u23 := inb_of z23 (j := (2 : Int32)) ⟨by decide, by decide⟩
  refine own_to (T22.setTop (mkF m 31 #[.val (.ref a)] [(.int u2)])) (fun t k => X22.iaload hx (j := (2 : Int32)) (v := (.int u2)) (by rw [e22]; exact r23.1) (State.isArrayOf_alike hZ.alike r23.2.1) r23.2.2 u23 (j23.at u23 rfl) (g := (mkF m 30 #[.val (.ref a)] [(.int (2 : Int32)), (.ref bk)])) rfl rfl (hb hby d4_30) t k) ?_
  exact own_retI X22 hx hret hk (hb hby d4_31) (by decide) (by decide) ⟨rfl, N12, ⟨(by rw [e22]; exact F13), (by rw [e22]; exact F14), (by rw [e22]; exact F15), (by rw [e22]; exact F16), (by rw [e22]; exact F17)⟩, by rw [e22]; exact Nat.le_trans ga (Nat.le_of_lt F13.lt)⟩
def QS (Z : State) (a : Addr) (n : Int32) (h0 : Heap) (n0 : Nat) (v : Option Value) (h : Heap) (L : List Loc) : Prop := v = some (.int n) ∧ Fr n0 L ∧ h = h0
set_option maxRecDepth 65536 in
set_option maxHeartbeats 40000000 in
theorem rmS (l : Launch) (Z : State) (a0 : Array Value) (hw : ∀ d ∈ tables_1, d.before a0 Z = true) (a : Addr) (n : Int32) (h0 : Heap) (n0 : Nat) (Z0 : n0 ≤ h0.size) (F : Fld Z h0 a "com/example/amberroot/amberroot/IntStack" "size" "I" (.int n)) :
    own_Ct l Z (⟨"com/example/amberroot/amberroot/IntStack", "size", "()I"⟩ : MethodName) prog_39_method_2_code 1 (some .int) ({ frames := 0, cells := 0, slots := 0, locals := 0 } : Room) #[(.ref a)] h0 (QS Z a n h0 n0) := by
  refine own_body pn_5 ?_
  intro p e s m below meth cd s₁ hx hZ hby hml hown hnm hret hk X0 e0
  have N0 := Fr.nil n0
  refine own_to (s₁.setTop (mkF m 0 #[.val (.ref a)] [])) (fun t k => castTop (by first | (simp [entryFrame, mkF, argsToLocals, Value.category]; done) | rfl) k) ?_
  refine own_to (s₁.setTop (mkF m 1 #[.val (.ref a)] [(.ref a)])) (fun t k => XS.aloadN X0.here hx rfl (hb hby d5_0) rfl rfl k) ?_
  obtain ⟨T11, X11, e11, st11⟩ := getF X0 hx hZ hown (host := "") (Or.inl (hw _ (List.mem_of_getElem? (i := 20) rfl))) Via.refl e0 F (g := (mkF m 1 #[.val (.ref a)] [(.ref a)])) rfl rfl (hb hby d5_1)
  refine own_to (T11.setTop (mkF m 4 #[.val (.ref a)] [(.int n)])) (fun t k => st11 t k) ?_
  exact own_retI X11 hx hret hk (hb hby d5_4) (by decide) (by decide) ⟨rfl, N0, e11⟩
def QE (Z : State) (a : Addr) (h0 : Heap) (n0 : Nat) (v : Option Value) (h : Heap) (L : List Loc) : Prop := v = some (.int 1) ∧ Fr n0 L ∧ h = h0
set_option maxRecDepth 65536 in
set_option maxHeartbeats 40000000 in
theorem rmE (l : Launch) (Z : State) (a0 : Array Value) (hw : ∀ d ∈ tables_1, d.before a0 Z = true) (a : Addr) (h0 : Heap) (n0 : Nat) (Z0 : n0 ≤ h0.size) (F : Fld Z h0 a "com/example/amberroot/amberroot/IntStack" "size" "I" (.int (0 : Int32))) :
    own_Ct l Z (⟨"com/example/amberroot/amberroot/IntStack", "isEmpty", "()Z"⟩ : MethodName) prog_39_method_3_code 1 (some .boolean) ({ frames := 0, cells := 0, slots := 0, locals := 0 } : Room) #[(.ref a)] h0 (QE Z a h0 n0) := by
  refine own_body pn_6 ?_
  intro p e s m below meth cd s₁ hx hZ hby hml hown hnm hret hk X0 e0
  have N0 := Fr.nil n0
  refine own_to (s₁.setTop (mkF m 0 #[.val (.ref a)] [])) (fun t k => castTop (by first | (simp [entryFrame, mkF, argsToLocals, Value.category]; done) | rfl) k) ?_
  refine own_to (s₁.setTop (mkF m 1 #[.val (.ref a)] [(.ref a)])) (fun t k => XS.aloadN X0.here hx rfl (hb hby d6_0) rfl rfl k) ?_
  obtain ⟨T11, X11, e11, st11⟩ := getF X0 hx hZ hown (host := "") (Or.inl (hw _ (List.mem_of_getElem? (i := 20) rfl))) Via.refl e0 F (g := (mkF m 1 #[.val (.ref a)] [(.ref a)])) rfl rfl (hb hby d6_1)
  refine own_to (T11.setTop (mkF m 4 #[.val (.ref a)] [(.int (0 : Int32))])) (fun t k => st11 t k) ?_
  refine own_to (T11.setTop (mkF m 7 #[.val (.ref a)] [])) (fun t k => XS.ifNo X11.here hx rfl (hb hby d6_4) rfl ((if0 _ _).trans (teq rfl).2) k) ?_
  refine own_to (T11.setTop (mkF m 8 #[.val (.ref a)] [(.int (1 : Int32))])) (fun t k => XT.iconstV X11.here hx rfl (1 : Int32) (hb hby d6_7) (by decide) k) ?_
  refine own_to (T11.setTop (mkF m 12 #[.val (.ref a)] [(.int (1 : Int32))])) (fun t k => XS.goto X11.here hx rfl (pc0 := 8) (pc' := 12) rfl (hb hby d6_8) (by decide) (by decide) k) ?_
  exact own_retZ X11 hx hret hk (i' := (1 : Int32)) (hb hby d6_12) (by decide) (by decide) (by decide) ⟨rfl, N0, e11⟩
theorem ef_0 (m : MethodId) (x0 : Int32) (x1 : Int32) (x2 : Int32) (x3 : Int32) : entryFrame m #[(.int x0), (.int x1), (.int x2), (.int x3)] maxLocals = mkF m 0 #[.val (.int x0), .val (.int x1), .val (.int x2), .val (.int x3), .unset, .unset, .unset, .unset, .unset, .unset, .unset, .unset] [] := by first | (simp [entryFrame, mkF, argsToLocals, Value.category, maxLocals]; done) | rfl
def Q0 (Z : State) (x1 x2 x3 md : Int32) (h0 : Heap) (n0 : Nat) (v : Option Value) (h : Heap) (L : List Loc) : Prop := v = some (.int 1) ∧ Fr n0 L
set_option maxRecDepth 65536 in
set_option maxHeartbeats 40000000 in
theorem rm0 (l : Launch) (Z : State) (a0 : Array Value) (hw : ∀ d ∈ tables_1, d.before a0 Z = true) (x1 x2 x3 md : Int32) (h0 : Heap) (n0 : Nat) (Z0 : n0 ≤ h0.size)  :
    own_Ct l Z x code maxLocals ret room_1 #[(.int x1), (.int x2), (.int x3), (.int md)] h0 (Q0 Z x1 x2 x3 md h0 n0) := by
  refine own_body pn_0 ?_
  intro p e s m below meth cd s₁ hx hZ hby hml hown hnm hret hk X0 e0
  have N0 := Fr.nil n0
  refine own_to (s₁.setTop (mkF m 0 #[.val (.int x1), .val (.int x2), .val (.int x3), .val (.int md), .unset, .unset, .unset, .unset, .unset, .unset, .unset, .unset] [])) (fun t k => castTop (ef_0 m x1 x2 x3 md) k) ?_
  refine own_to (s₁.setTop (mkF m 1 #[.val (.int x1), .val (.int x2), .val (.int x3), .val (.int md), .unset, .unset, .unset, .unset, .unset, .unset, .unset, .unset] [(.int md)])) (fun t k => XS.iloadN X0.here hx rfl (hb hby at_0) rfl k) ?_
  refine own_to (s₁.setTop (mkF m 2 #[.val (.int x1), .val (.int x2), .val (.int x3), .val (.int md), .unset, .unset, .unset, .unset, .unset, .unset, .unset, .unset] [(.int (1 : Int32)), (.int md)])) (fun t k => XT.iconstV X0.here hx rfl (1 : Int32) (hb hby at_1) (by decide) k) ?_
  refine own_to (s₁.setTop (mkF m 3 #[.val (.int x1), .val (.int x2), .val (.int x3), .val (.int md), .unset, .unset, .unset, .unset, .unset, .unset, .unset, .unset] [(.int (md &&& (1 : Int32)))])) (fun t k => XS.iand X0.here hx rfl (hb hby at_2) rfl k) ?_
  by_cases c11 : (md &&& (1 : Int32)) = (0 : Int32)
  · -- c11 yes
    refine own_to (s₁.setTop (mkF m 10 #[.val (.int x1), .val (.int x2), .val (.int x3), .val (.int md), .unset, .unset, .unset, .unset, .unset, .unset, .unset, .unset] [])) (fun t k => XS.ifYes X0.here hx rfl (pc0 := 3) (pc' := 10) rfl (hb hby at_3) rfl ((if0 _ _).trans (teq c11).1) (by decide) (by decide) k) ?_
    refine own_to (s₁.setTop (mkF m 11 #[.val (.int x1), .val (.int x2), .val (.int x3), .val (.int md), .unset, .unset, .unset, .unset, .unset, .unset, .unset, .unset] [(.int (0 : Int32))])) (fun t k => XT.iconstV X0.here hx rfl (0 : Int32) (hb hby at_10) (by decide) k) ?_
    refine own_to (s₁.setTop (mkF m 13 #[.val (.int x1), .val (.int x2), .val (.int x3), .val (.int md), .val (.int (0 : Int32)), .unset, .unset, .unset, .unset, .unset, .unset, .unset] [])) (fun t k => XS.istore X0.here hx rfl (hb hby at_11) rfl (l' := #[.val (.int x1), .val (.int x2), .val (.int x3), .val (.int md), .val (.int (0 : Int32)), .unset, .unset, .unset, .unset, .unset, .unset, .unset]) rfl k) ?_
    obtain ⟨T12, h12, X12, e12, E12, A12, D12, -, st12⟩ := newO X0 hx hZ hown (hw _ (List.mem_of_getElem? (i := 0) rfl)) (hw _ (List.mem_of_getElem? (i := 1) rfl)) (hw _ (List.mem_of_getElem? (i := 2) rfl)) e0 (g := (mkF m 13 #[.val (.int x1), .val (.int x2), .val (.int x3), .val (.int md), .val (.int (0 : Int32)), .unset, .unset, .unset, .unset, .unset, .unset, .unset] [])) rfl (hb hby at_13) (by decide) (by decide)
    obtain ⟨a12, g12⟩ : ∃ z, z = h0.size := ⟨_, rfl⟩
    rw [← g12] at A12 D12 st12
    have Z12 : n0 ≤ h12.size := Nat.le_trans Z0 E12.1
    have ge12 : n0 ≤ a12 := Nat.le_trans Z0 (Nat.le_of_eq g12.symm)
    have F13 : Fld Z h12 a12 "com/example/amberroot/amberroot/IntStack" "pages" "[[I" .null := D12 (Or.inl (hw _ (List.mem_of_getElem? (i := 14) rfl))) (ty := (.array (.array .int))) (by rfl)
    have F14 : Fld Z h12 a12 "com/example/amberroot/amberroot/IntStack" "size" "I" (.int (0 : Int32)) := D12 (Or.inl (hw _ (List.mem_of_getElem? (i := 21) rfl))) (ty := .int) (by decide)
    refine own_to (T12.setTop (mkF m 16 #[.val (.int x1), .val (.int x2), .val (.int x3), .val (.int md), .val (.int (0 : Int32)), .unset, .unset, .unset, .unset, .unset, .unset, .unset] [(.ref a12)])) (fun t k => st12 t k) ?_
    refine own_to (T12.setTop (mkF m 17 #[.val (.int x1), .val (.int x2), .val (.int x3), .val (.int md), .val (.int (0 : Int32)), .unset, .unset, .unset, .unset, .unset, .unset, .unset] [(.ref a12), (.ref a12)])) (fun t k => XS.dup X12.here hx rfl (hb hby at_16) rfl rfl k) ?_
    obtain ⟨v15, T15, L15, X15, hQ15, st15⟩ := own_callN X12 hx hZ hown rfl (hw _ (List.mem_of_getElem? (i := 3) rfl)) (hw _ (List.mem_of_getElem? (i := 4) rfl)) (hw _ (List.mem_of_getElem? (i := 5) rfl)) (hw _ (List.mem_of_getElem? (i := 2) rfl)) (by decide) e12 (b := a12) (argsL := []) (rest := [(.ref a12)]) (rmI l Z a0 hw a12 h12 n0 Z12 ge12 A12 F13 F14) (by decide) (W := 1) (by decide) (by decide) (by decide) pd_1 rfl (pc := 17) (Ls := #[.val (.int x1), .val (.int x2), .val (.int x3), .val (.int md), .val (.int (0 : Int32)), .unset, .unset, .unset, .unset, .unset, .unset, .unset]) (by rw [hml]; rfl) (Nat.le_of_eq rfl) (hb hby at_17)
    obtain ⟨h15, e15⟩ : ∃ z, T15.heap = z := ⟨_, rfl⟩
    rw [e15] at hQ15
    obtain ⟨pg15, bk15, kp15, kb15, rfl, M15, St15, Ne15, Z15⟩ := hQ15
    have N15 := Fr.app N0 M15
    refine own_to (T15.setTop (mkF m 20 #[.val (.int x1), .val (.int x2), .val (.int x3), .val (.int md), .val (.int (0 : Int32)), .unset, .unset, .unset, .unset, .unset, .unset, .unset] [(.ref a12)])) (fun t k => st15 t k) ?_
    refine own_to (T15.setTop (mkF m 22 #[.val (.int x1), .val (.int x2), .val (.int x3), .val (.int md), .val (.int (0 : Int32)), .val (.ref a12), .unset, .unset, .unset, .unset, .unset, .unset] [])) (fun t k => XS.astore X15.here hx rfl (hb hby at_20) rfl rfl (l' := #[.val (.int x1), .val (.int x2), .val (.int x3), .val (.int md), .val (.int (0 : Int32)), .val (.ref a12), .unset, .unset, .unset, .unset, .unset, .unset]) rfl k) ?_
    refine own_to (T15.setTop (mkF m 24 #[.val (.int x1), .val (.int x2), .val (.int x3), .val (.int md), .val (.int (0 : Int32)), .val (.ref a12), .unset, .unset, .unset, .unset, .unset, .unset] [(.ref a12)])) (fun t k => XS.aload X15.here hx rfl (hb hby at_22) rfl rfl k) ?_
    refine own_to (T15.setTop (mkF m 25 #[.val (.int x1), .val (.int x2), .val (.int x3), .val (.int md), .val (.int (0 : Int32)), .val (.ref a12), .unset, .unset, .unset, .unset, .unset, .unset] [(.int x1), (.ref a12)])) (fun t k => XS.iloadN X15.here hx rfl (hb hby at_24) rfl k) ?_
    obtain ⟨v16, T16, L16, X16, hQ16, st16⟩ := own_callV X15 hx hZ hown (hw _ (List.mem_of_getElem? (i := 15) rfl)) (hw _ (List.mem_of_getElem? (i := 16) rfl)) (hw _ (List.mem_of_getElem? (i := 18) rfl)) (notFace_of_selects (args := #[]) (mvT hZ (hw _ (List.mem_of_getElem? (i := 18) rfl)))) (hw _ (List.mem_of_getElem? (i := 17) rfl)) (hw _ (List.mem_of_getElem? (i := 19) rfl)) (hw _ (List.mem_of_getElem? (i := 2) rfl)) (by decide) e15 St15.1 (argsL := [(.int x1)]) (rest := []) (rmP0 l Z a0 hw a12 pg15 bk15 kp15 kb15 0 0 0 x1 h15 n0 Z15 St15 Ne15) (by decide) (W := 0) (by decide) (by decide) (by decide) pd_3 rfl (pc := 25) (Ls := #[.val (.int x1), .val (.int x2), .val (.int x3), .val (.int md), .val (.int (0 : Int32)), .val (.ref a12), .unset, .unset, .unset, .unset, .unset, .unset]) (by rw [hml]; rfl) (Nat.le_of_eq rfl) (hb hby at_25)
    obtain ⟨h16, e16⟩ : ∃ z, T16.heap = z := ⟨_, rfl⟩
    rw [e16] at hQ16
    obtain ⟨rfl, M16, St16, Z16⟩ := hQ16
    have N16 := Fr.app N15 M16
    refine own_to (T16.setTop (mkF m 28 #[.val (.int x1), .val (.int x2), .val (.int x3), .val (.int md), .val (.int (0 : Int32)), .val (.ref a12), .unset, .unset, .unset, .unset, .unset, .unset] [])) (fun t k => st16 t k) ?_
    refine own_to (T16.setTop (mkF m 30 #[.val (.int x1), .val (.int x2), .val (.int x3), .val (.int md), .val (.int (0 : Int32)), .val (.ref a12), .unset, .unset, .unset, .unset, .unset, .unset] [(.ref a12)])) (fun t k => XS.aload X16.here hx rfl (hb hby at_28) rfl rfl k) ?_
    refine own_to (T16.setTop (mkF m 31 #[.val (.int x1), .val (.int x2), .val (.int x3), .val (.int md), .val (.int (0 : Int32)), .val (.ref a12), .unset, .unset, .unset, .unset, .unset, .unset] [(.int x2), (.ref a12)])) (fun t k => XS.iloadN X16.here hx rfl (hb hby at_30) rfl k) ?_
    obtain ⟨v17, T17, L17, X17, hQ17, st17⟩ := own_callV X16 hx hZ hown (hw _ (List.mem_of_getElem? (i := 15) rfl)) (hw _ (List.mem_of_getElem? (i := 16) rfl)) (hw _ (List.mem_of_getElem? (i := 18) rfl)) (notFace_of_selects (args := #[]) (mvT hZ (hw _ (List.mem_of_getElem? (i := 18) rfl)))) (hw _ (List.mem_of_getElem? (i := 17) rfl)) (hw _ (List.mem_of_getElem? (i := 19) rfl)) (hw _ (List.mem_of_getElem? (i := 2) rfl)) (by decide) e16 St16.1 (argsL := [(.int x2)]) (rest := []) (rmP1 l Z a0 hw a12 pg15 bk15 kp15 kb15 x1 0 0 x2 h16 n0 Z16 St16 Ne15) (by decide) (W := 0) (by decide) (by decide) (by decide) pd_3 rfl (pc := 31) (Ls := #[.val (.int x1), .val (.int x2), .val (.int x3), .val (.int md), .val (.int (0 : Int32)), .val (.ref a12), .unset, .unset, .unset, .unset, .unset, .unset]) (by rw [hml]; rfl) (Nat.le_of_eq rfl) (hb hby at_31)
    obtain ⟨h17, e17⟩ : ∃ z, T17.heap = z := ⟨_, rfl⟩
    rw [e17] at hQ17
    obtain ⟨rfl, M17, St17, Z17⟩ := hQ17
    have N17 := Fr.app N16 M17
    refine own_to (T17.setTop (mkF m 34 #[.val (.int x1), .val (.int x2), .val (.int x3), .val (.int md), .val (.int (0 : Int32)), .val (.ref a12), .unset, .unset, .unset, .unset, .unset, .unset] [])) (fun t k => st17 t k) ?_
    refine own_to (T17.setTop (mkF m 36 #[.val (.int x1), .val (.int x2), .val (.int x3), .val (.int md), .val (.int (0 : Int32)), .val (.ref a12), .unset, .unset, .unset, .unset, .unset, .unset] [(.int (0 : Int32))])) (fun t k => XS.iload X17.here hx rfl (hb hby at_34) rfl k) ?_
    refine own_to (T17.setTop (mkF m 160 #[.val (.int x1), .val (.int x2), .val (.int x3), .val (.int md), .val (.int (0 : Int32)), .val (.ref a12), .unset, .unset, .unset, .unset, .unset, .unset] [])) (fun t k => XS.ifYes X17.here hx rfl (pc0 := 36) (pc' := 160) rfl (hb hby at_36) rfl ((if0 _ _).trans (teq rfl).1) (by decide) (by decide) k) ?_
    refine own_to (T17.setTop (mkF m 162 #[.val (.int x1), .val (.int x2), .val (.int x3), .val (.int md), .val (.int (0 : Int32)), .val (.ref a12), .unset, .unset, .unset, .unset, .unset, .unset] [(.ref a12)])) (fun t k => XS.aload X17.here hx rfl (hb hby at_160) rfl rfl k) ?_
    refine own_to (T17.setTop (mkF m 163 #[.val (.int x1), .val (.int x2), .val (.int x3), .val (.int md), .val (.int (0 : Int32)), .val (.ref a12), .unset, .unset, .unset, .unset, .unset, .unset] [(.int x3), (.ref a12)])) (fun t k => XS.iloadN X17.here hx rfl (hb hby at_162) rfl k) ?_
    obtain ⟨v18, T18, L18, X18, hQ18, st18⟩ := own_callV X17 hx hZ hown (hw _ (List.mem_of_getElem? (i := 15) rfl)) (hw _ (List.mem_of_getElem? (i := 16) rfl)) (hw _ (List.mem_of_getElem? (i := 18) rfl)) (notFace_of_selects (args := #[]) (mvT hZ (hw _ (List.mem_of_getElem? (i := 18) rfl)))) (hw _ (List.mem_of_getElem? (i := 17) rfl)) (hw _ (List.mem_of_getElem? (i := 19) rfl)) (hw _ (List.mem_of_getElem? (i := 2) rfl)) (by decide) e17 St17.1 (argsL := [(.int x3)]) (rest := []) (rmP2 l Z a0 hw a12 pg15 bk15 kp15 kb15 x1 x2 0 x3 h17 n0 Z17 St17 Ne15) (by decide) (W := 0) (by decide) (by decide) (by decide) pd_3 rfl (pc := 163) (Ls := #[.val (.int x1), .val (.int x2), .val (.int x3), .val (.int md), .val (.int (0 : Int32)), .val (.ref a12), .unset, .unset, .unset, .unset, .unset, .unset]) (by rw [hml]; rfl) (Nat.le_of_eq rfl) (hb hby at_163)
    obtain ⟨h18, e18⟩ : ∃ z, T18.heap = z := ⟨_, rfl⟩
    rw [e18] at hQ18
    obtain ⟨rfl, M18, St18, Z18⟩ := hQ18
    have N18 := Fr.app N17 M18
    refine own_to (T18.setTop (mkF m 166 #[.val (.int x1), .val (.int x2), .val (.int x3), .val (.int md), .val (.int (0 : Int32)), .val (.ref a12), .unset, .unset, .unset, .unset, .unset, .unset] [])) (fun t k => st18 t k) ?_
    refine own_to (T18.setTop (mkF m 168 #[.val (.int x1), .val (.int x2), .val (.int x3), .val (.int md), .val (.int (0 : Int32)), .val (.ref a12), .unset, .unset, .unset, .unset, .unset, .unset] [(.ref a12)])) (fun t k => XS.aload X18.here hx rfl (hb hby at_166) rfl rfl k) ?_
    obtain ⟨v19, T19, L19, X19, hQ19, st19⟩ := own_callV X18 hx hZ hown (hw _ (List.mem_of_getElem? (i := 22) rfl)) (hw _ (List.mem_of_getElem? (i := 23) rfl)) (hw _ (List.mem_of_getElem? (i := 25) rfl)) (notFace_of_selects (args := #[]) (mvT hZ (hw _ (List.mem_of_getElem? (i := 25) rfl)))) (hw _ (List.mem_of_getElem? (i := 24) rfl)) (hw _ (List.mem_of_getElem? (i := 26) rfl)) (hw _ (List.mem_of_getElem? (i := 2) rfl)) (by decide) e18 St18.1 (argsL := []) (rest := []) (rmO3 l Z a0 hw a12 pg15 bk15 kp15 kb15 x1 x2 x3 h18 n0 Z18 St18 Ne15) (by decide) (W := 0) (by decide) (by decide) (by decide) pd_4 rfl (pc := 168) (Ls := #[.val (.int x1), .val (.int x2), .val (.int x3), .val (.int md), .val (.int (0 : Int32)), .val (.ref a12), .unset, .unset, .unset, .unset, .unset, .unset]) (by rw [hml]; rfl) (Nat.le_of_eq rfl) (hb hby at_168)
    obtain ⟨h19, e19⟩ : ∃ z, T19.heap = z := ⟨_, rfl⟩
    rw [e19] at hQ19
    obtain ⟨rfl, M19, St19, Z19⟩ := hQ19
    have N19 := Fr.app N18 M19
    refine own_to (T19.setTop (mkF m 171 #[.val (.int x1), .val (.int x2), .val (.int x3), .val (.int md), .val (.int (0 : Int32)), .val (.ref a12), .unset, .unset, .unset, .unset, .unset, .unset] [(.int x3)])) (fun t k => st19 t k) ?_
    refine own_to (T19.setTop (mkF m 173 #[.val (.int x1), .val (.int x2), .val (.int x3), .val (.int md), .val (.int (0 : Int32)), .val (.ref a12), .val (.int x3), .unset, .unset, .unset, .unset, .unset] [])) (fun t k => XS.istore X19.here hx rfl (hb hby at_171) rfl (l' := #[.val (.int x1), .val (.int x2), .val (.int x3), .val (.int md), .val (.int (0 : Int32)), .val (.ref a12), .val (.int x3), .unset, .unset, .unset, .unset, .unset]) rfl k) ?_
    refine own_to (T19.setTop (mkF m 175 #[.val (.int x1), .val (.int x2), .val (.int x3), .val (.int md), .val (.int (0 : Int32)), .val (.ref a12), .val (.int x3), .unset, .unset, .unset, .unset, .unset] [(.int x3)])) (fun t k => XS.iload X19.here hx rfl (hb hby at_173) rfl k) ?_
    refine own_to (T19.setTop (mkF m 176 #[.val (.int x1), .val (.int x2), .val (.int x3), .val (.int md), .val (.int (0 : Int32)), .val (.ref a12), .val (.int x3), .unset, .unset, .unset, .unset, .unset] [(.int x3), (.int x3)])) (fun t k => XS.iloadN X19.here hx rfl (hb hby at_175) rfl k) ?_
    refine own_to (T19.setTop (mkF m 179 #[.val (.int x1), .val (.int x2), .val (.int x3), .val (.int md), .val (.int (0 : Int32)), .val (.ref a12), .val (.int x3), .unset, .unset, .unset, .unset, .unset] [])) (fun t k => XS.icmpNo X19.here hx rfl (hb hby at_176) rfl (teq rfl).2 k) ?_
    refine own_to (T19.setTop (mkF m 181 #[.val (.int x1), .val (.int x2), .val (.int x3), .val (.int md), .val (.int (0 : Int32)), .val (.ref a12), .val (.int x3), .unset, .unset, .unset, .unset, .unset] [(.ref a12)])) (fun t k => XS.aload X19.here hx rfl (hb hby at_179) rfl rfl k) ?_
    obtain ⟨v20, T20, L20, X20, hQ20, st20⟩ := own_callV X19 hx hZ hown (hw _ (List.mem_of_getElem? (i := 27) rfl)) (hw _ (List.mem_of_getElem? (i := 28) rfl)) (hw _ (List.mem_of_getElem? (i := 30) rfl)) (notFace_of_selects (args := #[]) (mvT hZ (hw _ (List.mem_of_getElem? (i := 30) rfl)))) (hw _ (List.mem_of_getElem? (i := 29) rfl)) (hw _ (List.mem_of_getElem? (i := 31) rfl)) (hw _ (List.mem_of_getElem? (i := 2) rfl)) (by decide) e19 St19.1 (argsL := []) (rest := []) (rmS l Z a0 hw a12 2 h19 n0 Z19 St19.2.2.1) (by decide) (W := 0) (by decide) (by decide) (by decide) pd_5 rfl (pc := 181) (Ls := #[.val (.int x1), .val (.int x2), .val (.int x3), .val (.int md), .val (.int (0 : Int32)), .val (.ref a12), .val (.int x3), .unset, .unset, .unset, .unset, .unset]) (by rw [hml]; rfl) (Nat.le_of_eq rfl) (hb hby at_181)
    obtain ⟨rfl, M20, e20⟩ := hQ20
    have N20 := Fr.app N19 M20
    refine own_to (T20.setTop (mkF m 184 #[.val (.int x1), .val (.int x2), .val (.int x3), .val (.int md), .val (.int (0 : Int32)), .val (.ref a12), .val (.int x3), .unset, .unset, .unset, .unset, .unset] [(.int (2 : Int32))])) (fun t k => st20 t k) ?_
    refine own_to (T20.setTop (mkF m 185 #[.val (.int x1), .val (.int x2), .val (.int x3), .val (.int md), .val (.int (0 : Int32)), .val (.ref a12), .val (.int x3), .unset, .unset, .unset, .unset, .unset] [(.int (2 : Int32)), (.int (2 : Int32))])) (fun t k => XT.iconstV X20.here hx rfl (2 : Int32) (hb hby at_184) (by decide) k) ?_
    refine own_to (T20.setTop (mkF m 188 #[.val (.int x1), .val (.int x2), .val (.int x3), .val (.int md), .val (.int (0 : Int32)), .val (.ref a12), .val (.int x3), .unset, .unset, .unset, .unset, .unset] [])) (fun t k => XS.icmpNo X20.here hx rfl (hb hby at_185) rfl (teq rfl).2 k) ?_
    refine own_to (T20.setTop (mkF m 189 #[.val (.int x1), .val (.int x2), .val (.int x3), .val (.int md), .val (.int (0 : Int32)), .val (.ref a12), .val (.int x3), .unset, .unset, .unset, .unset, .unset] [(.int (1 : Int32))])) (fun t k => XT.iconstV X20.here hx rfl (1 : Int32) (hb hby at_188) (by decide) k) ?_
    refine own_to (T20.setTop (mkF m 193 #[.val (.int x1), .val (.int x2), .val (.int x3), .val (.int md), .val (.int (0 : Int32)), .val (.ref a12), .val (.int x3), .unset, .unset, .unset, .unset, .unset] [(.int (1 : Int32))])) (fun t k => XS.goto X20.here hx rfl (pc0 := 189) (pc' := 193) rfl (hb hby at_189) (by decide) (by decide) k) ?_
    refine own_to (T20.setTop (mkF m 195 #[.val (.int x1), .val (.int x2), .val (.int x3), .val (.int md), .val (.int (0 : Int32)), .val (.ref a12), .val (.int x3), .val (.int (1 : Int32)), .unset, .unset, .unset, .unset] [])) (fun t k => XS.istore X20.here hx rfl (hb hby at_193) rfl (l' := #[.val (.int x1), .val (.int x2), .val (.int x3), .val (.int md), .val (.int (0 : Int32)), .val (.ref a12), .val (.int x3), .val (.int (1 : Int32)), .unset, .unset, .unset, .unset]) rfl k) ?_
    refine own_to (T20.setTop (mkF m 197 #[.val (.int x1), .val (.int x2), .val (.int x3), .val (.int md), .val (.int (0 : Int32)), .val (.ref a12), .val (.int x3), .val (.int (1 : Int32)), .unset, .unset, .unset, .unset] [(.ref a12)])) (fun t k => XS.aload X20.here hx rfl (hb hby at_195) rfl rfl k) ?_
    obtain ⟨v21, T21, L21, X21, hQ21, st21⟩ := own_callV X20 hx hZ hown (hw _ (List.mem_of_getElem? (i := 22) rfl)) (hw _ (List.mem_of_getElem? (i := 23) rfl)) (hw _ (List.mem_of_getElem? (i := 25) rfl)) (notFace_of_selects (args := #[]) (mvT hZ (hw _ (List.mem_of_getElem? (i := 25) rfl)))) (hw _ (List.mem_of_getElem? (i := 24) rfl)) (hw _ (List.mem_of_getElem? (i := 26) rfl)) (hw _ (List.mem_of_getElem? (i := 2) rfl)) (by decide) e20 St19.1 (argsL := []) (rest := []) (rmO2 l Z a0 hw a12 pg15 bk15 kp15 kb15 x1 x2 x3 h19 n0 Z19 St19 Ne15) (by decide) (W := 0) (by decide) (by decide) (by decide) pd_4 rfl (pc := 197) (Ls := #[.val (.int x1), .val (.int x2), .val (.int x3), .val (.int md), .val (.int (0 : Int32)), .val (.ref a12), .val (.int x3), .val (.int (1 : Int32)), .unset, .unset, .unset, .unset]) (by rw [hml]; rfl) (Nat.le_of_eq rfl) (hb hby at_197)
    obtain ⟨h21, e21⟩ : ∃ z, T21.heap = z := ⟨_, rfl⟩
    rw [e21] at hQ21
    obtain ⟨rfl, M21, St21, Z21⟩ := hQ21
    have N21 := Fr.app N20 M21
    refine own_to (T21.setTop (mkF m 200 #[.val (.int x1), .val (.int x2), .val (.int x3), .val (.int md), .val (.int (0 : Int32)), .val (.ref a12), .val (.int x3), .val (.int (1 : Int32)), .unset, .unset, .unset, .unset] [(.int x2)])) (fun t k => st21 t k) ?_
    refine own_to (T21.setTop (mkF m 202 #[.val (.int x1), .val (.int x2), .val (.int x3), .val (.int md), .val (.int (0 : Int32)), .val (.ref a12), .val (.int x3), .val (.int (1 : Int32)), .val (.int x2), .unset, .unset, .unset] [])) (fun t k => XS.istore X21.here hx rfl (hb hby at_200) rfl (l' := #[.val (.int x1), .val (.int x2), .val (.int x3), .val (.int md), .val (.int (0 : Int32)), .val (.ref a12), .val (.int x3), .val (.int (1 : Int32)), .val (.int x2), .unset, .unset, .unset]) rfl k) ?_
    refine own_to (T21.setTop (mkF m 204 #[.val (.int x1), .val (.int x2), .val (.int x3), .val (.int md), .val (.int (0 : Int32)), .val (.ref a12), .val (.int x3), .val (.int (1 : Int32)), .val (.int x2), .unset, .unset, .unset] [(.int x2)])) (fun t k => XS.iload X21.here hx rfl (hb hby at_202) rfl k) ?_
    refine own_to (T21.setTop (mkF m 205 #[.val (.int x1), .val (.int x2), .val (.int x3), .val (.int md), .val (.int (0 : Int32)), .val (.ref a12), .val (.int x3), .val (.int (1 : Int32)), .val (.int x2), .unset, .unset, .unset] [(.int x2), (.int x2)])) (fun t k => XS.iloadN X21.here hx rfl (hb hby at_204) rfl k) ?_
    refine own_to (T21.setTop (mkF m 208 #[.val (.int x1), .val (.int x2), .val (.int x3), .val (.int md), .val (.int (0 : Int32)), .val (.ref a12), .val (.int x3), .val (.int (1 : Int32)), .val (.int x2), .unset, .unset, .unset] [])) (fun t k => XS.icmpNo X21.here hx rfl (hb hby at_205) rfl (teq rfl).2 k) ?_
    refine own_to (T21.setTop (mkF m 210 #[.val (.int x1), .val (.int x2), .val (.int x3), .val (.int md), .val (.int (0 : Int32)), .val (.ref a12), .val (.int x3), .val (.int (1 : Int32)), .val (.int x2), .unset, .unset, .unset] [(.ref a12)])) (fun t k => XS.aload X21.here hx rfl (hb hby at_208) rfl rfl k) ?_
    obtain ⟨v22, T22, L22, X22, hQ22, st22⟩ := own_callV X21 hx hZ hown (hw _ (List.mem_of_getElem? (i := 27) rfl)) (hw _ (List.mem_of_getElem? (i := 28) rfl)) (hw _ (List.mem_of_getElem? (i := 30) rfl)) (notFace_of_selects (args := #[]) (mvT hZ (hw _ (List.mem_of_getElem? (i := 30) rfl)))) (hw _ (List.mem_of_getElem? (i := 29) rfl)) (hw _ (List.mem_of_getElem? (i := 31) rfl)) (hw _ (List.mem_of_getElem? (i := 2) rfl)) (by decide) e21 St21.1 (argsL := []) (rest := []) (rmS l Z a0 hw a12 1 h21 n0 Z21 St21.2.2.1) (by decide) (W := 0) (by decide) (by decide) (by decide) pd_5 rfl (pc := 210) (Ls := #[.val (.int x1), .val (.int x2), .val (.int x3), .val (.int md), .val (.int (0 : Int32)), .val (.ref a12), .val (.int x3), .val (.int (1 : Int32)), .val (.int x2), .unset, .unset, .unset]) (by rw [hml]; rfl) (Nat.le_of_eq rfl) (hb hby at_210)
    obtain ⟨rfl, M22, e22⟩ := hQ22
    have N22 := Fr.app N21 M22
    refine own_to (T22.setTop (mkF m 213 #[.val (.int x1), .val (.int x2), .val (.int x3), .val (.int md), .val (.int (0 : Int32)), .val (.ref a12), .val (.int x3), .val (.int (1 : Int32)), .val (.int x2), .unset, .unset, .unset] [(.int (1 : Int32))])) (fun t k => st22 t k) ?_
    refine own_to (T22.setTop (mkF m 214 #[.val (.int x1), .val (.int x2), .val (.int x3), .val (.int md), .val (.int (0 : Int32)), .val (.ref a12), .val (.int x3), .val (.int (1 : Int32)), .val (.int x2), .unset, .unset, .unset] [(.int (1 : Int32)), (.int (1 : Int32))])) (fun t k => XT.iconstV X22.here hx rfl (1 : Int32) (hb hby at_213) (by decide) k) ?_
    refine own_to (T22.setTop (mkF m 217 #[.val (.int x1), .val (.int x2), .val (.int x3), .val (.int md), .val (.int (0 : Int32)), .val (.ref a12), .val (.int x3), .val (.int (1 : Int32)), .val (.int x2), .unset, .unset, .unset] [])) (fun t k => XS.icmpNo X22.here hx rfl (hb hby at_214) rfl (teq rfl).2 k) ?_
    refine own_to (T22.setTop (mkF m 218 #[.val (.int x1), .val (.int x2), .val (.int x3), .val (.int md), .val (.int (0 : Int32)), .val (.ref a12), .val (.int x3), .val (.int (1 : Int32)), .val (.int x2), .unset, .unset, .unset] [(.int (1 : Int32))])) (fun t k => XT.iconstV X22.here hx rfl (1 : Int32) (hb hby at_217) (by decide) k) ?_
    refine own_to (T22.setTop (mkF m 222 #[.val (.int x1), .val (.int x2), .val (.int x3), .val (.int md), .val (.int (0 : Int32)), .val (.ref a12), .val (.int x3), .val (.int (1 : Int32)), .val (.int x2), .unset, .unset, .unset] [(.int (1 : Int32))])) (fun t k => XS.goto X22.here hx rfl (pc0 := 218) (pc' := 222) rfl (hb hby at_218) (by decide) (by decide) k) ?_
    refine own_to (T22.setTop (mkF m 224 #[.val (.int x1), .val (.int x2), .val (.int x3), .val (.int md), .val (.int (0 : Int32)), .val (.ref a12), .val (.int x3), .val (.int (1 : Int32)), .val (.int x2), .val (.int (1 : Int32)), .unset, .unset] [])) (fun t k => XS.istore X22.here hx rfl (hb hby at_222) rfl (l' := #[.val (.int x1), .val (.int x2), .val (.int x3), .val (.int md), .val (.int (0 : Int32)), .val (.ref a12), .val (.int x3), .val (.int (1 : Int32)), .val (.int x2), .val (.int (1 : Int32)), .unset, .unset]) rfl k) ?_
    refine own_to (T22.setTop (mkF m 226 #[.val (.int x1), .val (.int x2), .val (.int x3), .val (.int md), .val (.int (0 : Int32)), .val (.ref a12), .val (.int x3), .val (.int (1 : Int32)), .val (.int x2), .val (.int (1 : Int32)), .unset, .unset] [(.ref a12)])) (fun t k => XS.aload X22.here hx rfl (hb hby at_224) rfl rfl k) ?_
    obtain ⟨v23, T23, L23, X23, hQ23, st23⟩ := own_callV X22 hx hZ hown (hw _ (List.mem_of_getElem? (i := 22) rfl)) (hw _ (List.mem_of_getElem? (i := 23) rfl)) (hw _ (List.mem_of_getElem? (i := 25) rfl)) (notFace_of_selects (args := #[]) (mvT hZ (hw _ (List.mem_of_getElem? (i := 25) rfl)))) (hw _ (List.mem_of_getElem? (i := 24) rfl)) (hw _ (List.mem_of_getElem? (i := 26) rfl)) (hw _ (List.mem_of_getElem? (i := 2) rfl)) (by decide) e22 St21.1 (argsL := []) (rest := []) (rmO1 l Z a0 hw a12 pg15 bk15 kp15 kb15 x1 x2 x3 h21 n0 Z21 St21 Ne15) (by decide) (W := 0) (by decide) (by decide) (by decide) pd_4 rfl (pc := 226) (Ls := #[.val (.int x1), .val (.int x2), .val (.int x3), .val (.int md), .val (.int (0 : Int32)), .val (.ref a12), .val (.int x3), .val (.int (1 : Int32)), .val (.int x2), .val (.int (1 : Int32)), .unset, .unset]) (by rw [hml]; rfl) (Nat.le_of_eq rfl) (hb hby at_226)
    obtain ⟨h23, e23⟩ : ∃ z, T23.heap = z := ⟨_, rfl⟩
    rw [e23] at hQ23
    obtain ⟨rfl, M23, St23, Z23⟩ := hQ23
    have N23 := Fr.app N22 M23
    refine own_to (T23.setTop (mkF m 229 #[.val (.int x1), .val (.int x2), .val (.int x3), .val (.int md), .val (.int (0 : Int32)), .val (.ref a12), .val (.int x3), .val (.int (1 : Int32)), .val (.int x2), .val (.int (1 : Int32)), .unset, .unset] [(.int x1)])) (fun t k => st23 t k) ?_
    refine own_to (T23.setTop (mkF m 231 #[.val (.int x1), .val (.int x2), .val (.int x3), .val (.int md), .val (.int (0 : Int32)), .val (.ref a12), .val (.int x3), .val (.int (1 : Int32)), .val (.int x2), .val (.int (1 : Int32)), .val (.int x1), .unset] [])) (fun t k => XS.istore X23.here hx rfl (hb hby at_229) rfl (l' := #[.val (.int x1), .val (.int x2), .val (.int x3), .val (.int md), .val (.int (0 : Int32)), .val (.ref a12), .val (.int x3), .val (.int (1 : Int32)), .val (.int x2), .val (.int (1 : Int32)), .val (.int x1), .unset]) rfl k) ?_
    refine own_to (T23.setTop (mkF m 233 #[.val (.int x1), .val (.int x2), .val (.int x3), .val (.int md), .val (.int (0 : Int32)), .val (.ref a12), .val (.int x3), .val (.int (1 : Int32)), .val (.int x2), .val (.int (1 : Int32)), .val (.int x1), .unset] [(.int x1)])) (fun t k => XS.iload X23.here hx rfl (hb hby at_231) rfl k) ?_
    refine own_to (T23.setTop (mkF m 234 #[.val (.int x1), .val (.int x2), .val (.int x3), .val (.int md), .val (.int (0 : Int32)), .val (.ref a12), .val (.int x3), .val (.int (1 : Int32)), .val (.int x2), .val (.int (1 : Int32)), .val (.int x1), .unset] [(.int x1), (.int x1)])) (fun t k => XS.iloadN X23.here hx rfl (hb hby at_233) rfl k) ?_
    refine own_to (T23.setTop (mkF m 237 #[.val (.int x1), .val (.int x2), .val (.int x3), .val (.int md), .val (.int (0 : Int32)), .val (.ref a12), .val (.int x3), .val (.int (1 : Int32)), .val (.int x2), .val (.int (1 : Int32)), .val (.int x1), .unset] [])) (fun t k => XS.icmpNo X23.here hx rfl (hb hby at_234) rfl (teq rfl).2 k) ?_
    refine own_to (T23.setTop (mkF m 239 #[.val (.int x1), .val (.int x2), .val (.int x3), .val (.int md), .val (.int (0 : Int32)), .val (.ref a12), .val (.int x3), .val (.int (1 : Int32)), .val (.int x2), .val (.int (1 : Int32)), .val (.int x1), .unset] [(.ref a12)])) (fun t k => XS.aload X23.here hx rfl (hb hby at_237) rfl rfl k) ?_
    obtain ⟨v24, T24, L24, X24, hQ24, st24⟩ := own_callV X23 hx hZ hown (hw _ (List.mem_of_getElem? (i := 27) rfl)) (hw _ (List.mem_of_getElem? (i := 28) rfl)) (hw _ (List.mem_of_getElem? (i := 30) rfl)) (notFace_of_selects (args := #[]) (mvT hZ (hw _ (List.mem_of_getElem? (i := 30) rfl)))) (hw _ (List.mem_of_getElem? (i := 29) rfl)) (hw _ (List.mem_of_getElem? (i := 31) rfl)) (hw _ (List.mem_of_getElem? (i := 2) rfl)) (by decide) e23 St23.1 (argsL := []) (rest := []) (rmS l Z a0 hw a12 0 h23 n0 Z23 St23.2.2.1) (by decide) (W := 0) (by decide) (by decide) (by decide) pd_5 rfl (pc := 239) (Ls := #[.val (.int x1), .val (.int x2), .val (.int x3), .val (.int md), .val (.int (0 : Int32)), .val (.ref a12), .val (.int x3), .val (.int (1 : Int32)), .val (.int x2), .val (.int (1 : Int32)), .val (.int x1), .unset]) (by rw [hml]; rfl) (Nat.le_of_eq rfl) (hb hby at_239)
    obtain ⟨rfl, M24, e24⟩ := hQ24
    have N24 := Fr.app N23 M24
    refine own_to (T24.setTop (mkF m 242 #[.val (.int x1), .val (.int x2), .val (.int x3), .val (.int md), .val (.int (0 : Int32)), .val (.ref a12), .val (.int x3), .val (.int (1 : Int32)), .val (.int x2), .val (.int (1 : Int32)), .val (.int x1), .unset] [(.int (0 : Int32))])) (fun t k => st24 t k) ?_
    refine own_to (T24.setTop (mkF m 245 #[.val (.int x1), .val (.int x2), .val (.int x3), .val (.int md), .val (.int (0 : Int32)), .val (.ref a12), .val (.int x3), .val (.int (1 : Int32)), .val (.int x2), .val (.int (1 : Int32)), .val (.int x1), .unset] [])) (fun t k => XS.ifNo X24.here hx rfl (hb hby at_242) rfl ((if0 _ _).trans (teq rfl).2) k) ?_
    refine own_to (T24.setTop (mkF m 247 #[.val (.int x1), .val (.int x2), .val (.int x3), .val (.int md), .val (.int (0 : Int32)), .val (.ref a12), .val (.int x3), .val (.int (1 : Int32)), .val (.int x2), .val (.int (1 : Int32)), .val (.int x1), .unset] [(.ref a12)])) (fun t k => XS.aload X24.here hx rfl (hb hby at_245) rfl rfl k) ?_
    obtain ⟨v25, T25, L25, X25, hQ25, st25⟩ := own_callV X24 hx hZ hown (hw _ (List.mem_of_getElem? (i := 32) rfl)) (hw _ (List.mem_of_getElem? (i := 33) rfl)) (hw _ (List.mem_of_getElem? (i := 35) rfl)) (notFace_of_selects (args := #[]) (mvT hZ (hw _ (List.mem_of_getElem? (i := 35) rfl)))) (hw _ (List.mem_of_getElem? (i := 34) rfl)) (hw _ (List.mem_of_getElem? (i := 36) rfl)) (hw _ (List.mem_of_getElem? (i := 2) rfl)) (by decide) e24 St23.1 (argsL := []) (rest := []) (rmE l Z a0 hw a12 h23 n0 Z23 St23.2.2.1) (by decide) (W := 0) (by decide) (by decide) (by decide) pd_6 rfl (pc := 247) (Ls := #[.val (.int x1), .val (.int x2), .val (.int x3), .val (.int md), .val (.int (0 : Int32)), .val (.ref a12), .val (.int x3), .val (.int (1 : Int32)), .val (.int x2), .val (.int (1 : Int32)), .val (.int x1), .unset]) (by rw [hml]; rfl) (Nat.le_of_eq rfl) (hb hby at_247)
    obtain ⟨rfl, M25, e25⟩ := hQ25
    have N25 := Fr.app N24 M25
    refine own_to (T25.setTop (mkF m 250 #[.val (.int x1), .val (.int x2), .val (.int x3), .val (.int md), .val (.int (0 : Int32)), .val (.ref a12), .val (.int x3), .val (.int (1 : Int32)), .val (.int x2), .val (.int (1 : Int32)), .val (.int x1), .unset] [(.int (1 : Int32))])) (fun t k => st25 t k) ?_
    refine own_to (T25.setTop (mkF m 253 #[.val (.int x1), .val (.int x2), .val (.int x3), .val (.int md), .val (.int (0 : Int32)), .val (.ref a12), .val (.int x3), .val (.int (1 : Int32)), .val (.int x2), .val (.int (1 : Int32)), .val (.int x1), .unset] [])) (fun t k => XS.ifNo X25.here hx rfl (hb hby at_250) rfl ((if0 _ _).trans (feq (by decide)).1) k) ?_
    refine own_to (T25.setTop (mkF m 254 #[.val (.int x1), .val (.int x2), .val (.int x3), .val (.int md), .val (.int (0 : Int32)), .val (.ref a12), .val (.int x3), .val (.int (1 : Int32)), .val (.int x2), .val (.int (1 : Int32)), .val (.int x1), .unset] [(.int (1 : Int32))])) (fun t k => XT.iconstV X25.here hx rfl (1 : Int32) (hb hby at_253) (by decide) k) ?_
    refine own_to (T25.setTop (mkF m 258 #[.val (.int x1), .val (.int x2), .val (.int x3), .val (.int md), .val (.int (0 : Int32)), .val (.ref a12), .val (.int x3), .val (.int (1 : Int32)), .val (.int x2), .val (.int (1 : Int32)), .val (.int x1), .unset] [(.int (1 : Int32))])) (fun t k => XS.goto X25.here hx rfl (pc0 := 254) (pc' := 258) rfl (hb hby at_254) (by decide) (by decide) k) ?_
    refine own_to (T25.setTop (mkF m 260 #[.val (.int x1), .val (.int x2), .val (.int x3), .val (.int md), .val (.int (0 : Int32)), .val (.ref a12), .val (.int x3), .val (.int (1 : Int32)), .val (.int x2), .val (.int (1 : Int32)), .val (.int x1), .val (.int (1 : Int32))] [])) (fun t k => XS.istore X25.here hx rfl (hb hby at_258) rfl (l' := #[.val (.int x1), .val (.int x2), .val (.int x3), .val (.int md), .val (.int (0 : Int32)), .val (.ref a12), .val (.int x3), .val (.int (1 : Int32)), .val (.int x2), .val (.int (1 : Int32)), .val (.int x1), .val (.int (1 : Int32))]) rfl k) ?_
    refine own_to (T25.setTop (mkF m 262 #[.val (.int x1), .val (.int x2), .val (.int x3), .val (.int md), .val (.int (0 : Int32)), .val (.ref a12), .val (.int x3), .val (.int (1 : Int32)), .val (.int x2), .val (.int (1 : Int32)), .val (.int x1), .val (.int (1 : Int32))] [(.int (1 : Int32))])) (fun t k => XS.iload X25.here hx rfl (hb hby at_260) rfl k) ?_
    refine own_to (T25.setTop (mkF m 265 #[.val (.int x1), .val (.int x2), .val (.int x3), .val (.int md), .val (.int (0 : Int32)), .val (.ref a12), .val (.int x3), .val (.int (1 : Int32)), .val (.int x2), .val (.int (1 : Int32)), .val (.int x1), .val (.int (1 : Int32))] [])) (fun t k => XS.ifNo X25.here hx rfl (hb hby at_262) rfl ((if0 _ _).trans (feq (by decide)).1) k) ?_
    refine own_to (T25.setTop (mkF m 267 #[.val (.int x1), .val (.int x2), .val (.int x3), .val (.int md), .val (.int (0 : Int32)), .val (.ref a12), .val (.int x3), .val (.int (1 : Int32)), .val (.int x2), .val (.int (1 : Int32)), .val (.int x1), .val (.int (1 : Int32))] [(.int (1 : Int32))])) (fun t k => XS.iload X25.here hx rfl (hb hby at_265) rfl k) ?_
    refine own_to (T25.setTop (mkF m 270 #[.val (.int x1), .val (.int x2), .val (.int x3), .val (.int md), .val (.int (0 : Int32)), .val (.ref a12), .val (.int x3), .val (.int (1 : Int32)), .val (.int x2), .val (.int (1 : Int32)), .val (.int x1), .val (.int (1 : Int32))] [])) (fun t k => XS.ifNo X25.here hx rfl (hb hby at_267) rfl ((if0 _ _).trans (feq (by decide)).1) k) ?_
    refine own_to (T25.setTop (mkF m 272 #[.val (.int x1), .val (.int x2), .val (.int x3), .val (.int md), .val (.int (0 : Int32)), .val (.ref a12), .val (.int x3), .val (.int (1 : Int32)), .val (.int x2), .val (.int (1 : Int32)), .val (.int x1), .val (.int (1 : Int32))] [(.int (1 : Int32))])) (fun t k => XS.iload X25.here hx rfl (hb hby at_270) rfl k) ?_
    refine own_to (T25.setTop (mkF m 275 #[.val (.int x1), .val (.int x2), .val (.int x3), .val (.int md), .val (.int (0 : Int32)), .val (.ref a12), .val (.int x3), .val (.int (1 : Int32)), .val (.int x2), .val (.int (1 : Int32)), .val (.int x1), .val (.int (1 : Int32))] [])) (fun t k => XS.ifNo X25.here hx rfl (hb hby at_272) rfl ((if0 _ _).trans (feq (by decide)).1) k) ?_
    refine own_to (T25.setTop (mkF m 276 #[.val (.int x1), .val (.int x2), .val (.int x3), .val (.int md), .val (.int (0 : Int32)), .val (.ref a12), .val (.int x3), .val (.int (1 : Int32)), .val (.int x2), .val (.int (1 : Int32)), .val (.int x1), .val (.int (1 : Int32))] [(.int (1 : Int32))])) (fun t k => XT.iconstV X25.here hx rfl (1 : Int32) (hb hby at_275) (by decide) k) ?_
    refine own_to (T25.setTop (mkF m 280 #[.val (.int x1), .val (.int x2), .val (.int x3), .val (.int md), .val (.int (0 : Int32)), .val (.ref a12), .val (.int x3), .val (.int (1 : Int32)), .val (.int x2), .val (.int (1 : Int32)), .val (.int x1), .val (.int (1 : Int32))] [(.int (1 : Int32))])) (fun t k => XS.goto X25.here hx rfl (pc0 := 276) (pc' := 280) rfl (hb hby at_276) (by decide) (by decide) k) ?_
    exact own_retZ X25 hx hret hk (i' := (1 : Int32)) (hb hby at_280) (by decide) (by decide) (by decide) ⟨rfl, N25⟩
  · -- c11 no
    refine own_to (s₁.setTop (mkF m 6 #[.val (.int x1), .val (.int x2), .val (.int x3), .val (.int md), .unset, .unset, .unset, .unset, .unset, .unset, .unset, .unset] [])) (fun t k => XS.ifNo X0.here hx rfl (hb hby at_3) rfl ((if0 _ _).trans (feq c11).1) k) ?_
    refine own_to (s₁.setTop (mkF m 7 #[.val (.int x1), .val (.int x2), .val (.int x3), .val (.int md), .unset, .unset, .unset, .unset, .unset, .unset, .unset, .unset] [(.int (1 : Int32))])) (fun t k => XT.iconstV X0.here hx rfl (1 : Int32) (hb hby at_6) (by decide) k) ?_
    refine own_to (s₁.setTop (mkF m 11 #[.val (.int x1), .val (.int x2), .val (.int x3), .val (.int md), .unset, .unset, .unset, .unset, .unset, .unset, .unset, .unset] [(.int (1 : Int32))])) (fun t k => XS.goto X0.here hx rfl (pc0 := 7) (pc' := 11) rfl (hb hby at_7) (by decide) (by decide) k) ?_
    refine own_to (s₁.setTop (mkF m 13 #[.val (.int x1), .val (.int x2), .val (.int x3), .val (.int md), .val (.int (1 : Int32)), .unset, .unset, .unset, .unset, .unset, .unset, .unset] [])) (fun t k => XS.istore X0.here hx rfl (hb hby at_11) rfl (l' := #[.val (.int x1), .val (.int x2), .val (.int x3), .val (.int md), .val (.int (1 : Int32)), .unset, .unset, .unset, .unset, .unset, .unset, .unset]) rfl k) ?_
    obtain ⟨T26, h26, X26, e26, E26, A26, D26, -, st26⟩ := newO X0 hx hZ hown (hw _ (List.mem_of_getElem? (i := 0) rfl)) (hw _ (List.mem_of_getElem? (i := 1) rfl)) (hw _ (List.mem_of_getElem? (i := 2) rfl)) e0 (g := (mkF m 13 #[.val (.int x1), .val (.int x2), .val (.int x3), .val (.int md), .val (.int (1 : Int32)), .unset, .unset, .unset, .unset, .unset, .unset, .unset] [])) rfl (hb hby at_13) (by decide) (by decide)
    obtain ⟨a26, g26⟩ : ∃ z, z = h0.size := ⟨_, rfl⟩
    rw [← g26] at A26 D26 st26
    have Z26 : n0 ≤ h26.size := Nat.le_trans Z0 E26.1
    have ge26 : n0 ≤ a26 := Nat.le_trans Z0 (Nat.le_of_eq g26.symm)
    have F27 : Fld Z h26 a26 "com/example/amberroot/amberroot/IntStack" "pages" "[[I" .null := D26 (Or.inl (hw _ (List.mem_of_getElem? (i := 14) rfl))) (ty := (.array (.array .int))) (by rfl)
    have F28 : Fld Z h26 a26 "com/example/amberroot/amberroot/IntStack" "size" "I" (.int (0 : Int32)) := D26 (Or.inl (hw _ (List.mem_of_getElem? (i := 21) rfl))) (ty := .int) (by decide)
    refine own_to (T26.setTop (mkF m 16 #[.val (.int x1), .val (.int x2), .val (.int x3), .val (.int md), .val (.int (1 : Int32)), .unset, .unset, .unset, .unset, .unset, .unset, .unset] [(.ref a26)])) (fun t k => st26 t k) ?_
    refine own_to (T26.setTop (mkF m 17 #[.val (.int x1), .val (.int x2), .val (.int x3), .val (.int md), .val (.int (1 : Int32)), .unset, .unset, .unset, .unset, .unset, .unset, .unset] [(.ref a26), (.ref a26)])) (fun t k => XS.dup X26.here hx rfl (hb hby at_16) rfl rfl k) ?_
    obtain ⟨v29, T29, L29, X29, hQ29, st29⟩ := own_callN X26 hx hZ hown rfl (hw _ (List.mem_of_getElem? (i := 3) rfl)) (hw _ (List.mem_of_getElem? (i := 4) rfl)) (hw _ (List.mem_of_getElem? (i := 5) rfl)) (hw _ (List.mem_of_getElem? (i := 2) rfl)) (by decide) e26 (b := a26) (argsL := []) (rest := [(.ref a26)]) (rmI l Z a0 hw a26 h26 n0 Z26 ge26 A26 F27 F28) (by decide) (W := 1) (by decide) (by decide) (by decide) pd_1 rfl (pc := 17) (Ls := #[.val (.int x1), .val (.int x2), .val (.int x3), .val (.int md), .val (.int (1 : Int32)), .unset, .unset, .unset, .unset, .unset, .unset, .unset]) (by rw [hml]; rfl) (Nat.le_of_eq rfl) (hb hby at_17)
    obtain ⟨h29, e29⟩ : ∃ z, T29.heap = z := ⟨_, rfl⟩
    rw [e29] at hQ29
    obtain ⟨pg29, bk29, kp29, kb29, rfl, M29, St29, Ne29, Z29⟩ := hQ29
    have N29 := Fr.app N0 M29
    refine own_to (T29.setTop (mkF m 20 #[.val (.int x1), .val (.int x2), .val (.int x3), .val (.int md), .val (.int (1 : Int32)), .unset, .unset, .unset, .unset, .unset, .unset, .unset] [(.ref a26)])) (fun t k => st29 t k) ?_
    refine own_to (T29.setTop (mkF m 22 #[.val (.int x1), .val (.int x2), .val (.int x3), .val (.int md), .val (.int (1 : Int32)), .val (.ref a26), .unset, .unset, .unset, .unset, .unset, .unset] [])) (fun t k => XS.astore X29.here hx rfl (hb hby at_20) rfl rfl (l' := #[.val (.int x1), .val (.int x2), .val (.int x3), .val (.int md), .val (.int (1 : Int32)), .val (.ref a26), .unset, .unset, .unset, .unset, .unset, .unset]) rfl k) ?_
    refine own_to (T29.setTop (mkF m 24 #[.val (.int x1), .val (.int x2), .val (.int x3), .val (.int md), .val (.int (1 : Int32)), .val (.ref a26), .unset, .unset, .unset, .unset, .unset, .unset] [(.ref a26)])) (fun t k => XS.aload X29.here hx rfl (hb hby at_22) rfl rfl k) ?_
    refine own_to (T29.setTop (mkF m 25 #[.val (.int x1), .val (.int x2), .val (.int x3), .val (.int md), .val (.int (1 : Int32)), .val (.ref a26), .unset, .unset, .unset, .unset, .unset, .unset] [(.int x1), (.ref a26)])) (fun t k => XS.iloadN X29.here hx rfl (hb hby at_24) rfl k) ?_
    obtain ⟨v30, T30, L30, X30, hQ30, st30⟩ := own_callV X29 hx hZ hown (hw _ (List.mem_of_getElem? (i := 15) rfl)) (hw _ (List.mem_of_getElem? (i := 16) rfl)) (hw _ (List.mem_of_getElem? (i := 18) rfl)) (notFace_of_selects (args := #[]) (mvT hZ (hw _ (List.mem_of_getElem? (i := 18) rfl)))) (hw _ (List.mem_of_getElem? (i := 17) rfl)) (hw _ (List.mem_of_getElem? (i := 19) rfl)) (hw _ (List.mem_of_getElem? (i := 2) rfl)) (by decide) e29 St29.1 (argsL := [(.int x1)]) (rest := []) (rmP0 l Z a0 hw a26 pg29 bk29 kp29 kb29 0 0 0 x1 h29 n0 Z29 St29 Ne29) (by decide) (W := 0) (by decide) (by decide) (by decide) pd_3 rfl (pc := 25) (Ls := #[.val (.int x1), .val (.int x2), .val (.int x3), .val (.int md), .val (.int (1 : Int32)), .val (.ref a26), .unset, .unset, .unset, .unset, .unset, .unset]) (by rw [hml]; rfl) (Nat.le_of_eq rfl) (hb hby at_25)
    obtain ⟨h30, e30⟩ : ∃ z, T30.heap = z := ⟨_, rfl⟩
    rw [e30] at hQ30
    obtain ⟨rfl, M30, St30, Z30⟩ := hQ30
    have N30 := Fr.app N29 M30
    refine own_to (T30.setTop (mkF m 28 #[.val (.int x1), .val (.int x2), .val (.int x3), .val (.int md), .val (.int (1 : Int32)), .val (.ref a26), .unset, .unset, .unset, .unset, .unset, .unset] [])) (fun t k => st30 t k) ?_
    refine own_to (T30.setTop (mkF m 30 #[.val (.int x1), .val (.int x2), .val (.int x3), .val (.int md), .val (.int (1 : Int32)), .val (.ref a26), .unset, .unset, .unset, .unset, .unset, .unset] [(.ref a26)])) (fun t k => XS.aload X30.here hx rfl (hb hby at_28) rfl rfl k) ?_
    refine own_to (T30.setTop (mkF m 31 #[.val (.int x1), .val (.int x2), .val (.int x3), .val (.int md), .val (.int (1 : Int32)), .val (.ref a26), .unset, .unset, .unset, .unset, .unset, .unset] [(.int x2), (.ref a26)])) (fun t k => XS.iloadN X30.here hx rfl (hb hby at_30) rfl k) ?_
    obtain ⟨v31, T31, L31, X31, hQ31, st31⟩ := own_callV X30 hx hZ hown (hw _ (List.mem_of_getElem? (i := 15) rfl)) (hw _ (List.mem_of_getElem? (i := 16) rfl)) (hw _ (List.mem_of_getElem? (i := 18) rfl)) (notFace_of_selects (args := #[]) (mvT hZ (hw _ (List.mem_of_getElem? (i := 18) rfl)))) (hw _ (List.mem_of_getElem? (i := 17) rfl)) (hw _ (List.mem_of_getElem? (i := 19) rfl)) (hw _ (List.mem_of_getElem? (i := 2) rfl)) (by decide) e30 St30.1 (argsL := [(.int x2)]) (rest := []) (rmP1 l Z a0 hw a26 pg29 bk29 kp29 kb29 x1 0 0 x2 h30 n0 Z30 St30 Ne29) (by decide) (W := 0) (by decide) (by decide) (by decide) pd_3 rfl (pc := 31) (Ls := #[.val (.int x1), .val (.int x2), .val (.int x3), .val (.int md), .val (.int (1 : Int32)), .val (.ref a26), .unset, .unset, .unset, .unset, .unset, .unset]) (by rw [hml]; rfl) (Nat.le_of_eq rfl) (hb hby at_31)
    obtain ⟨h31, e31⟩ : ∃ z, T31.heap = z := ⟨_, rfl⟩
    rw [e31] at hQ31
    obtain ⟨rfl, M31, St31, Z31⟩ := hQ31
    have N31 := Fr.app N30 M31
    refine own_to (T31.setTop (mkF m 34 #[.val (.int x1), .val (.int x2), .val (.int x3), .val (.int md), .val (.int (1 : Int32)), .val (.ref a26), .unset, .unset, .unset, .unset, .unset, .unset] [])) (fun t k => st31 t k) ?_
    refine own_to (T31.setTop (mkF m 36 #[.val (.int x1), .val (.int x2), .val (.int x3), .val (.int md), .val (.int (1 : Int32)), .val (.ref a26), .unset, .unset, .unset, .unset, .unset, .unset] [(.int (1 : Int32))])) (fun t k => XS.iload X31.here hx rfl (hb hby at_34) rfl k) ?_
    refine own_to (T31.setTop (mkF m 39 #[.val (.int x1), .val (.int x2), .val (.int x3), .val (.int md), .val (.int (1 : Int32)), .val (.ref a26), .unset, .unset, .unset, .unset, .unset, .unset] [])) (fun t k => XS.ifNo X31.here hx rfl (hb hby at_36) rfl ((if0 _ _).trans (feq (by decide)).1) k) ?_
    refine own_to (T31.setTop (mkF m 41 #[.val (.int x1), .val (.int x2), .val (.int x3), .val (.int md), .val (.int (1 : Int32)), .val (.ref a26), .unset, .unset, .unset, .unset, .unset, .unset] [(.ref a26)])) (fun t k => XS.aload X31.here hx rfl (hb hby at_39) rfl rfl k) ?_
    obtain ⟨v32, T32, L32, X32, hQ32, st32⟩ := own_callV X31 hx hZ hown (hw _ (List.mem_of_getElem? (i := 22) rfl)) (hw _ (List.mem_of_getElem? (i := 23) rfl)) (hw _ (List.mem_of_getElem? (i := 25) rfl)) (notFace_of_selects (args := #[]) (mvT hZ (hw _ (List.mem_of_getElem? (i := 25) rfl)))) (hw _ (List.mem_of_getElem? (i := 24) rfl)) (hw _ (List.mem_of_getElem? (i := 26) rfl)) (hw _ (List.mem_of_getElem? (i := 2) rfl)) (by decide) e31 St31.1 (argsL := []) (rest := []) (rmO2 l Z a0 hw a26 pg29 bk29 kp29 kb29 x1 x2 0 h31 n0 Z31 St31 Ne29) (by decide) (W := 0) (by decide) (by decide) (by decide) pd_4 rfl (pc := 41) (Ls := #[.val (.int x1), .val (.int x2), .val (.int x3), .val (.int md), .val (.int (1 : Int32)), .val (.ref a26), .unset, .unset, .unset, .unset, .unset, .unset]) (by rw [hml]; rfl) (Nat.le_of_eq rfl) (hb hby at_41)
    obtain ⟨h32, e32⟩ : ∃ z, T32.heap = z := ⟨_, rfl⟩
    rw [e32] at hQ32
    obtain ⟨rfl, M32, St32, Z32⟩ := hQ32
    have N32 := Fr.app N31 M32
    refine own_to (T32.setTop (mkF m 44 #[.val (.int x1), .val (.int x2), .val (.int x3), .val (.int md), .val (.int (1 : Int32)), .val (.ref a26), .unset, .unset, .unset, .unset, .unset, .unset] [(.int x2)])) (fun t k => st32 t k) ?_
    refine own_to (T32.setTop (mkF m 46 #[.val (.int x1), .val (.int x2), .val (.int x3), .val (.int md), .val (.int (1 : Int32)), .val (.ref a26), .val (.int x2), .unset, .unset, .unset, .unset, .unset] [])) (fun t k => XS.istore X32.here hx rfl (hb hby at_44) rfl (l' := #[.val (.int x1), .val (.int x2), .val (.int x3), .val (.int md), .val (.int (1 : Int32)), .val (.ref a26), .val (.int x2), .unset, .unset, .unset, .unset, .unset]) rfl k) ?_
    refine own_to (T32.setTop (mkF m 48 #[.val (.int x1), .val (.int x2), .val (.int x3), .val (.int md), .val (.int (1 : Int32)), .val (.ref a26), .val (.int x2), .unset, .unset, .unset, .unset, .unset] [(.int x2)])) (fun t k => XS.iload X32.here hx rfl (hb hby at_46) rfl k) ?_
    refine own_to (T32.setTop (mkF m 49 #[.val (.int x1), .val (.int x2), .val (.int x3), .val (.int md), .val (.int (1 : Int32)), .val (.ref a26), .val (.int x2), .unset, .unset, .unset, .unset, .unset] [(.int x2), (.int x2)])) (fun t k => XS.iloadN X32.here hx rfl (hb hby at_48) rfl k) ?_
    refine own_to (T32.setTop (mkF m 52 #[.val (.int x1), .val (.int x2), .val (.int x3), .val (.int md), .val (.int (1 : Int32)), .val (.ref a26), .val (.int x2), .unset, .unset, .unset, .unset, .unset] [])) (fun t k => XS.icmpNo X32.here hx rfl (hb hby at_49) rfl (teq rfl).2 k) ?_
    refine own_to (T32.setTop (mkF m 54 #[.val (.int x1), .val (.int x2), .val (.int x3), .val (.int md), .val (.int (1 : Int32)), .val (.ref a26), .val (.int x2), .unset, .unset, .unset, .unset, .unset] [(.ref a26)])) (fun t k => XS.aload X32.here hx rfl (hb hby at_52) rfl rfl k) ?_
    obtain ⟨v33, T33, L33, X33, hQ33, st33⟩ := own_callV X32 hx hZ hown (hw _ (List.mem_of_getElem? (i := 27) rfl)) (hw _ (List.mem_of_getElem? (i := 28) rfl)) (hw _ (List.mem_of_getElem? (i := 30) rfl)) (notFace_of_selects (args := #[]) (mvT hZ (hw _ (List.mem_of_getElem? (i := 30) rfl)))) (hw _ (List.mem_of_getElem? (i := 29) rfl)) (hw _ (List.mem_of_getElem? (i := 31) rfl)) (hw _ (List.mem_of_getElem? (i := 2) rfl)) (by decide) e32 St32.1 (argsL := []) (rest := []) (rmS l Z a0 hw a26 1 h32 n0 Z32 St32.2.2.1) (by decide) (W := 0) (by decide) (by decide) (by decide) pd_5 rfl (pc := 54) (Ls := #[.val (.int x1), .val (.int x2), .val (.int x3), .val (.int md), .val (.int (1 : Int32)), .val (.ref a26), .val (.int x2), .unset, .unset, .unset, .unset, .unset]) (by rw [hml]; rfl) (Nat.le_of_eq rfl) (hb hby at_54)
    obtain ⟨rfl, M33, e33⟩ := hQ33
    have N33 := Fr.app N32 M33
    refine own_to (T33.setTop (mkF m 57 #[.val (.int x1), .val (.int x2), .val (.int x3), .val (.int md), .val (.int (1 : Int32)), .val (.ref a26), .val (.int x2), .unset, .unset, .unset, .unset, .unset] [(.int (1 : Int32))])) (fun t k => st33 t k) ?_
    refine own_to (T33.setTop (mkF m 58 #[.val (.int x1), .val (.int x2), .val (.int x3), .val (.int md), .val (.int (1 : Int32)), .val (.ref a26), .val (.int x2), .unset, .unset, .unset, .unset, .unset] [(.int (1 : Int32)), (.int (1 : Int32))])) (fun t k => XT.iconstV X33.here hx rfl (1 : Int32) (hb hby at_57) (by decide) k) ?_
    refine own_to (T33.setTop (mkF m 61 #[.val (.int x1), .val (.int x2), .val (.int x3), .val (.int md), .val (.int (1 : Int32)), .val (.ref a26), .val (.int x2), .unset, .unset, .unset, .unset, .unset] [])) (fun t k => XS.icmpNo X33.here hx rfl (hb hby at_58) rfl (teq rfl).2 k) ?_
    refine own_to (T33.setTop (mkF m 62 #[.val (.int x1), .val (.int x2), .val (.int x3), .val (.int md), .val (.int (1 : Int32)), .val (.ref a26), .val (.int x2), .unset, .unset, .unset, .unset, .unset] [(.int (1 : Int32))])) (fun t k => XT.iconstV X33.here hx rfl (1 : Int32) (hb hby at_61) (by decide) k) ?_
    refine own_to (T33.setTop (mkF m 66 #[.val (.int x1), .val (.int x2), .val (.int x3), .val (.int md), .val (.int (1 : Int32)), .val (.ref a26), .val (.int x2), .unset, .unset, .unset, .unset, .unset] [(.int (1 : Int32))])) (fun t k => XS.goto X33.here hx rfl (pc0 := 62) (pc' := 66) rfl (hb hby at_62) (by decide) (by decide) k) ?_
    refine own_to (T33.setTop (mkF m 68 #[.val (.int x1), .val (.int x2), .val (.int x3), .val (.int md), .val (.int (1 : Int32)), .val (.ref a26), .val (.int x2), .val (.int (1 : Int32)), .unset, .unset, .unset, .unset] [])) (fun t k => XS.istore X33.here hx rfl (hb hby at_66) rfl (l' := #[.val (.int x1), .val (.int x2), .val (.int x3), .val (.int md), .val (.int (1 : Int32)), .val (.ref a26), .val (.int x2), .val (.int (1 : Int32)), .unset, .unset, .unset, .unset]) rfl k) ?_
    refine own_to (T33.setTop (mkF m 70 #[.val (.int x1), .val (.int x2), .val (.int x3), .val (.int md), .val (.int (1 : Int32)), .val (.ref a26), .val (.int x2), .val (.int (1 : Int32)), .unset, .unset, .unset, .unset] [(.ref a26)])) (fun t k => XS.aload X33.here hx rfl (hb hby at_68) rfl rfl k) ?_
    refine own_to (T33.setTop (mkF m 71 #[.val (.int x1), .val (.int x2), .val (.int x3), .val (.int md), .val (.int (1 : Int32)), .val (.ref a26), .val (.int x2), .val (.int (1 : Int32)), .unset, .unset, .unset, .unset] [(.int x3), (.ref a26)])) (fun t k => XS.iloadN X33.here hx rfl (hb hby at_70) rfl k) ?_
    obtain ⟨v34, T34, L34, X34, hQ34, st34⟩ := own_callV X33 hx hZ hown (hw _ (List.mem_of_getElem? (i := 15) rfl)) (hw _ (List.mem_of_getElem? (i := 16) rfl)) (hw _ (List.mem_of_getElem? (i := 18) rfl)) (notFace_of_selects (args := #[]) (mvT hZ (hw _ (List.mem_of_getElem? (i := 18) rfl)))) (hw _ (List.mem_of_getElem? (i := 17) rfl)) (hw _ (List.mem_of_getElem? (i := 19) rfl)) (hw _ (List.mem_of_getElem? (i := 2) rfl)) (by decide) e33 St32.1 (argsL := [(.int x3)]) (rest := []) (rmP1 l Z a0 hw a26 pg29 bk29 kp29 kb29 x1 x2 0 x3 h32 n0 Z32 St32 Ne29) (by decide) (W := 0) (by decide) (by decide) (by decide) pd_3 rfl (pc := 71) (Ls := #[.val (.int x1), .val (.int x2), .val (.int x3), .val (.int md), .val (.int (1 : Int32)), .val (.ref a26), .val (.int x2), .val (.int (1 : Int32)), .unset, .unset, .unset, .unset]) (by rw [hml]; rfl) (Nat.le_of_eq rfl) (hb hby at_71)
    obtain ⟨h34, e34⟩ : ∃ z, T34.heap = z := ⟨_, rfl⟩
    rw [e34] at hQ34
    obtain ⟨rfl, M34, St34, Z34⟩ := hQ34
    have N34 := Fr.app N33 M34
    refine own_to (T34.setTop (mkF m 74 #[.val (.int x1), .val (.int x2), .val (.int x3), .val (.int md), .val (.int (1 : Int32)), .val (.ref a26), .val (.int x2), .val (.int (1 : Int32)), .unset, .unset, .unset, .unset] [])) (fun t k => st34 t k) ?_
    refine own_to (T34.setTop (mkF m 76 #[.val (.int x1), .val (.int x2), .val (.int x3), .val (.int md), .val (.int (1 : Int32)), .val (.ref a26), .val (.int x2), .val (.int (1 : Int32)), .unset, .unset, .unset, .unset] [(.ref a26)])) (fun t k => XS.aload X34.here hx rfl (hb hby at_74) rfl rfl k) ?_
    obtain ⟨v35, T35, L35, X35, hQ35, st35⟩ := own_callV X34 hx hZ hown (hw _ (List.mem_of_getElem? (i := 22) rfl)) (hw _ (List.mem_of_getElem? (i := 23) rfl)) (hw _ (List.mem_of_getElem? (i := 25) rfl)) (notFace_of_selects (args := #[]) (mvT hZ (hw _ (List.mem_of_getElem? (i := 25) rfl)))) (hw _ (List.mem_of_getElem? (i := 24) rfl)) (hw _ (List.mem_of_getElem? (i := 26) rfl)) (hw _ (List.mem_of_getElem? (i := 2) rfl)) (by decide) e34 St34.1 (argsL := []) (rest := []) (rmO2 l Z a0 hw a26 pg29 bk29 kp29 kb29 x1 x3 0 h34 n0 Z34 St34 Ne29) (by decide) (W := 0) (by decide) (by decide) (by decide) pd_4 rfl (pc := 76) (Ls := #[.val (.int x1), .val (.int x2), .val (.int x3), .val (.int md), .val (.int (1 : Int32)), .val (.ref a26), .val (.int x2), .val (.int (1 : Int32)), .unset, .unset, .unset, .unset]) (by rw [hml]; rfl) (Nat.le_of_eq rfl) (hb hby at_76)
    obtain ⟨h35, e35⟩ : ∃ z, T35.heap = z := ⟨_, rfl⟩
    rw [e35] at hQ35
    obtain ⟨rfl, M35, St35, Z35⟩ := hQ35
    have N35 := Fr.app N34 M35
    refine own_to (T35.setTop (mkF m 79 #[.val (.int x1), .val (.int x2), .val (.int x3), .val (.int md), .val (.int (1 : Int32)), .val (.ref a26), .val (.int x2), .val (.int (1 : Int32)), .unset, .unset, .unset, .unset] [(.int x3)])) (fun t k => st35 t k) ?_
    refine own_to (T35.setTop (mkF m 81 #[.val (.int x1), .val (.int x2), .val (.int x3), .val (.int md), .val (.int (1 : Int32)), .val (.ref a26), .val (.int x2), .val (.int (1 : Int32)), .val (.int x3), .unset, .unset, .unset] [])) (fun t k => XS.istore X35.here hx rfl (hb hby at_79) rfl (l' := #[.val (.int x1), .val (.int x2), .val (.int x3), .val (.int md), .val (.int (1 : Int32)), .val (.ref a26), .val (.int x2), .val (.int (1 : Int32)), .val (.int x3), .unset, .unset, .unset]) rfl k) ?_
    refine own_to (T35.setTop (mkF m 83 #[.val (.int x1), .val (.int x2), .val (.int x3), .val (.int md), .val (.int (1 : Int32)), .val (.ref a26), .val (.int x2), .val (.int (1 : Int32)), .val (.int x3), .unset, .unset, .unset] [(.int x3)])) (fun t k => XS.iload X35.here hx rfl (hb hby at_81) rfl k) ?_
    refine own_to (T35.setTop (mkF m 84 #[.val (.int x1), .val (.int x2), .val (.int x3), .val (.int md), .val (.int (1 : Int32)), .val (.ref a26), .val (.int x2), .val (.int (1 : Int32)), .val (.int x3), .unset, .unset, .unset] [(.int x3), (.int x3)])) (fun t k => XS.iloadN X35.here hx rfl (hb hby at_83) rfl k) ?_
    refine own_to (T35.setTop (mkF m 87 #[.val (.int x1), .val (.int x2), .val (.int x3), .val (.int md), .val (.int (1 : Int32)), .val (.ref a26), .val (.int x2), .val (.int (1 : Int32)), .val (.int x3), .unset, .unset, .unset] [])) (fun t k => XS.icmpNo X35.here hx rfl (hb hby at_84) rfl (teq rfl).2 k) ?_
    refine own_to (T35.setTop (mkF m 89 #[.val (.int x1), .val (.int x2), .val (.int x3), .val (.int md), .val (.int (1 : Int32)), .val (.ref a26), .val (.int x2), .val (.int (1 : Int32)), .val (.int x3), .unset, .unset, .unset] [(.ref a26)])) (fun t k => XS.aload X35.here hx rfl (hb hby at_87) rfl rfl k) ?_
    obtain ⟨v36, T36, L36, X36, hQ36, st36⟩ := own_callV X35 hx hZ hown (hw _ (List.mem_of_getElem? (i := 27) rfl)) (hw _ (List.mem_of_getElem? (i := 28) rfl)) (hw _ (List.mem_of_getElem? (i := 30) rfl)) (notFace_of_selects (args := #[]) (mvT hZ (hw _ (List.mem_of_getElem? (i := 30) rfl)))) (hw _ (List.mem_of_getElem? (i := 29) rfl)) (hw _ (List.mem_of_getElem? (i := 31) rfl)) (hw _ (List.mem_of_getElem? (i := 2) rfl)) (by decide) e35 St35.1 (argsL := []) (rest := []) (rmS l Z a0 hw a26 1 h35 n0 Z35 St35.2.2.1) (by decide) (W := 0) (by decide) (by decide) (by decide) pd_5 rfl (pc := 89) (Ls := #[.val (.int x1), .val (.int x2), .val (.int x3), .val (.int md), .val (.int (1 : Int32)), .val (.ref a26), .val (.int x2), .val (.int (1 : Int32)), .val (.int x3), .unset, .unset, .unset]) (by rw [hml]; rfl) (Nat.le_of_eq rfl) (hb hby at_89)
    obtain ⟨rfl, M36, e36⟩ := hQ36
    have N36 := Fr.app N35 M36
    refine own_to (T36.setTop (mkF m 92 #[.val (.int x1), .val (.int x2), .val (.int x3), .val (.int md), .val (.int (1 : Int32)), .val (.ref a26), .val (.int x2), .val (.int (1 : Int32)), .val (.int x3), .unset, .unset, .unset] [(.int (1 : Int32))])) (fun t k => st36 t k) ?_
    refine own_to (T36.setTop (mkF m 93 #[.val (.int x1), .val (.int x2), .val (.int x3), .val (.int md), .val (.int (1 : Int32)), .val (.ref a26), .val (.int x2), .val (.int (1 : Int32)), .val (.int x3), .unset, .unset, .unset] [(.int (1 : Int32)), (.int (1 : Int32))])) (fun t k => XT.iconstV X36.here hx rfl (1 : Int32) (hb hby at_92) (by decide) k) ?_
    refine own_to (T36.setTop (mkF m 96 #[.val (.int x1), .val (.int x2), .val (.int x3), .val (.int md), .val (.int (1 : Int32)), .val (.ref a26), .val (.int x2), .val (.int (1 : Int32)), .val (.int x3), .unset, .unset, .unset] [])) (fun t k => XS.icmpNo X36.here hx rfl (hb hby at_93) rfl (teq rfl).2 k) ?_
    refine own_to (T36.setTop (mkF m 97 #[.val (.int x1), .val (.int x2), .val (.int x3), .val (.int md), .val (.int (1 : Int32)), .val (.ref a26), .val (.int x2), .val (.int (1 : Int32)), .val (.int x3), .unset, .unset, .unset] [(.int (1 : Int32))])) (fun t k => XT.iconstV X36.here hx rfl (1 : Int32) (hb hby at_96) (by decide) k) ?_
    refine own_to (T36.setTop (mkF m 101 #[.val (.int x1), .val (.int x2), .val (.int x3), .val (.int md), .val (.int (1 : Int32)), .val (.ref a26), .val (.int x2), .val (.int (1 : Int32)), .val (.int x3), .unset, .unset, .unset] [(.int (1 : Int32))])) (fun t k => XS.goto X36.here hx rfl (pc0 := 97) (pc' := 101) rfl (hb hby at_97) (by decide) (by decide) k) ?_
    refine own_to (T36.setTop (mkF m 103 #[.val (.int x1), .val (.int x2), .val (.int x3), .val (.int md), .val (.int (1 : Int32)), .val (.ref a26), .val (.int x2), .val (.int (1 : Int32)), .val (.int x3), .val (.int (1 : Int32)), .unset, .unset] [])) (fun t k => XS.istore X36.here hx rfl (hb hby at_101) rfl (l' := #[.val (.int x1), .val (.int x2), .val (.int x3), .val (.int md), .val (.int (1 : Int32)), .val (.ref a26), .val (.int x2), .val (.int (1 : Int32)), .val (.int x3), .val (.int (1 : Int32)), .unset, .unset]) rfl k) ?_
    refine own_to (T36.setTop (mkF m 105 #[.val (.int x1), .val (.int x2), .val (.int x3), .val (.int md), .val (.int (1 : Int32)), .val (.ref a26), .val (.int x2), .val (.int (1 : Int32)), .val (.int x3), .val (.int (1 : Int32)), .unset, .unset] [(.ref a26)])) (fun t k => XS.aload X36.here hx rfl (hb hby at_103) rfl rfl k) ?_
    obtain ⟨v37, T37, L37, X37, hQ37, st37⟩ := own_callV X36 hx hZ hown (hw _ (List.mem_of_getElem? (i := 22) rfl)) (hw _ (List.mem_of_getElem? (i := 23) rfl)) (hw _ (List.mem_of_getElem? (i := 25) rfl)) (notFace_of_selects (args := #[]) (mvT hZ (hw _ (List.mem_of_getElem? (i := 25) rfl)))) (hw _ (List.mem_of_getElem? (i := 24) rfl)) (hw _ (List.mem_of_getElem? (i := 26) rfl)) (hw _ (List.mem_of_getElem? (i := 2) rfl)) (by decide) e36 St35.1 (argsL := []) (rest := []) (rmO1 l Z a0 hw a26 pg29 bk29 kp29 kb29 x1 x3 0 h35 n0 Z35 St35 Ne29) (by decide) (W := 0) (by decide) (by decide) (by decide) pd_4 rfl (pc := 105) (Ls := #[.val (.int x1), .val (.int x2), .val (.int x3), .val (.int md), .val (.int (1 : Int32)), .val (.ref a26), .val (.int x2), .val (.int (1 : Int32)), .val (.int x3), .val (.int (1 : Int32)), .unset, .unset]) (by rw [hml]; rfl) (Nat.le_of_eq rfl) (hb hby at_105)
    obtain ⟨h37, e37⟩ : ∃ z, T37.heap = z := ⟨_, rfl⟩
    rw [e37] at hQ37
    obtain ⟨rfl, M37, St37, Z37⟩ := hQ37
    have N37 := Fr.app N36 M37
    refine own_to (T37.setTop (mkF m 108 #[.val (.int x1), .val (.int x2), .val (.int x3), .val (.int md), .val (.int (1 : Int32)), .val (.ref a26), .val (.int x2), .val (.int (1 : Int32)), .val (.int x3), .val (.int (1 : Int32)), .unset, .unset] [(.int x1)])) (fun t k => st37 t k) ?_
    refine own_to (T37.setTop (mkF m 110 #[.val (.int x1), .val (.int x2), .val (.int x3), .val (.int md), .val (.int (1 : Int32)), .val (.ref a26), .val (.int x2), .val (.int (1 : Int32)), .val (.int x3), .val (.int (1 : Int32)), .val (.int x1), .unset] [])) (fun t k => XS.istore X37.here hx rfl (hb hby at_108) rfl (l' := #[.val (.int x1), .val (.int x2), .val (.int x3), .val (.int md), .val (.int (1 : Int32)), .val (.ref a26), .val (.int x2), .val (.int (1 : Int32)), .val (.int x3), .val (.int (1 : Int32)), .val (.int x1), .unset]) rfl k) ?_
    refine own_to (T37.setTop (mkF m 112 #[.val (.int x1), .val (.int x2), .val (.int x3), .val (.int md), .val (.int (1 : Int32)), .val (.ref a26), .val (.int x2), .val (.int (1 : Int32)), .val (.int x3), .val (.int (1 : Int32)), .val (.int x1), .unset] [(.int x1)])) (fun t k => XS.iload X37.here hx rfl (hb hby at_110) rfl k) ?_
    refine own_to (T37.setTop (mkF m 113 #[.val (.int x1), .val (.int x2), .val (.int x3), .val (.int md), .val (.int (1 : Int32)), .val (.ref a26), .val (.int x2), .val (.int (1 : Int32)), .val (.int x3), .val (.int (1 : Int32)), .val (.int x1), .unset] [(.int x1), (.int x1)])) (fun t k => XS.iloadN X37.here hx rfl (hb hby at_112) rfl k) ?_
    refine own_to (T37.setTop (mkF m 116 #[.val (.int x1), .val (.int x2), .val (.int x3), .val (.int md), .val (.int (1 : Int32)), .val (.ref a26), .val (.int x2), .val (.int (1 : Int32)), .val (.int x3), .val (.int (1 : Int32)), .val (.int x1), .unset] [])) (fun t k => XS.icmpNo X37.here hx rfl (hb hby at_113) rfl (teq rfl).2 k) ?_
    refine own_to (T37.setTop (mkF m 118 #[.val (.int x1), .val (.int x2), .val (.int x3), .val (.int md), .val (.int (1 : Int32)), .val (.ref a26), .val (.int x2), .val (.int (1 : Int32)), .val (.int x3), .val (.int (1 : Int32)), .val (.int x1), .unset] [(.ref a26)])) (fun t k => XS.aload X37.here hx rfl (hb hby at_116) rfl rfl k) ?_
    obtain ⟨v38, T38, L38, X38, hQ38, st38⟩ := own_callV X37 hx hZ hown (hw _ (List.mem_of_getElem? (i := 27) rfl)) (hw _ (List.mem_of_getElem? (i := 28) rfl)) (hw _ (List.mem_of_getElem? (i := 30) rfl)) (notFace_of_selects (args := #[]) (mvT hZ (hw _ (List.mem_of_getElem? (i := 30) rfl)))) (hw _ (List.mem_of_getElem? (i := 29) rfl)) (hw _ (List.mem_of_getElem? (i := 31) rfl)) (hw _ (List.mem_of_getElem? (i := 2) rfl)) (by decide) e37 St37.1 (argsL := []) (rest := []) (rmS l Z a0 hw a26 0 h37 n0 Z37 St37.2.2.1) (by decide) (W := 0) (by decide) (by decide) (by decide) pd_5 rfl (pc := 118) (Ls := #[.val (.int x1), .val (.int x2), .val (.int x3), .val (.int md), .val (.int (1 : Int32)), .val (.ref a26), .val (.int x2), .val (.int (1 : Int32)), .val (.int x3), .val (.int (1 : Int32)), .val (.int x1), .unset]) (by rw [hml]; rfl) (Nat.le_of_eq rfl) (hb hby at_118)
    obtain ⟨rfl, M38, e38⟩ := hQ38
    have N38 := Fr.app N37 M38
    refine own_to (T38.setTop (mkF m 121 #[.val (.int x1), .val (.int x2), .val (.int x3), .val (.int md), .val (.int (1 : Int32)), .val (.ref a26), .val (.int x2), .val (.int (1 : Int32)), .val (.int x3), .val (.int (1 : Int32)), .val (.int x1), .unset] [(.int (0 : Int32))])) (fun t k => st38 t k) ?_
    refine own_to (T38.setTop (mkF m 124 #[.val (.int x1), .val (.int x2), .val (.int x3), .val (.int md), .val (.int (1 : Int32)), .val (.ref a26), .val (.int x2), .val (.int (1 : Int32)), .val (.int x3), .val (.int (1 : Int32)), .val (.int x1), .unset] [])) (fun t k => XS.ifNo X38.here hx rfl (hb hby at_121) rfl ((if0 _ _).trans (teq rfl).2) k) ?_
    refine own_to (T38.setTop (mkF m 126 #[.val (.int x1), .val (.int x2), .val (.int x3), .val (.int md), .val (.int (1 : Int32)), .val (.ref a26), .val (.int x2), .val (.int (1 : Int32)), .val (.int x3), .val (.int (1 : Int32)), .val (.int x1), .unset] [(.ref a26)])) (fun t k => XS.aload X38.here hx rfl (hb hby at_124) rfl rfl k) ?_
    obtain ⟨v39, T39, L39, X39, hQ39, st39⟩ := own_callV X38 hx hZ hown (hw _ (List.mem_of_getElem? (i := 32) rfl)) (hw _ (List.mem_of_getElem? (i := 33) rfl)) (hw _ (List.mem_of_getElem? (i := 35) rfl)) (notFace_of_selects (args := #[]) (mvT hZ (hw _ (List.mem_of_getElem? (i := 35) rfl)))) (hw _ (List.mem_of_getElem? (i := 34) rfl)) (hw _ (List.mem_of_getElem? (i := 36) rfl)) (hw _ (List.mem_of_getElem? (i := 2) rfl)) (by decide) e38 St37.1 (argsL := []) (rest := []) (rmE l Z a0 hw a26 h37 n0 Z37 St37.2.2.1) (by decide) (W := 0) (by decide) (by decide) (by decide) pd_6 rfl (pc := 126) (Ls := #[.val (.int x1), .val (.int x2), .val (.int x3), .val (.int md), .val (.int (1 : Int32)), .val (.ref a26), .val (.int x2), .val (.int (1 : Int32)), .val (.int x3), .val (.int (1 : Int32)), .val (.int x1), .unset]) (by rw [hml]; rfl) (Nat.le_of_eq rfl) (hb hby at_126)
    obtain ⟨rfl, M39, e39⟩ := hQ39
    have N39 := Fr.app N38 M39
    refine own_to (T39.setTop (mkF m 129 #[.val (.int x1), .val (.int x2), .val (.int x3), .val (.int md), .val (.int (1 : Int32)), .val (.ref a26), .val (.int x2), .val (.int (1 : Int32)), .val (.int x3), .val (.int (1 : Int32)), .val (.int x1), .unset] [(.int (1 : Int32))])) (fun t k => st39 t k) ?_
    refine own_to (T39.setTop (mkF m 132 #[.val (.int x1), .val (.int x2), .val (.int x3), .val (.int md), .val (.int (1 : Int32)), .val (.ref a26), .val (.int x2), .val (.int (1 : Int32)), .val (.int x3), .val (.int (1 : Int32)), .val (.int x1), .unset] [])) (fun t k => XS.ifNo X39.here hx rfl (hb hby at_129) rfl ((if0 _ _).trans (feq (by decide)).1) k) ?_
    refine own_to (T39.setTop (mkF m 133 #[.val (.int x1), .val (.int x2), .val (.int x3), .val (.int md), .val (.int (1 : Int32)), .val (.ref a26), .val (.int x2), .val (.int (1 : Int32)), .val (.int x3), .val (.int (1 : Int32)), .val (.int x1), .unset] [(.int (1 : Int32))])) (fun t k => XT.iconstV X39.here hx rfl (1 : Int32) (hb hby at_132) (by decide) k) ?_
    refine own_to (T39.setTop (mkF m 137 #[.val (.int x1), .val (.int x2), .val (.int x3), .val (.int md), .val (.int (1 : Int32)), .val (.ref a26), .val (.int x2), .val (.int (1 : Int32)), .val (.int x3), .val (.int (1 : Int32)), .val (.int x1), .unset] [(.int (1 : Int32))])) (fun t k => XS.goto X39.here hx rfl (pc0 := 133) (pc' := 137) rfl (hb hby at_133) (by decide) (by decide) k) ?_
    refine own_to (T39.setTop (mkF m 139 #[.val (.int x1), .val (.int x2), .val (.int x3), .val (.int md), .val (.int (1 : Int32)), .val (.ref a26), .val (.int x2), .val (.int (1 : Int32)), .val (.int x3), .val (.int (1 : Int32)), .val (.int x1), .val (.int (1 : Int32))] [])) (fun t k => XS.istore X39.here hx rfl (hb hby at_137) rfl (l' := #[.val (.int x1), .val (.int x2), .val (.int x3), .val (.int md), .val (.int (1 : Int32)), .val (.ref a26), .val (.int x2), .val (.int (1 : Int32)), .val (.int x3), .val (.int (1 : Int32)), .val (.int x1), .val (.int (1 : Int32))]) rfl k) ?_
    refine own_to (T39.setTop (mkF m 141 #[.val (.int x1), .val (.int x2), .val (.int x3), .val (.int md), .val (.int (1 : Int32)), .val (.ref a26), .val (.int x2), .val (.int (1 : Int32)), .val (.int x3), .val (.int (1 : Int32)), .val (.int x1), .val (.int (1 : Int32))] [(.int (1 : Int32))])) (fun t k => XS.iload X39.here hx rfl (hb hby at_139) rfl k) ?_
    refine own_to (T39.setTop (mkF m 144 #[.val (.int x1), .val (.int x2), .val (.int x3), .val (.int md), .val (.int (1 : Int32)), .val (.ref a26), .val (.int x2), .val (.int (1 : Int32)), .val (.int x3), .val (.int (1 : Int32)), .val (.int x1), .val (.int (1 : Int32))] [])) (fun t k => XS.ifNo X39.here hx rfl (hb hby at_141) rfl ((if0 _ _).trans (feq (by decide)).1) k) ?_
    refine own_to (T39.setTop (mkF m 146 #[.val (.int x1), .val (.int x2), .val (.int x3), .val (.int md), .val (.int (1 : Int32)), .val (.ref a26), .val (.int x2), .val (.int (1 : Int32)), .val (.int x3), .val (.int (1 : Int32)), .val (.int x1), .val (.int (1 : Int32))] [(.int (1 : Int32))])) (fun t k => XS.iload X39.here hx rfl (hb hby at_144) rfl k) ?_
    refine own_to (T39.setTop (mkF m 149 #[.val (.int x1), .val (.int x2), .val (.int x3), .val (.int md), .val (.int (1 : Int32)), .val (.ref a26), .val (.int x2), .val (.int (1 : Int32)), .val (.int x3), .val (.int (1 : Int32)), .val (.int x1), .val (.int (1 : Int32))] [])) (fun t k => XS.ifNo X39.here hx rfl (hb hby at_146) rfl ((if0 _ _).trans (feq (by decide)).1) k) ?_
    refine own_to (T39.setTop (mkF m 151 #[.val (.int x1), .val (.int x2), .val (.int x3), .val (.int md), .val (.int (1 : Int32)), .val (.ref a26), .val (.int x2), .val (.int (1 : Int32)), .val (.int x3), .val (.int (1 : Int32)), .val (.int x1), .val (.int (1 : Int32))] [(.int (1 : Int32))])) (fun t k => XS.iload X39.here hx rfl (hb hby at_149) rfl k) ?_
    refine own_to (T39.setTop (mkF m 154 #[.val (.int x1), .val (.int x2), .val (.int x3), .val (.int md), .val (.int (1 : Int32)), .val (.ref a26), .val (.int x2), .val (.int (1 : Int32)), .val (.int x3), .val (.int (1 : Int32)), .val (.int x1), .val (.int (1 : Int32))] [])) (fun t k => XS.ifNo X39.here hx rfl (hb hby at_151) rfl ((if0 _ _).trans (feq (by decide)).1) k) ?_
    refine own_to (T39.setTop (mkF m 155 #[.val (.int x1), .val (.int x2), .val (.int x3), .val (.int md), .val (.int (1 : Int32)), .val (.ref a26), .val (.int x2), .val (.int (1 : Int32)), .val (.int x3), .val (.int (1 : Int32)), .val (.int x1), .val (.int (1 : Int32))] [(.int (1 : Int32))])) (fun t k => XT.iconstV X39.here hx rfl (1 : Int32) (hb hby at_154) (by decide) k) ?_
    refine own_to (T39.setTop (mkF m 159 #[.val (.int x1), .val (.int x2), .val (.int x3), .val (.int md), .val (.int (1 : Int32)), .val (.ref a26), .val (.int x2), .val (.int (1 : Int32)), .val (.int x3), .val (.int (1 : Int32)), .val (.int x1), .val (.int (1 : Int32))] [(.int (1 : Int32))])) (fun t k => XS.goto X39.here hx rfl (pc0 := 155) (pc' := 159) rfl (hb hby at_155) (by decide) (by decide) k) ?_
    exact own_retZ X39 hx hret hk (i' := (1 : Int32)) (hb hby at_159) (by decide) (by decide) (by decide) ⟨rfl, N39⟩
set_option maxRecDepth 65536 in
set_option maxHeartbeats 40000000 in
theorem comes_1 {Post : Tables → Env → Array Value → State → Outcome → State → Prop} (hpost : ∀ tb e args s v u, (limb_1_1.after args s (.returned v) u = true ∧ limb_1_2.after args s (.returned v) u = true ∧ True) → FrameEnd s (.returned v) u (Jvm.fieldLocs frame_1_writes args s ++ Jvm.arrayLocs frame_1_arrays args s ++ Jvm.staticLocs frame_1_statics s) 16 256 → Post tb e args s (.returned v) u) :
    ArmFor flags0 classFile x code maxLocals ret World_1 tables_1 room_1 Calls_1 rest_1 Pre_1 Post := by
  intro l hfl _ _ p e ha hc hk s m args below hf hA hF happ hP
  obtain ⟨hcalls, hrest, hpre⟩ := hP
  obtain ⟨-, -, -, hnamed, -, -, -, hat⟩ := (Spec.applies_iff hf).mp happ
  obtain ⟨hg, hn⟩ := and_e (Cond.before_iff.mp (show (Jvm.Cond.and given_1 narrow_1).before args s = true from hpre))
  obtain ⟨g0, k0⟩ := and_e hg
  obtain ⟨w0, w1, w2, w3, rfl⟩ : ∃ w0 w1 w2 w3 : Value, args = #[w0, w1, w2, w3] := by
    have hs : args.size = 4 := by simpa [Cond.value, given_1] using g0
    obtain ⟨L⟩ := args
    match L, hs with
    | [w0, w1, w2, w3], _ => exact ⟨w0, w1, w2, w3, rfl⟩
  have hw := fun d (hd : d ∈ tables_1) => atoms_spec (ws := Jvm.Cond.code x code maxLocals ret :: tables_1) hat d (List.mem_cons_of_mem _ hd)
  have hfit : Fit s := fun {y c} hc i hi => by
    obtain ⟨ha, rfl⟩ := Array.getElem?_eq_some_iff.mp hc
    have q := List.all_eq_true.mp ((Array.all_eq_true_iff_forall_mem.mp hF) _ (Array.getElem_mem ha)) i (List.mem_range.mpr hi)
    simpa [Array.getElem?_eq_getElem hi] using q
  obtain ⟨g1, k1⟩ := and_e k0
  obtain ⟨i0, ei0⟩ := is_v g1
  obtain rfl : w0 = (.int i0) := Option.some.inj ei0
  obtain ⟨g2, k2⟩ := and_e k1
  obtain ⟨i1, ei1⟩ := is_v g2
  obtain rfl : w1 = (.int i1) := Option.some.inj ei1
  obtain ⟨g3, k3⟩ := and_e k2
  obtain ⟨i2, ei2⟩ := is_v g3
  obtain rfl : w2 = (.int i2) := Option.some.inj ei2
  obtain ⟨i3, ei3⟩ := is_v k3
  obtain rfl : w3 = (.int i3) := Option.some.inj ei3
  obtain ⟨n, o, h1, h2, h3, _, L, rfl, ⟨rfl, N⟩, hq⟩ := rm0 l s _ hw i0 i1 i2 i3 s.heap s.heap.size (Nat.le_refl _) tables_1 p e ha hc hk s m _ below hf ((Spec.applies_iff_loose hf).mp happ).1 ⟨rfl, State.Warmed39.refl s, rfl⟩ trivial
  refine ⟨n, _, h1, h2, h3, hpost _ _ _ _ _ _ ⟨Cond.after_iff.mpr rfl, Cond.after_iff.mpr (eq_i res_at (Term.int_eval (1)) rfl), trivial⟩ ⟨hq.1, hq.2.1, (hq.2.2.sift fun y hy => Or.inr (N y hy)).mono (by decide) (by decide)⟩⟩
theorem main_1_1 : Claimed_1_1 := comes_1 fun _ _ _ _ _ _ h hF => ⟨h.1, hF⟩
theorem main_1_2 : Claimed_1_2 := comes_1 fun _ _ _ _ _ _ h hF => ⟨h.2.1, hF⟩
end Jvm.Pilot.@@N@@
namespace Jvm.Pilot.@@N@@
open Jvm Jvm.ClassFile Sem Op Lib Jvm.Free Jvm.Stand Jvm.Pilot.@@N@@.Jvm.D
/-! MADE BY PROGRAM (witnessworld.py) out of the Statement's table words and the real class files: 9 classes; the members and pool entries that the words name. The judged class is class 1, her method 1. -/
namespace start1
open Jvm.ClassFile
def u (s : String) : CpInfo := .utf8 (stringToUtf16 s)
/-- a pool by its gaps: so many unusable entries, then the entry; so many at the end -/
def gap : Nat → List CpInfo → List CpInfo
  | 0, r => r
  | n + 1, r => .unusable :: gap n r
def poolList (es : List (Nat × CpInfo)) (last : Nat) : List CpInfo := es.foldr (fun e r => gap e.1 (e.2 :: r)) (gap last [])
def pool (es : List (Nat × CpInfo)) (last : Nat) : Array CpInfo := ⟨poolList es last⟩
def fileOf (pool : Array CpInfo) (this : Nat) (attrs : Array Attribute := #[]) (ms : Array MethodInfo := #[]) (fl : Nat := 33) (sup : Nat := 0) (ifs : Array Nat := #[]) (fds : Array FieldInfo := #[]) : ClassFile where
  minorVersion := 0
  majorVersion := 65
  constantPool := pool
  accessFlags := fl
  thisClass := this
  superClass := sup
  interfaces := ifs
  fields := fds
  methods := ms
  attributes := attrs
def plain (name : String) (sup : Option ClassId) : Class where
  name := name
  kind := .ordinary
  loader := none
  accessFlags := 33
  super := sup
  interfaces := #[]
  cf := none
  fields := #[]
  methods := #[]
  instanceTypes := #[]
  staticTypes := #[]
  resolved := #[]
  callSites := []
  init := .initialized
  statics := none
  mirror := none

def pool0 : Array CpInfo := pool [(5, u "<init>"), (0, u "()V"), (1, .class_ 10), (1, u "java/lang/Object")] 113

def k0c0 : Code := { maxStack := 0, maxLocals := 1, code := object_method_1_code, exceptionTable := #[], attributes := #[] }
def k0m0 : Method := { name := "<init>", desc := "()V", sig := { parameters := [], returnType := none }, accessFlags := 1, code := some k0c0 }
/-- java/lang/Object -/
def k0 : Class := { plain "java/lang/Object" none with
  accessFlags := 33
  interfaces := #[]
  cf := some (fileOf pool0 8 #[] #[{ accessFlags := 1, nameIndex := 5, descriptorIndex := 6, attributes := #[] }] 33 0 #[] #[])
  fields := #[]
  methods := #[k0m0]
  instanceTypes := #[]
  staticTypes := #[]
  resolved := Array.replicate 124 none
  statics := none }

def pool1 : Array CpInfo := pool [(2, .class_ 4), (0, .nameAndType 5 6), (0, u "java/lang/Object"), (0, u "<init>"), (0, u "()V"), (0, .class_ 8), (0, u "com/example/amberroot/amberroot/IntStack"), (0, .methodref 7 3), (0, .methodref 7 11), (0, .nameAndType 12 13), (0, u "push"), (0, u "(I)V"), (0, .methodref 7 15), (0, .nameAndType 16 17), (0, u "pop"), (0, u "()I"), (0, .methodref 7 19), (0, .nameAndType 20 17), (0, u "size"), (0, .methodref 7 22), (0, .nameAndType 23 24), (0, u "isEmpty"), (0, u "()Z"), (0, .class_ 26), (0, u "com/example/amberroot/amberroot/IntStackPopPinLaw"), (2, u "law"), (0, u "(IIII)Z")] 3

def k1m0 : Method := { name := "<init>", desc := "()V", sig := { parameters := [], returnType := none }, accessFlags := 1, code := none }
def k1c1 : Code := { maxStack := 2, maxLocals := 12, code := code, exceptionTable := #[], attributes := #[] }
def k1m1 : Method := { name := "law", desc := "(IIII)Z", sig := { parameters := [.int, .int, .int, .int], returnType := some .boolean }, accessFlags := 9, code := some k1c1 }
/-- com/example/amberroot/amberroot/IntStackPopPinLaw -/
def k1 : Class := { plain "com/example/amberroot/amberroot/IntStackPopPinLaw" (some 0) with
  accessFlags := 49
  interfaces := #[]
  cf := some (fileOf pool1 25 #[] #[{ accessFlags := 1, nameIndex := 5, descriptorIndex := 6, attributes := #[] }, { accessFlags := 9, nameIndex := 29, descriptorIndex := 30, attributes := #[] }] 49 2 #[] #[])
  fields := #[]
  methods := #[k1m0, k1m1]
  instanceTypes := #[]
  staticTypes := #[]
  resolved := Array.replicate 34 none
  statics := none }

def pool2 : Array CpInfo := pool [(1, .class_ 2), (0, u "com/example/amberroot/amberroot/IntStack"), (0, .methodref 4 5), (0, .class_ 6), (0, .nameAndType 7 8), (0, u "java/lang/Object"), (0, u "<init>"), (0, u "()V"), (0, .class_ 10), (0, u "[I"), (0, .fieldref 1 12), (0, .nameAndType 13 14), (0, u "pages"), (0, u "[[I"), (0, .fieldref 1 16), (0, .nameAndType 17 18), (0, u "size"), (0, u "I"), (10, u "PAGE_BITS"), (2, u "PAGE_SIZE"), (3, u "()I"), (0, u "isEmpty"), (0, u "()Z"), (1, u "push"), (0, u "(I)V"), (0, u "pop")] 2

def k2c0 : Code := { maxStack := 5, maxLocals := 1, code := prog_39_method_1_code, exceptionTable := #[], attributes := #[] }
def k2m0 : Method := { name := "<init>", desc := "()V", sig := { parameters := [], returnType := none }, accessFlags := 0, code := some k2c0 }
def k2c1 : Code := { maxStack := 1, maxLocals := 1, code := prog_39_method_2_code, exceptionTable := #[], attributes := #[] }
def k2m1 : Method := { name := "size", desc := "()I", sig := { parameters := [], returnType := some .int }, accessFlags := 0, code := some k2c1 }
def k2c2 : Code := { maxStack := 1, maxLocals := 1, code := prog_39_method_3_code, exceptionTable := #[], attributes := #[] }
def k2m2 : Method := { name := "isEmpty", desc := "()Z", sig := { parameters := [], returnType := some .boolean }, accessFlags := 0, code := some k2c2 }
def k2c3 : Code := { maxStack := 5, maxLocals := 4, code := prog_39_method_4_code, exceptionTable := #[], attributes := #[] }
def k2m3 : Method := { name := "push", desc := "(I)V", sig := { parameters := [.int], returnType := none }, accessFlags := 0, code := some k2c3 }
def k2c4 : Code := { maxStack := 3, maxLocals := 1, code := prog_39_method_5_code, exceptionTable := #[], attributes := #[] }
def k2m4 : Method := { name := "pop", desc := "()I", sig := { parameters := [], returnType := some .int }, accessFlags := 0, code := some k2c4 }
/-- com/example/amberroot/amberroot/IntStack -/
def k2 : Class := { plain "com/example/amberroot/amberroot/IntStack" (some 0) with
  accessFlags := 48
  interfaces := #[]
  cf := some (fileOf pool2 1 #[] #[{ accessFlags := 0, nameIndex := 7, descriptorIndex := 8, attributes := #[] }, { accessFlags := 0, nameIndex := 17, descriptorIndex := 36, attributes := #[] }, { accessFlags := 0, nameIndex := 37, descriptorIndex := 38, attributes := #[] }, { accessFlags := 0, nameIndex := 40, descriptorIndex := 41, attributes := #[] }, { accessFlags := 0, nameIndex := 42, descriptorIndex := 36, attributes := #[] }] 48 4 #[] #[{ accessFlags := 26, nameIndex := 29, descriptorIndex := 18, attributes := #[] }, { accessFlags := 26, nameIndex := 32, descriptorIndex := 18, attributes := #[] }, { accessFlags := 2, nameIndex := 13, descriptorIndex := 14, attributes := #[] }, { accessFlags := 2, nameIndex := 17, descriptorIndex := 18, attributes := #[] }])
  fields := #[{ name := "PAGE_BITS", type := .int, accessFlags := 26, slot := 0, constantValue := 0 }, { name := "PAGE_SIZE", type := .int, accessFlags := 26, slot := 1, constantValue := 0 }, { name := "pages", type := (.array (.array .int)), accessFlags := 2, slot := 0, constantValue := 0 }, { name := "size", type := .int, accessFlags := 2, slot := 1, constantValue := 0 }]
  methods := #[k2m0, k2m1, k2m2, k2m3, k2m4]
  instanceTypes := #[(.array (.array .int)), .int]
  staticTypes := #[.int, .int]
  resolved := Array.replicate 45 none
  statics := none }

def pool3 : Array CpInfo := pool [(1, u "java/lang/Cloneable"), (0, .class_ 1), (0, u "java/lang/Object"), (0, .class_ 3)] 3

/-- java/lang/Cloneable -/
def k3 : Class := { plain "java/lang/Cloneable" (some 0) with
  accessFlags := 1537
  interfaces := #[]
  cf := some (fileOf pool3 2 #[] #[] 1537 4 #[] #[])
  fields := #[]
  methods := #[]
  instanceTypes := #[]
  staticTypes := #[]
  resolved := Array.replicate 8 none
  statics := none }

def pool4 : Array CpInfo := pool [(1, u "java/io/Serializable"), (0, .class_ 1), (0, u "java/lang/Object"), (0, .class_ 3)] 3

/-- java/io/Serializable -/
def k4 : Class := { plain "java/io/Serializable" (some 0) with
  accessFlags := 1537
  interfaces := #[]
  cf := some (fileOf pool4 2 #[] #[] 1537 4 #[] #[])
  fields := #[]
  methods := #[]
  instanceTypes := #[]
  staticTypes := #[]
  resolved := Array.replicate 8 none
  statics := none }

/-- the primitive byte -/
def k5 : Class := { plain "byte" none with kind := .primitive 'B', accessFlags := 0x411 }
/-- [B -/
def k6 : Class := { plain "[B" (some 0) with kind := .array 5 .byte, interfaces := #[3, 4], accessFlags := 1041 }

/-- the primitive int -/
def k7 : Class := { plain "int" none with kind := .primitive 'I', accessFlags := 0x411 }
/-- [I -/
def k8 : Class := { plain "[I" (some 0) with kind := .array 7 .int, interfaces := #[3, 4], accessFlags := 1041 }

/-- [[I -/
def k9 : Class := { plain "[[I" (some 0) with kind := .array 8 (.array .int), interfaces := #[3, 4], accessFlags := 1041 }

def heap : Heap := #[]
def classes : Array Class := #[k0, k1, k2, k3, k4, k5, k6, k7, k8, k9]
def interned : List (Array UInt16 × Addr) := []
def slotsUsed : Nat := 0
def theMethod : MethodId := ⟨1, 1⟩
def args0 : Array Value := #[.int 5, .int 7, .int 8, .int 1]
def aboutOver (below : List Frame) : State where
  vm := { classes := classes, interned := interned.toArray }
  heap := heap
  slotsUsed := slotsUsed
  threads := #[{ frames := .invoking theMethod args0 :: below }]
def below0 : List Frame := [.native { method := ⟨0, 0⟩, args := #[] }]
def about1 : State := aboutOver below0
def p0 : Program := .bare "" "" ""
def e0 : Env := launch0.env 0 0 0
theorem w_frames : about1.frames = Frame.invoking theMethod args0 :: below0 := rfl
set_option maxRecDepth 65536 in
theorem w_args : argsFit about1.vm theMethod args0 = true := by decide +kernel
set_option maxRecDepth 65536 in
theorem w_heap : heapFits about1 = true := by decide +kernel
set_option maxRecDepth 65536 in
theorem w_runnable : about1.curStatus? = some .runnable := by decide +kernel
set_option maxRecDepth 65536 in
theorem w_alone : about1.alone = true := by decide +kernel
set_option maxRecDepth 65536 in
theorem w_named : about1.methodNamed? x = some theMethod := by decide +kernel
set_option maxRecDepth 65536 in
theorem w_hears : about1.hears theMethod below0 = true := by decide +kernel
set_option maxRecDepth 65536 in
theorem w_ripe : about1.ripe theMethod args0 below0 = true := by decide +kernel
theorem w_running : about1.status = .running := rfl
set_option maxRecDepth 65536 in
theorem w_room : about1.hasRoom e0.platform room_1 = true :=
  launch0.hasRoom_least _ room_1 (by decide +kernel) (by decide +kernel) (by decide +kernel) (by decide +kernel) (by decide +kernel) (by decide +kernel)
theorem allAtoms_all (ts : List Jvm.Cond) (a : Array Jvm.Value) (st : Jvm.State) : (allAtoms ts).before a st = ts.all (fun c => c.before a st) := by
  induction ts with
  | nil => rfl
  | cons c t ih =>
    show (Jvm.Cond.and c (allAtoms t)).before a st = _
    rw [Jvm.Cond.before_and, ih, List.all_cons]
def words1 : List Jvm.Cond := Jvm.Cond.code x code maxLocals ret :: tables_1
/-- a 'code' word, met by the world's own term for the bytes: nothing is compared byte by byte -/
theorem code_word {y : MethodName} {bytes : ByteArray} {mx : Nat} {rt : Option FieldType} {a : Array Value} {s : State} {m : MethodId} {meth : Method} {c : Code} (h1 : s.methodNamed? y = some m) (h2 : s.vm.method? m = some meth) (h3 : meth.code = some c) (h4 : c.code = bytes)
    (h5 : (c.maxLocals == mx && c.exceptionTable.isEmpty && decide (c.maxStack ≤ mostOperands) && decide (meth.sig.returnType = rt) && !meth.locks && decide (parseMethodDescriptor y.desc = some meth.sig)) = true) : (Jvm.Cond.code y bytes mx rt).before a s = true := by
  simp only [Bool.and_eq_true, beq_iff_eq, Bool.not_eq_true', decide_eq_true_eq] at h5
  obtain ⟨⟨⟨⟨⟨g1, g2⟩, g3⟩, g4⟩, g5⟩, g6⟩ := h5
  simp [Cond.before, Cond.holds, Cond.value, h1, h2, h3, h4, g1, g2, g3, g4, g5, g6]
def isCode : Jvm.Cond → Bool
  | .code _ _ _ _ => true
  | _ => false
theorem all_split {L : List Jvm.Cond} {P : Jvm.Cond → Bool} (h1 : L.all (fun c => isCode c || P c) = true) (h2 : ∀ c ∈ L.filter isCode, P c = true) : L.all P = true := by
  refine List.all_eq_true.mpr fun c hc => ?_
  have h := List.all_eq_true.mp h1 c hc
  rcases Bool.eq_false_or_eq_true (isCode c) with hi | hi
  · exact h2 c (List.mem_filter.mpr ⟨hc, hi⟩)
  · simpa [hi] using h
set_option maxRecDepth 65536 in
theorem w_c0 : (Jvm.Cond.code x code maxLocals ret).before args0 about1 = true := code_word (m := ⟨1, 1⟩) (meth := k1m1) (c := k1c1) (by decide +kernel) rfl rfl rfl (by decide +kernel)
set_option maxRecDepth 65536 in
theorem w_c1 : (Jvm.Cond.code ({ cls := "com/example/amberroot/amberroot/IntStack", name := "<init>", desc := "()V" } : Jvm.MethodName) prog_39_method_1_code (1 : Nat) (Option.none : Option Jvm.ClassFile.FieldType)).before args0 about1 = true := code_word (m := ⟨2, 0⟩) (meth := k2m0) (c := k2c0) (by decide +kernel) rfl rfl rfl (by decide +kernel)
set_option maxRecDepth 65536 in
theorem w_c2 : (Jvm.Cond.code ({ cls := "java/lang/Object", name := "<init>", desc := "()V" } : Jvm.MethodName) object_method_1_code (1 : Nat) (Option.none : Option Jvm.ClassFile.FieldType)).before args0 about1 = true := code_word (m := ⟨0, 0⟩) (meth := k0m0) (c := k0c0) (by decide +kernel) rfl rfl rfl (by decide +kernel)
set_option maxRecDepth 65536 in
theorem w_c3 : (Jvm.Cond.code ({ cls := "com/example/amberroot/amberroot/IntStack", name := "push", desc := "(I)V" } : Jvm.MethodName) prog_39_method_4_code (4 : Nat) (Option.none : Option Jvm.ClassFile.FieldType)).before args0 about1 = true := code_word (m := ⟨2, 3⟩) (meth := k2m3) (c := k2c3) (by decide +kernel) rfl rfl rfl (by decide +kernel)
set_option maxRecDepth 65536 in
theorem w_c4 : (Jvm.Cond.code ({ cls := "com/example/amberroot/amberroot/IntStack", name := "pop", desc := "()I" } : Jvm.MethodName) prog_39_method_5_code (1 : Nat) (Option.some Jvm.ClassFile.FieldType.int)).before args0 about1 = true := code_word (m := ⟨2, 4⟩) (meth := k2m4) (c := k2c4) (by decide +kernel) rfl rfl rfl (by decide +kernel)
set_option maxRecDepth 65536 in
theorem w_c5 : (Jvm.Cond.code ({ cls := "com/example/amberroot/amberroot/IntStack", name := "size", desc := "()I" } : Jvm.MethodName) prog_39_method_2_code (1 : Nat) (Option.some Jvm.ClassFile.FieldType.int)).before args0 about1 = true := code_word (m := ⟨2, 1⟩) (meth := k2m1) (c := k2c1) (by decide +kernel) rfl rfl rfl (by decide +kernel)
set_option maxRecDepth 65536 in
theorem w_c6 : (Jvm.Cond.code ({ cls := "com/example/amberroot/amberroot/IntStack", name := "isEmpty", desc := "()Z" } : Jvm.MethodName) prog_39_method_3_code (1 : Nat) (Option.some Jvm.ClassFile.FieldType.boolean)).before args0 about1 = true := code_word (m := ⟨2, 2⟩) (meth := k2m2) (c := k2c2) (by decide +kernel) rfl rfl rfl (by decide +kernel)
def codes1 : List Jvm.Cond := [Jvm.Cond.code x code maxLocals ret, Jvm.Cond.code ({ cls := "com/example/amberroot/amberroot/IntStack", name := "<init>", desc := "()V" } : Jvm.MethodName) prog_39_method_1_code (1 : Nat) (Option.none : Option Jvm.ClassFile.FieldType), Jvm.Cond.code ({ cls := "java/lang/Object", name := "<init>", desc := "()V" } : Jvm.MethodName) object_method_1_code (1 : Nat) (Option.none : Option Jvm.ClassFile.FieldType), Jvm.Cond.code ({ cls := "com/example/amberroot/amberroot/IntStack", name := "push", desc := "(I)V" } : Jvm.MethodName) prog_39_method_4_code (4 : Nat) (Option.none : Option Jvm.ClassFile.FieldType), Jvm.Cond.code ({ cls := "com/example/amberroot/amberroot/IntStack", name := "pop", desc := "()I" } : Jvm.MethodName) prog_39_method_5_code (1 : Nat) (Option.some Jvm.ClassFile.FieldType.int), Jvm.Cond.code ({ cls := "com/example/amberroot/amberroot/IntStack", name := "size", desc := "()I" } : Jvm.MethodName) prog_39_method_2_code (1 : Nat) (Option.some Jvm.ClassFile.FieldType.int), Jvm.Cond.code ({ cls := "com/example/amberroot/amberroot/IntStack", name := "isEmpty", desc := "()Z" } : Jvm.MethodName) prog_39_method_3_code (1 : Nat) (Option.some Jvm.ClassFile.FieldType.boolean)]
set_option maxRecDepth 65536 in
theorem codes_eq : words1.filter isCode = codes1 := rfl
theorem w_codes : ∀ c ∈ words1.filter isCode, c.before args0 about1 = true := by
  rw [codes_eq]
  intro c hc
  simp only [codes1, List.mem_cons, List.not_mem_nil, or_false] at hc
  rcases hc with rfl | rfl | rfl | rfl | rfl | rfl | rfl
  · exact w_c0
  · exact w_c1
  · exact w_c2
  · exact w_c3
  · exact w_c4
  · exact w_c5
  · exact w_c6
set_option maxRecDepth 65536 in
theorem w_t1 : (words1.take 24).all (fun c => isCode c || c.before args0 about1) = true := by decide +kernel
set_option maxRecDepth 65536 in
theorem w_t2 : (words1.drop 24).all (fun c => isCode c || c.before args0 about1) = true := by decide +kernel
theorem w_tables : (allAtoms (Jvm.Cond.code x code maxLocals ret :: tables_1)).before args0 about1 = true := by
  rw [allAtoms_all]
  show words1.all (fun c => c.before args0 about1) = true
  refine all_split ?_ w_codes
  rw [← List.take_append_drop 24 words1, List.all_append, w_t1, w_t2]
  rfl
set_option maxRecDepth 65536 in
theorem w_case : (Jvm.Cond.and given_1 narrow_1).before args0 about1 = true := by decide +kernel
theorem w_applies : (headSpec (Jvm.Cond.code x code maxLocals ret :: tables_1) room_1).applies x e0.platform about1 = true :=
  (Spec.applies_iff w_frames).mpr ⟨w_running, w_runnable, w_alone, w_named, w_hears, w_ripe, w_room, w_tables⟩
theorem atStart : AtStart classFile x code maxLocals ret World_1 tables_1 room_1 Calls_1 rest_1 Pre_1 launch0 p0 e0 about1 theMethod args0 below0 :=
  ⟨lists_1, trivial, launch0.admits_env _ _ _, launch0.least_env, fairChoices_fair.cas, fairChoices_fair.clock, w_frames, w_args, w_heap, w_applies, trivial, trivial, w_case⟩
end start1
theorem witness_1 : WitnessClaimed_1 := ⟨start1.p0, start1.e0, start1.about1, start1.theMethod, start1.args0, start1.below0, start1.atStart⟩
end Jvm.Pilot.@@N@@
